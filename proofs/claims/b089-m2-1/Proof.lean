import JvmDerived
import JvmDerived.Pilot.@@N@@Statement
import JvmDerived.Pilot.@@N@@Code
set_option linter.unusedVariables false
set_option linter.unusedSimpArgs false
namespace Jvm.RoadKit
open Sem ClassFile Op Lib Jvm.Stand Jvm.Free Jvm.LawKit
section Own
variable {p : Program} {l : Launch} {e : Env} {R : Room} {s : State} {m : MethodId} {args : Array Value} {below : List Frame} {meth : Method} {c : Code} {T A B : State} {locs : List Loc} {cells slots K N : Nat} {Q : Option Value → Heap → List Loc → Prop}
/-- from A the walk comes to its end, and Q holds there -/
def OutW (p : Program) (e : Env) (below : List Frame) (s : State) (K N : Nat) (Q : Option Value → Heap → List Loc → Prop) (A : State) : Prop :=
  ∃ s₂ o, Steps p.tables e below A s₂ ∧ s₂.status = .running ∧ Ended s₂ below o ∧ ∃ v L, o = .returned v ∧ Q v s₂.heap L ∧ FrameEnd s o s₂ L K N
/-- a body that writes nothing: what it returns -/
def Qpure (h0 : Heap) (n0 : Nat) (r : Value) (v : Option Value) (h : Heap) (L : List Loc) : Prop := v = some r ∧ Fr n0 L ∧ h = h0
theorem OutW.back (h : ∀ t, Steps p.tables e below B t → Steps p.tables e below A t) (k : OutW p e below s K N Q B) : OutW p e below s K N Q A := by
  obtain ⟨t, o, h1, h2⟩ := k
  exact ⟨t, o, h t h1, h2⟩
theorem OutW.via (h : Steps p.tables e below A B) (k : OutW p e below s K N Q B) : OutW p e below s K N Q A := by
  obtain ⟨t, o, h1, h2⟩ := k
  exact ⟨t, o, h.trans h1, h2⟩
theorem OutW.retV (X : Stand p l e R s m args below meth c T locs cells slots) (hx : p.tables.exec = Jvm.exec) {pc : Nat} {Ls : Array Slot} (hret : meth.sig.returnType = none) (hlk : meth.locks = false) (hd : decode c.code pc = .ok (.return_, 1))
    (hK : cells ≤ K) (hN : slots ≤ N) (hq : Q none T.heap locs) : OutW p e below s K N Q (T.setTop (mkF m pc Ls [])) := by
  obtain ⟨fs, hr, hrun, hended, hW, hsame⟩ := X.leave (v := none) (fun _ => rfl) hlk
  exact ⟨_, _, X.returnOut hx hret hd hr, hrun, hended, _, _, rfl, hq, ⟨_, rfl⟩, hW, hsame.mono hK hN⟩
theorem OutW.retI (X : Stand p l e R s m args below meth c T locs cells slots) (hx : p.tables.exec = Jvm.exec) {pc : Nat} {Ls : Array Slot} {z : Int32} {rest : List Value} (hret : meth.sig.returnType = some .int) (hlk : meth.locks = false) (hd : decode c.code pc = .ok (.ireturn, 1))
    (hK : cells ≤ K) (hN : slots ≤ N) (hq : Q (some (.int z)) T.heap locs) : OutW p e below s K N Q (T.setTop (mkF m pc Ls (.int z :: rest))) := by
  obtain ⟨fs, hr, hrun, hended, hW, hsame⟩ := X.leave (v := some (.int z)) (fun h => by rw [hret] at h; cases h) hlk
  exact ⟨_, _, retOut X hx hret rfl (Or.inl ⟨rfl, Or.inl rfl, z, rfl⟩) hd hr, hrun, hended, _, _, rfl, hq, ⟨_, rfl⟩, hW, hsame.mono hK hN⟩
theorem OutW.retJ (X : Stand p l e R s m args below meth c T locs cells slots) (hx : p.tables.exec = Jvm.exec) {pc : Nat} {Ls : Array Slot} {z : Int64} {rest : List Value} (hret : meth.sig.returnType = some .long) (hlk : meth.locks = false) (hd : decode c.code pc = .ok (.lreturn, 1))
    (hK : cells ≤ K) (hN : slots ≤ N) (hq : Q (some (.long z)) T.heap locs) : OutW p e below s K N Q (T.setTop (mkF m pc Ls (.long z :: rest))) := by
  obtain ⟨fs, hr, hrun, hended, hW, hsame⟩ := X.leave (v := some (.long z)) (fun h => by rw [hret] at h; cases h) hlk
  exact ⟨_, _, retOut X hx hret rfl (Or.inr (Or.inl ⟨rfl, rfl, z, rfl⟩)) hd hr, hrun, hended, _, _, rfl, hq, ⟨_, rfl⟩, hW, hsame.mono hK hN⟩
theorem nar_ref {t : FieldType} {v : Value} (h : v.isRef = true) : narrow t v = v := by
  rcases ref_cases h with rfl | ⟨a, rfl⟩ <;> cases t <;> rfl
theorem cat_ref {v : Value} (h : v.isRef = true) : v.category = 1 := by
  rcases ref_cases h with rfl | ⟨a, rfl⟩ <;> rfl
theorem fit_ref {t : FieldType} {v : Value} (ht : refKind t = true) (h : v.isRef = true) : fits t v = true := by
  rcases ref_cases h with rfl | ⟨a, rfl⟩ <;> cases t <;> first | rfl | (simp [refKind] at ht)
theorem OutW.retA (X : Stand p l e R s m args below meth c T locs cells slots) (hx : p.tables.exec = Jvm.exec) {pc : Nat} {Ls : Array Slot} {w : Value} {t : FieldType} {rest : List Value} (hret : meth.sig.returnType = some t) (ht : t.isReference = true) (hw : w.isRef = true) (hlk : meth.locks = false) (hd : decode c.code pc = .ok (.areturn, 1))
    (hK : cells ≤ K) (hN : slots ≤ N) (hq : Q (some w) T.heap locs) : OutW p e below s K N Q (T.setTop (mkF m pc Ls (w :: rest))) := by
  obtain ⟨fs, hr, hrun, hended, hW, hsame⟩ := X.leave (v := some w) (fun h => by rw [hret] at h; cases h) hlk
  exact ⟨_, _, retOut X hx hret (nar_ref hw) (Or.inr (Or.inr (Or.inr (Or.inr ⟨rfl, ht, hw⟩)))) hd hr, hrun, hended, _, _, rfl, hq, ⟨_, rfl⟩, hW, hsame.mono hK hN⟩
theorem OutW.retN (X : Stand p l e R s m args below meth c T locs cells slots) (hx : p.tables.exec = Jvm.exec) {pc : Nat} {Ls : Array Slot} {z z' : Int32} {t : FieldType} {rest : List Value} (hret : meth.sig.returnType = some t) (ht : t = .boolean ∨ t = .byte ∨ t = .char ∨ t = .short) (hlk : meth.locks = false) (hd : decode c.code pc = .ok (.ireturn, 1)) (hz : nar t z = z')
    (hK : cells ≤ K) (hN : slots ≤ N) (hq : Q (some (.int z')) T.heap locs) : OutW p e below s K N Q (T.setTop (mkF m pc Ls (.int z :: rest))) := by
  subst hz
  obtain ⟨fs, hr, hrun, hended, hW, hsame⟩ := X.leave (v := some (.int (nar t z))) (fun h => by rw [hret] at h; cases h) hlk
  exact ⟨_, _, Jvm.RoadKit.retN X hx hret ht hd hr, hrun, hended, _, _, rfl, hq, ⟨_, rfl⟩, hW, hsame.mono hK hN⟩
theorem store1' {L L' : Array Slot} {i : Nat} {v : Value} {o : Slot} (hold : L[i]? = some o) (ho : One o) (hv : v.category = 1) (h : L.setIfInBounds i (.val v) = L') : storeLocals L i v = some L' := h ▸ XS.store1 hold ho hv
theorem own_lt_mono {x a b : Int32} (h : x < a) (q : a ≤ b) : x < b := by
  rw [Int32.lt_iff_toInt_lt] at *
  rw [Int32.le_iff_toInt_le] at q
  omega
theorem own_nlt_mono {x a b : Int32} (h : ¬ x < a) (q : b ≤ a) : ¬ x < b := by
  rw [Int32.lt_iff_toInt_lt] at *
  rw [Int32.le_iff_toInt_le] at q
  omega
/-- every element of the array's cell is an object of exactly that class -/
def Els (Z : State) (h : Heap) (cl : Cell) (C : String) : Prop := ∀ j : Int32, ¬ (j < 0 ∨ cl.slots.size ≤ j.toNatClampNeg) → ∃ y : Addr, cl.slots[j.toNatClampNeg]? = some (.ref y) ∧ Exa Z h y C
theorem own_Uext {Z : State} {h h' : Heap} {cl : Cell} {C : String} (U : Els Z h cl C) (E : Ext h h') : Els Z h' cl C := fun j hj => by
  obtain ⟨y, a, b⟩ := U j hj
  exact ⟨y, a, b.ext E⟩
theorem own_Uwr {Z : State} {h h' : Heap} {cl : Cell} {C : String} {a : Addr} {sl : Nat} {v : Value} (U : Els Z h cl C) (W : Wr h h' a sl v) : Els Z h' cl C := fun j hj => by
  obtain ⟨y, q, b⟩ := U j hj
  exact ⟨y, q, b.wr W⟩
theorem own_Ukeep {Z : State} {h h' : Heap} {cl : Cell} {C : String} {ws : List Addr} (U : Els Z h cl C) (K : Keep h h' ws) : Els Z h' cl C := fun j hj => by
  obtain ⟨y, a, b⟩ := U j hj
  exact ⟨y, a, b.keep K⟩
theorem own_Akeep {Z : State} {h h' : Heap} {a : Addr} {c : Cell} {ty : FieldType} {ws : List Addr} (A : Arr Z h a c ty) (K : Keep h h' ws) (q : a ∉ ws) : Arr Z h' a c ty := ⟨K.2.1 a c A.1 q, A.2⟩
theorem own_notFace {args : Array Value} {s : State} {C : String} {x z y : MethodName} (h : (Cond.selects C x z).before args s = true) (e : y.cls = z.cls) : NotFace s y := fun r0 h0 => by
  obtain ⟨c, r, m, q1, q2, q3, q4, mk, k1, k2⟩ := Cond.selects_spec h
  have a := findClass_of_methodNamed h0
  have b := findClass_of_methodNamed q3
  rw [e] at a
  have i : r0.cls = m.cls := Option.some.inj (a.symm.trans b)
  exact ⟨mk, by rw [i]; exact k1, k2⟩
theorem own_keepS {Z : State} {h h' : Heap} {C n d : String} {v : Value} {ws : List Addr} (F : Sta Z h C n d v) (K : Keep h h' ws) (q : ∀ x ∈ ws, ∃ C', Exa Z h x C') : Sta Z h' C n d v := by
  obtain ⟨cf, i, k, f, st, cell, h1, h2, h3, h4, h5, h6, h7⟩ := F
  have ne : st ∉ ws := fun hm => by
    obtain ⟨C', c', k', e1, -, -, e4, -⟩ := q st hm
    cases h5.symm.trans e1
    rw [h6] at e4; cases e4
  exact ⟨cf, i, k, f, st, cell, h1, h2, h3, h4, K.2.1 _ _ h5 ne, h6, h7⟩
end Own
end Jvm.RoadKit
namespace Jvm.Pilot.@@N@@
open Jvm Jvm.ClassFile Sem Op Lib Jvm.Free Jvm.Stand Jvm.LawKit Jvm.RoadKit Bundle Jvm.Pilot.@@N@@.Jvm.D
def negz0 (w0 : Int32) (w1 : Int32) (w2 : Int32) (w3 : Int32) (w4 : Int32) (w5 : Int32) (w6 : Int32) (w7 : Int32) : Int32 := (if w0 = (0 : Int32) then (if w1 = (0 : Int32) then (if w2 = (0 : Int32) then (if w3 = (0 : Int32) then (if w4 = (0 : Int32) then (if w5 = (0 : Int32) then (if w6 = (0 : Int32) then (if w7 = (-128 : Int32) then (1 : Int32) else (0 : Int32)) else (0 : Int32)) else (0 : Int32)) else (0 : Int32)) else (0 : Int32)) else (0 : Int32)) else (0 : Int32)) else (0 : Int32))
theorem d1_0 : decode prog_26_method_3_code 0 = .ok (.iconst 0, 1) := by decide +kernel
theorem d1_1 : decode prog_26_method_3_code 1 = .ok (.istore_n 2, 1) := by decide +kernel
theorem d1_2 : decode prog_26_method_3_code 2 = .ok (.iload_n 2, 1) := by decide +kernel
theorem d1_3 : decode prog_26_method_3_code 3 = .ok (.bipush 7, 2) := by decide +kernel
theorem d1_5 : decode prog_26_method_3_code 5 = .ok (.if_icmp .ge 19, 3) := by decide +kernel
theorem d1_8 : decode prog_26_method_3_code 8 = .ok (.aload_n 0, 1) := by decide +kernel
theorem d1_9 : decode prog_26_method_3_code 9 = .ok (.iload_n 1, 1) := by decide +kernel
theorem d1_10 : decode prog_26_method_3_code 10 = .ok (.iload_n 2, 1) := by decide +kernel
theorem d1_11 : decode prog_26_method_3_code 11 = .ok (.iadd, 1) := by decide +kernel
theorem d1_12 : decode prog_26_method_3_code 12 = .ok (.baload, 1) := by decide +kernel
theorem d1_13 : decode prog_26_method_3_code 13 = .ok (.ifCond .eq 5, 3) := by decide +kernel
theorem d1_16 : decode prog_26_method_3_code 16 = .ok (.iconst 0, 1) := by decide +kernel
theorem d1_17 : decode prog_26_method_3_code 17 = .ok (.ireturn, 1) := by decide +kernel
theorem d1_18 : decode prog_26_method_3_code 18 = .ok (.iinc 2 1, 3) := by decide +kernel
theorem d1_21 : decode prog_26_method_3_code 21 = .ok (.goto (-19), 3) := by decide +kernel
theorem d1_24 : decode prog_26_method_3_code 24 = .ok (.aload_n 0, 1) := by decide +kernel
theorem d1_25 : decode prog_26_method_3_code 25 = .ok (.iload_n 1, 1) := by decide +kernel
theorem d1_26 : decode prog_26_method_3_code 26 = .ok (.bipush 8, 2) := by decide +kernel
theorem d1_28 : decode prog_26_method_3_code 28 = .ok (.iadd, 1) := by decide +kernel
theorem d1_29 : decode prog_26_method_3_code 29 = .ok (.iconst 1, 1) := by decide +kernel
theorem d1_30 : decode prog_26_method_3_code 30 = .ok (.isub, 1) := by decide +kernel
theorem d1_31 : decode prog_26_method_3_code 31 = .ok (.baload, 1) := by decide +kernel
theorem d1_32 : decode prog_26_method_3_code 32 = .ok (.bipush (-128), 2) := by decide +kernel
theorem d1_34 : decode prog_26_method_3_code 34 = .ok (.if_icmp .ne 7, 3) := by decide +kernel
theorem d1_37 : decode prog_26_method_3_code 37 = .ok (.iconst 1, 1) := by decide +kernel
theorem d1_38 : decode prog_26_method_3_code 38 = .ok (.goto 4, 3) := by decide +kernel
theorem d1_41 : decode prog_26_method_3_code 41 = .ok (.iconst 0, 1) := by decide +kernel
theorem d1_42 : decode prog_26_method_3_code 42 = .ok (.ireturn, 1) := by decide +kernel
theorem pn_1 : plainName "com/example/patchloom/patchloom/delta/SignMagnitude" = true := by first | (simp [plainName, overriddenIn]; done) | decide +kernel
theorem ef_1_0 (m : MethodId) (x0 : Addr) : entryFrame m #[(.ref x0), (.int (0 : Int32))] 3 = mkF m 0 #[.val (.ref x0), .val (.int (0 : Int32)), .unset] [] := by first | (simp [entryFrame, mkF, argsToLocals, Value.category]; done) | rfl
def Q1_0 (Z : State) (a1 : Addr) (w0 : Int32) (w1 : Int32) (w2 : Int32) (w3 : Int32) (w4 : Int32) (w5 : Int32) (w6 : Int32) (w7 : Int32) (w8 : Int32) (w9 : Int32) (w10 : Int32) (w11 : Int32) (w12 : Int32) (w13 : Int32) (w14 : Int32) (w15 : Int32) (kk : ClassId) (h0 : Heap) (n0 : Nat) (v : Option Value) (h : Heap) (L : List Loc) : Prop := v = some (.int (negz0 w0 w1 w2 w3 w4 w5 w6 w7)) ∧ Fr n0 L ∧ h = h0
set_option maxRecDepth 65536 in
set_option maxHeartbeats 40000000 in
theorem rm1_0 (l : Launch) (Z : State) (a0 : Array Value) (hw : ∀ d ∈ tables_1, d.before a0 Z = true) (ws : List Jvm.Cond) (a1 : Addr) (w0 : Int32) (w1 : Int32) (w2 : Int32) (w3 : Int32) (w4 : Int32) (w5 : Int32) (w6 : Int32) (w7 : Int32) (w8 : Int32) (w9 : Int32) (w10 : Int32) (w11 : Int32) (w12 : Int32) (w13 : Int32) (w14 : Int32) (w15 : Int32) (kk : ClassId) (h0 : Heap) (n0 : Nat) (Z0 : n0 ≤ h0.size) (V_a1 : Arv Z h0 a1 kk .byte (16 : Int32) [(.int w0), (.int w1), (.int w2), (.int w3), (.int w4), (.int w5), (.int w6), (.int w7), (.int w8), (.int w9), (.int w10), (.int w11), (.int w12), (.int w13), (.int w14), (.int w15)] (.int (0 : Int32))) :
    MetFree l (⟨"com/example/patchloom/patchloom/delta/SignMagnitude", "isNegativeZero", "([BI)Z"⟩ : MethodName) (head1 (Jvm.Cond.code (⟨"com/example/patchloom/patchloom/delta/SignMagnitude", "isNegativeZero", "([BI)Z"⟩ : MethodName) prog_26_method_3_code 3 (some .boolean) :: ws) ({ frames := 0, cells := 0, slots := 0, locals := 0 } : Room)) (fun a U => a = #[(.ref a1), (.int (0 : Int32))] ∧ Z.Warmed39 U.vm ∧ U.heap = h0) (fun _ _ _ _ _ => True) (fun _ U o U' => ∃ v L, o = .returned v ∧ Q1_0 Z a1 w0 w1 w2 w3 w4 w5 w6 w7 w8 w9 w10 w11 w12 w13 w14 w15 kk h0 n0 v U'.heap L ∧ FrameEnd U o U' L ({ frames := 0, cells := 0, slots := 0, locals := 0 } : Room).cells ({ frames := 0, cells := 0, slots := 0, locals := 0 } : Room).slots) := by
  refine MetFree.of_bodySF (plainFor_of_name pn_1) hisR ?_
  intro p e s m args below meth c s₁ Bd hml0 hP hK
  obtain ⟨rfl, hZ, hh⟩ := hP
  have hx := Bd.exec
  have hby := Bd.bytes
  have hlk := Bd.notSynchronized
  have hml : c.maxLocals = 3 := hml0
  have hown : s.vm.findClass "com/example/patchloom/patchloom/delta/SignMagnitude" = some m.cls := findClass_of_methodNamed Bd.named
  have hnm := (name_of_methodNamed Bd.named Bd.method).1
  have X0 : Stand p l e ({ frames := 0, cells := 0, slots := 0, locals := 0 } : Room) s m #[(.ref a1), (.int (0 : Int32))] below meth c s₁ [] 0 0 := Stand.of_body Bd
  have e0 : s₁.heap = h0 := by rw [← hh, Bd.state]; rfl
  have N0 := Fr.nil n0
  have K0 : Keep h0 h0 [] := Keep.refl h0 _
  show OutW p e below s ({ frames := 0, cells := 0, slots := 0, locals := 0 } : Room).cells ({ frames := 0, cells := 0, slots := 0, locals := 0 } : Room).slots (Q1_0 Z a1 w0 w1 w2 w3 w4 w5 w6 w7 w8 w9 w10 w11 w12 w13 w14 w15 kk h0 n0) _
  refine OutW.back (fun t k => castTop (ef_1_0 m a1) k) ?_
  show OutW _ _ _ _ _ _ _ (s₁.setTop (mkF m 0 #[.val (.ref a1), .val (.int (0 : Int32)), .unset] []))
  refine OutW.back (fun t k => XS.iconst X0.here hx rfl (hb hby d1_0) k) ?_
  show OutW _ _ _ _ _ _ _ (s₁.setTop (mkF m 1 #[.val (.ref a1), .val (.int (0 : Int32)), .unset] [(.int (0 : Int32))]))
  refine OutW.back (fun t k => XS.istoreN X0.here hx rfl (hb hby d1_1) rfl (l' := #[.val (.ref a1), .val (.int (0 : Int32)), .val (.int (0 : Int32))]) rfl k) ?_
  show OutW _ _ _ _ _ _ _ (s₁.setTop (mkF m 2 #[.val (.ref a1), .val (.int (0 : Int32)), .val (.int (0 : Int32))] []))
  refine OutW.back (fun t k => XS.iloadN X0.here hx rfl (hb hby d1_2) rfl  k) ?_
  show OutW _ _ _ _ _ _ _ (s₁.setTop (mkF m 3 #[.val (.ref a1), .val (.int (0 : Int32)), .val (.int (0 : Int32))] [(.int (0 : Int32))]))
  refine OutW.back (fun t k => XS.bipush X0.here hx rfl (hb hby d1_3) k) ?_
  show OutW _ _ _ _ _ _ _ (s₁.setTop (mkF m 5 #[.val (.ref a1), .val (.int (0 : Int32)), .val (.int (0 : Int32))] [(.int (7 : Int32)), (.int (0 : Int32))]))
  refine OutW.back (fun t k => XS.icmpNo X0.here hx rfl (hb hby d1_5) rfl (tlt (by decide : (0 : Int32) < (7 : Int32))).2.1 k) ?_
  show OutW _ _ _ _ _ _ _ (s₁.setTop (mkF m 8 #[.val (.ref a1), .val (.int (0 : Int32)), .val (.int (0 : Int32))] []))
  refine OutW.back (fun t k => XS.aloadN X0.here hx rfl (hb hby d1_8) rfl rfl  k) ?_
  show OutW _ _ _ _ _ _ _ (s₁.setTop (mkF m 9 #[.val (.ref a1), .val (.int (0 : Int32)), .val (.int (0 : Int32))] [(.ref a1)]))
  refine OutW.back (fun t k => XS.iloadN X0.here hx rfl (hb hby d1_9) rfl  k) ?_
  show OutW _ _ _ _ _ _ _ (s₁.setTop (mkF m 10 #[.val (.ref a1), .val (.int (0 : Int32)), .val (.int (0 : Int32))] [(.int (0 : Int32)), (.ref a1)]))
  refine OutW.back (fun t k => XS.iloadN X0.here hx rfl (hb hby d1_10) rfl  k) ?_
  show OutW _ _ _ _ _ _ _ (s₁.setTop (mkF m 11 #[.val (.ref a1), .val (.int (0 : Int32)), .val (.int (0 : Int32))] [(.int (0 : Int32)), (.int (0 : Int32)), (.ref a1)]))
  refine OutW.back (fun t k => XS.iadd X0.here hx rfl (hb hby d1_11) rfl k) ?_
  show OutW _ _ _ _ _ _ _ (s₁.setTop (mkF m 12 #[.val (.ref a1), .val (.int (0 : Int32)), .val (.int (0 : Int32))] [(.int ((0 : Int32) + (0 : Int32))), (.ref a1)]))
  rw [show ((0 : Int32) + (0 : Int32)) = (0 : Int32) from by decide]
  obtain ⟨cl1, Ar1, Qk1, Sz1, Nn1, Hh1, Gg1⟩ := id V_a1
  have hin1 : ¬ ((0 : Int32) < 0 ∨ cl1.slots.size ≤ ((0 : Int32)).toNatClampNeg) := inb_of Sz1 ⟨by decide, by decide⟩
  refine OutW.back (X0.baloadBytes hx (j := (0 : Int32)) (v := (.int w0)) (by rw [e0]; exact Ar1.1) (State.isArrayOf_alike hZ.alike Ar1.2.1) Ar1.2.2 hin1 (Hh1.at hin1 (by rfl)) (g := (mkF m 12 #[.val (.ref a1), .val (.int (0 : Int32)), .val (.int (0 : Int32))] [(.int (0 : Int32)), (.ref a1)])) rfl rfl (hb hby d1_12)) ?_
  show OutW _ _ _ _ _ _ _ (s₁.setTop (mkF m 13 #[.val (.ref a1), .val (.int (0 : Int32)), .val (.int (0 : Int32))] [(.int w0)]))
  by_cases c13_2 : w0 = (0 : Int32)
  · skip
    refine OutW.back (fun t k => XS.ifYes X0.here hx rfl (pc0 := 13) (pc' := 18) rfl (hb hby d1_13) rfl ((if0 _ _).trans (teq c13_2).1) (by decide) (by decide) k) ?_
    show OutW _ _ _ _ _ _ _ (s₁.setTop (mkF m 18 #[.val (.ref a1), .val (.int (0 : Int32)), .val (.int (0 : Int32))] []))
    refine OutW.back (fun t k => XS.iinc X0.here hx rfl (hb hby d1_18) rfl (l' := #[.val (.ref a1), .val (.int (0 : Int32)), .val (.int ((0 : Int32) + (1 : Int32)))]) rfl k) ?_
    show OutW _ _ _ _ _ _ _ (s₁.setTop (mkF m 21 #[.val (.ref a1), .val (.int (0 : Int32)), .val (.int ((0 : Int32) + (1 : Int32)))] []))
    rw [show ((0 : Int32) + (1 : Int32)) = (1 : Int32) from by decide]
    refine OutW.back (fun t k => XS.goto X0.here hx rfl (pc0 := 21) (pc' := 2) rfl (hb hby d1_21) (by decide) (by decide) k) ?_
    show OutW _ _ _ _ _ _ _ (s₁.setTop (mkF m 2 #[.val (.ref a1), .val (.int (0 : Int32)), .val (.int (1 : Int32))] []))
    refine OutW.back (fun t k => XS.iloadN X0.here hx rfl (hb hby d1_2) rfl  k) ?_
    show OutW _ _ _ _ _ _ _ (s₁.setTop (mkF m 3 #[.val (.ref a1), .val (.int (0 : Int32)), .val (.int (1 : Int32))] [(.int (1 : Int32))]))
    refine OutW.back (fun t k => XS.bipush X0.here hx rfl (hb hby d1_3) k) ?_
    show OutW _ _ _ _ _ _ _ (s₁.setTop (mkF m 5 #[.val (.ref a1), .val (.int (0 : Int32)), .val (.int (1 : Int32))] [(.int (7 : Int32)), (.int (1 : Int32))]))
    refine OutW.back (fun t k => XS.icmpNo X0.here hx rfl (hb hby d1_5) rfl (tlt (by decide : (1 : Int32) < (7 : Int32))).2.1 k) ?_
    show OutW _ _ _ _ _ _ _ (s₁.setTop (mkF m 8 #[.val (.ref a1), .val (.int (0 : Int32)), .val (.int (1 : Int32))] []))
    refine OutW.back (fun t k => XS.aloadN X0.here hx rfl (hb hby d1_8) rfl rfl  k) ?_
    show OutW _ _ _ _ _ _ _ (s₁.setTop (mkF m 9 #[.val (.ref a1), .val (.int (0 : Int32)), .val (.int (1 : Int32))] [(.ref a1)]))
    refine OutW.back (fun t k => XS.iloadN X0.here hx rfl (hb hby d1_9) rfl  k) ?_
    show OutW _ _ _ _ _ _ _ (s₁.setTop (mkF m 10 #[.val (.ref a1), .val (.int (0 : Int32)), .val (.int (1 : Int32))] [(.int (0 : Int32)), (.ref a1)]))
    refine OutW.back (fun t k => XS.iloadN X0.here hx rfl (hb hby d1_10) rfl  k) ?_
    show OutW _ _ _ _ _ _ _ (s₁.setTop (mkF m 11 #[.val (.ref a1), .val (.int (0 : Int32)), .val (.int (1 : Int32))] [(.int (1 : Int32)), (.int (0 : Int32)), (.ref a1)]))
    refine OutW.back (fun t k => XS.iadd X0.here hx rfl (hb hby d1_11) rfl k) ?_
    show OutW _ _ _ _ _ _ _ (s₁.setTop (mkF m 12 #[.val (.ref a1), .val (.int (0 : Int32)), .val (.int (1 : Int32))] [(.int ((0 : Int32) + (1 : Int32))), (.ref a1)]))
    rw [show ((0 : Int32) + (1 : Int32)) = (1 : Int32) from by decide]
    obtain ⟨cl3, Ar3, Qk3, Sz3, Nn3, Hh3, Gg3⟩ := id V_a1
    have hin3 : ¬ ((1 : Int32) < 0 ∨ cl3.slots.size ≤ ((1 : Int32)).toNatClampNeg) := inb_of Sz3 ⟨by decide, by decide⟩
    refine OutW.back (X0.baloadBytes hx (j := (1 : Int32)) (v := (.int w1)) (by rw [e0]; exact Ar3.1) (State.isArrayOf_alike hZ.alike Ar3.2.1) Ar3.2.2 hin3 (Hh3.at hin3 (by rfl)) (g := (mkF m 12 #[.val (.ref a1), .val (.int (0 : Int32)), .val (.int (1 : Int32))] [(.int (1 : Int32)), (.ref a1)])) rfl rfl (hb hby d1_12)) ?_
    show OutW _ _ _ _ _ _ _ (s₁.setTop (mkF m 13 #[.val (.ref a1), .val (.int (0 : Int32)), .val (.int (1 : Int32))] [(.int w1)]))
    by_cases c13_4 : w1 = (0 : Int32)
    · skip
      refine OutW.back (fun t k => XS.ifYes X0.here hx rfl (pc0 := 13) (pc' := 18) rfl (hb hby d1_13) rfl ((if0 _ _).trans (teq c13_4).1) (by decide) (by decide) k) ?_
      show OutW _ _ _ _ _ _ _ (s₁.setTop (mkF m 18 #[.val (.ref a1), .val (.int (0 : Int32)), .val (.int (1 : Int32))] []))
      refine OutW.back (fun t k => XS.iinc X0.here hx rfl (hb hby d1_18) rfl (l' := #[.val (.ref a1), .val (.int (0 : Int32)), .val (.int ((1 : Int32) + (1 : Int32)))]) rfl k) ?_
      show OutW _ _ _ _ _ _ _ (s₁.setTop (mkF m 21 #[.val (.ref a1), .val (.int (0 : Int32)), .val (.int ((1 : Int32) + (1 : Int32)))] []))
      rw [show ((1 : Int32) + (1 : Int32)) = (2 : Int32) from by decide]
      refine OutW.back (fun t k => XS.goto X0.here hx rfl (pc0 := 21) (pc' := 2) rfl (hb hby d1_21) (by decide) (by decide) k) ?_
      show OutW _ _ _ _ _ _ _ (s₁.setTop (mkF m 2 #[.val (.ref a1), .val (.int (0 : Int32)), .val (.int (2 : Int32))] []))
      refine OutW.back (fun t k => XS.iloadN X0.here hx rfl (hb hby d1_2) rfl  k) ?_
      show OutW _ _ _ _ _ _ _ (s₁.setTop (mkF m 3 #[.val (.ref a1), .val (.int (0 : Int32)), .val (.int (2 : Int32))] [(.int (2 : Int32))]))
      refine OutW.back (fun t k => XS.bipush X0.here hx rfl (hb hby d1_3) k) ?_
      show OutW _ _ _ _ _ _ _ (s₁.setTop (mkF m 5 #[.val (.ref a1), .val (.int (0 : Int32)), .val (.int (2 : Int32))] [(.int (7 : Int32)), (.int (2 : Int32))]))
      refine OutW.back (fun t k => XS.icmpNo X0.here hx rfl (hb hby d1_5) rfl (tlt (by decide : (2 : Int32) < (7 : Int32))).2.1 k) ?_
      show OutW _ _ _ _ _ _ _ (s₁.setTop (mkF m 8 #[.val (.ref a1), .val (.int (0 : Int32)), .val (.int (2 : Int32))] []))
      refine OutW.back (fun t k => XS.aloadN X0.here hx rfl (hb hby d1_8) rfl rfl  k) ?_
      show OutW _ _ _ _ _ _ _ (s₁.setTop (mkF m 9 #[.val (.ref a1), .val (.int (0 : Int32)), .val (.int (2 : Int32))] [(.ref a1)]))
      refine OutW.back (fun t k => XS.iloadN X0.here hx rfl (hb hby d1_9) rfl  k) ?_
      show OutW _ _ _ _ _ _ _ (s₁.setTop (mkF m 10 #[.val (.ref a1), .val (.int (0 : Int32)), .val (.int (2 : Int32))] [(.int (0 : Int32)), (.ref a1)]))
      refine OutW.back (fun t k => XS.iloadN X0.here hx rfl (hb hby d1_10) rfl  k) ?_
      show OutW _ _ _ _ _ _ _ (s₁.setTop (mkF m 11 #[.val (.ref a1), .val (.int (0 : Int32)), .val (.int (2 : Int32))] [(.int (2 : Int32)), (.int (0 : Int32)), (.ref a1)]))
      refine OutW.back (fun t k => XS.iadd X0.here hx rfl (hb hby d1_11) rfl k) ?_
      show OutW _ _ _ _ _ _ _ (s₁.setTop (mkF m 12 #[.val (.ref a1), .val (.int (0 : Int32)), .val (.int (2 : Int32))] [(.int ((0 : Int32) + (2 : Int32))), (.ref a1)]))
      rw [show ((0 : Int32) + (2 : Int32)) = (2 : Int32) from by decide]
      obtain ⟨cl5, Ar5, Qk5, Sz5, Nn5, Hh5, Gg5⟩ := id V_a1
      have hin5 : ¬ ((2 : Int32) < 0 ∨ cl5.slots.size ≤ ((2 : Int32)).toNatClampNeg) := inb_of Sz5 ⟨by decide, by decide⟩
      refine OutW.back (X0.baloadBytes hx (j := (2 : Int32)) (v := (.int w2)) (by rw [e0]; exact Ar5.1) (State.isArrayOf_alike hZ.alike Ar5.2.1) Ar5.2.2 hin5 (Hh5.at hin5 (by rfl)) (g := (mkF m 12 #[.val (.ref a1), .val (.int (0 : Int32)), .val (.int (2 : Int32))] [(.int (2 : Int32)), (.ref a1)])) rfl rfl (hb hby d1_12)) ?_
      show OutW _ _ _ _ _ _ _ (s₁.setTop (mkF m 13 #[.val (.ref a1), .val (.int (0 : Int32)), .val (.int (2 : Int32))] [(.int w2)]))
      by_cases c13_6 : w2 = (0 : Int32)
      · skip
        refine OutW.back (fun t k => XS.ifYes X0.here hx rfl (pc0 := 13) (pc' := 18) rfl (hb hby d1_13) rfl ((if0 _ _).trans (teq c13_6).1) (by decide) (by decide) k) ?_
        show OutW _ _ _ _ _ _ _ (s₁.setTop (mkF m 18 #[.val (.ref a1), .val (.int (0 : Int32)), .val (.int (2 : Int32))] []))
        refine OutW.back (fun t k => XS.iinc X0.here hx rfl (hb hby d1_18) rfl (l' := #[.val (.ref a1), .val (.int (0 : Int32)), .val (.int ((2 : Int32) + (1 : Int32)))]) rfl k) ?_
        show OutW _ _ _ _ _ _ _ (s₁.setTop (mkF m 21 #[.val (.ref a1), .val (.int (0 : Int32)), .val (.int ((2 : Int32) + (1 : Int32)))] []))
        rw [show ((2 : Int32) + (1 : Int32)) = (3 : Int32) from by decide]
        refine OutW.back (fun t k => XS.goto X0.here hx rfl (pc0 := 21) (pc' := 2) rfl (hb hby d1_21) (by decide) (by decide) k) ?_
        show OutW _ _ _ _ _ _ _ (s₁.setTop (mkF m 2 #[.val (.ref a1), .val (.int (0 : Int32)), .val (.int (3 : Int32))] []))
        refine OutW.back (fun t k => XS.iloadN X0.here hx rfl (hb hby d1_2) rfl  k) ?_
        show OutW _ _ _ _ _ _ _ (s₁.setTop (mkF m 3 #[.val (.ref a1), .val (.int (0 : Int32)), .val (.int (3 : Int32))] [(.int (3 : Int32))]))
        refine OutW.back (fun t k => XS.bipush X0.here hx rfl (hb hby d1_3) k) ?_
        show OutW _ _ _ _ _ _ _ (s₁.setTop (mkF m 5 #[.val (.ref a1), .val (.int (0 : Int32)), .val (.int (3 : Int32))] [(.int (7 : Int32)), (.int (3 : Int32))]))
        refine OutW.back (fun t k => XS.icmpNo X0.here hx rfl (hb hby d1_5) rfl (tlt (by decide : (3 : Int32) < (7 : Int32))).2.1 k) ?_
        show OutW _ _ _ _ _ _ _ (s₁.setTop (mkF m 8 #[.val (.ref a1), .val (.int (0 : Int32)), .val (.int (3 : Int32))] []))
        refine OutW.back (fun t k => XS.aloadN X0.here hx rfl (hb hby d1_8) rfl rfl  k) ?_
        show OutW _ _ _ _ _ _ _ (s₁.setTop (mkF m 9 #[.val (.ref a1), .val (.int (0 : Int32)), .val (.int (3 : Int32))] [(.ref a1)]))
        refine OutW.back (fun t k => XS.iloadN X0.here hx rfl (hb hby d1_9) rfl  k) ?_
        show OutW _ _ _ _ _ _ _ (s₁.setTop (mkF m 10 #[.val (.ref a1), .val (.int (0 : Int32)), .val (.int (3 : Int32))] [(.int (0 : Int32)), (.ref a1)]))
        refine OutW.back (fun t k => XS.iloadN X0.here hx rfl (hb hby d1_10) rfl  k) ?_
        show OutW _ _ _ _ _ _ _ (s₁.setTop (mkF m 11 #[.val (.ref a1), .val (.int (0 : Int32)), .val (.int (3 : Int32))] [(.int (3 : Int32)), (.int (0 : Int32)), (.ref a1)]))
        refine OutW.back (fun t k => XS.iadd X0.here hx rfl (hb hby d1_11) rfl k) ?_
        show OutW _ _ _ _ _ _ _ (s₁.setTop (mkF m 12 #[.val (.ref a1), .val (.int (0 : Int32)), .val (.int (3 : Int32))] [(.int ((0 : Int32) + (3 : Int32))), (.ref a1)]))
        rw [show ((0 : Int32) + (3 : Int32)) = (3 : Int32) from by decide]
        obtain ⟨cl7, Ar7, Qk7, Sz7, Nn7, Hh7, Gg7⟩ := id V_a1
        have hin7 : ¬ ((3 : Int32) < 0 ∨ cl7.slots.size ≤ ((3 : Int32)).toNatClampNeg) := inb_of Sz7 ⟨by decide, by decide⟩
        refine OutW.back (X0.baloadBytes hx (j := (3 : Int32)) (v := (.int w3)) (by rw [e0]; exact Ar7.1) (State.isArrayOf_alike hZ.alike Ar7.2.1) Ar7.2.2 hin7 (Hh7.at hin7 (by rfl)) (g := (mkF m 12 #[.val (.ref a1), .val (.int (0 : Int32)), .val (.int (3 : Int32))] [(.int (3 : Int32)), (.ref a1)])) rfl rfl (hb hby d1_12)) ?_
        show OutW _ _ _ _ _ _ _ (s₁.setTop (mkF m 13 #[.val (.ref a1), .val (.int (0 : Int32)), .val (.int (3 : Int32))] [(.int w3)]))
        by_cases c13_8 : w3 = (0 : Int32)
        · skip
          refine OutW.back (fun t k => XS.ifYes X0.here hx rfl (pc0 := 13) (pc' := 18) rfl (hb hby d1_13) rfl ((if0 _ _).trans (teq c13_8).1) (by decide) (by decide) k) ?_
          show OutW _ _ _ _ _ _ _ (s₁.setTop (mkF m 18 #[.val (.ref a1), .val (.int (0 : Int32)), .val (.int (3 : Int32))] []))
          refine OutW.back (fun t k => XS.iinc X0.here hx rfl (hb hby d1_18) rfl (l' := #[.val (.ref a1), .val (.int (0 : Int32)), .val (.int ((3 : Int32) + (1 : Int32)))]) rfl k) ?_
          show OutW _ _ _ _ _ _ _ (s₁.setTop (mkF m 21 #[.val (.ref a1), .val (.int (0 : Int32)), .val (.int ((3 : Int32) + (1 : Int32)))] []))
          rw [show ((3 : Int32) + (1 : Int32)) = (4 : Int32) from by decide]
          refine OutW.back (fun t k => XS.goto X0.here hx rfl (pc0 := 21) (pc' := 2) rfl (hb hby d1_21) (by decide) (by decide) k) ?_
          show OutW _ _ _ _ _ _ _ (s₁.setTop (mkF m 2 #[.val (.ref a1), .val (.int (0 : Int32)), .val (.int (4 : Int32))] []))
          refine OutW.back (fun t k => XS.iloadN X0.here hx rfl (hb hby d1_2) rfl  k) ?_
          show OutW _ _ _ _ _ _ _ (s₁.setTop (mkF m 3 #[.val (.ref a1), .val (.int (0 : Int32)), .val (.int (4 : Int32))] [(.int (4 : Int32))]))
          refine OutW.back (fun t k => XS.bipush X0.here hx rfl (hb hby d1_3) k) ?_
          show OutW _ _ _ _ _ _ _ (s₁.setTop (mkF m 5 #[.val (.ref a1), .val (.int (0 : Int32)), .val (.int (4 : Int32))] [(.int (7 : Int32)), (.int (4 : Int32))]))
          refine OutW.back (fun t k => XS.icmpNo X0.here hx rfl (hb hby d1_5) rfl (tlt (by decide : (4 : Int32) < (7 : Int32))).2.1 k) ?_
          show OutW _ _ _ _ _ _ _ (s₁.setTop (mkF m 8 #[.val (.ref a1), .val (.int (0 : Int32)), .val (.int (4 : Int32))] []))
          refine OutW.back (fun t k => XS.aloadN X0.here hx rfl (hb hby d1_8) rfl rfl  k) ?_
          show OutW _ _ _ _ _ _ _ (s₁.setTop (mkF m 9 #[.val (.ref a1), .val (.int (0 : Int32)), .val (.int (4 : Int32))] [(.ref a1)]))
          refine OutW.back (fun t k => XS.iloadN X0.here hx rfl (hb hby d1_9) rfl  k) ?_
          show OutW _ _ _ _ _ _ _ (s₁.setTop (mkF m 10 #[.val (.ref a1), .val (.int (0 : Int32)), .val (.int (4 : Int32))] [(.int (0 : Int32)), (.ref a1)]))
          refine OutW.back (fun t k => XS.iloadN X0.here hx rfl (hb hby d1_10) rfl  k) ?_
          show OutW _ _ _ _ _ _ _ (s₁.setTop (mkF m 11 #[.val (.ref a1), .val (.int (0 : Int32)), .val (.int (4 : Int32))] [(.int (4 : Int32)), (.int (0 : Int32)), (.ref a1)]))
          refine OutW.back (fun t k => XS.iadd X0.here hx rfl (hb hby d1_11) rfl k) ?_
          show OutW _ _ _ _ _ _ _ (s₁.setTop (mkF m 12 #[.val (.ref a1), .val (.int (0 : Int32)), .val (.int (4 : Int32))] [(.int ((0 : Int32) + (4 : Int32))), (.ref a1)]))
          rw [show ((0 : Int32) + (4 : Int32)) = (4 : Int32) from by decide]
          obtain ⟨cl9, Ar9, Qk9, Sz9, Nn9, Hh9, Gg9⟩ := id V_a1
          have hin9 : ¬ ((4 : Int32) < 0 ∨ cl9.slots.size ≤ ((4 : Int32)).toNatClampNeg) := inb_of Sz9 ⟨by decide, by decide⟩
          refine OutW.back (X0.baloadBytes hx (j := (4 : Int32)) (v := (.int w4)) (by rw [e0]; exact Ar9.1) (State.isArrayOf_alike hZ.alike Ar9.2.1) Ar9.2.2 hin9 (Hh9.at hin9 (by rfl)) (g := (mkF m 12 #[.val (.ref a1), .val (.int (0 : Int32)), .val (.int (4 : Int32))] [(.int (4 : Int32)), (.ref a1)])) rfl rfl (hb hby d1_12)) ?_
          show OutW _ _ _ _ _ _ _ (s₁.setTop (mkF m 13 #[.val (.ref a1), .val (.int (0 : Int32)), .val (.int (4 : Int32))] [(.int w4)]))
          by_cases c13_10 : w4 = (0 : Int32)
          · skip
            refine OutW.back (fun t k => XS.ifYes X0.here hx rfl (pc0 := 13) (pc' := 18) rfl (hb hby d1_13) rfl ((if0 _ _).trans (teq c13_10).1) (by decide) (by decide) k) ?_
            show OutW _ _ _ _ _ _ _ (s₁.setTop (mkF m 18 #[.val (.ref a1), .val (.int (0 : Int32)), .val (.int (4 : Int32))] []))
            refine OutW.back (fun t k => XS.iinc X0.here hx rfl (hb hby d1_18) rfl (l' := #[.val (.ref a1), .val (.int (0 : Int32)), .val (.int ((4 : Int32) + (1 : Int32)))]) rfl k) ?_
            show OutW _ _ _ _ _ _ _ (s₁.setTop (mkF m 21 #[.val (.ref a1), .val (.int (0 : Int32)), .val (.int ((4 : Int32) + (1 : Int32)))] []))
            rw [show ((4 : Int32) + (1 : Int32)) = (5 : Int32) from by decide]
            refine OutW.back (fun t k => XS.goto X0.here hx rfl (pc0 := 21) (pc' := 2) rfl (hb hby d1_21) (by decide) (by decide) k) ?_
            show OutW _ _ _ _ _ _ _ (s₁.setTop (mkF m 2 #[.val (.ref a1), .val (.int (0 : Int32)), .val (.int (5 : Int32))] []))
            refine OutW.back (fun t k => XS.iloadN X0.here hx rfl (hb hby d1_2) rfl  k) ?_
            show OutW _ _ _ _ _ _ _ (s₁.setTop (mkF m 3 #[.val (.ref a1), .val (.int (0 : Int32)), .val (.int (5 : Int32))] [(.int (5 : Int32))]))
            refine OutW.back (fun t k => XS.bipush X0.here hx rfl (hb hby d1_3) k) ?_
            show OutW _ _ _ _ _ _ _ (s₁.setTop (mkF m 5 #[.val (.ref a1), .val (.int (0 : Int32)), .val (.int (5 : Int32))] [(.int (7 : Int32)), (.int (5 : Int32))]))
            refine OutW.back (fun t k => XS.icmpNo X0.here hx rfl (hb hby d1_5) rfl (tlt (by decide : (5 : Int32) < (7 : Int32))).2.1 k) ?_
            show OutW _ _ _ _ _ _ _ (s₁.setTop (mkF m 8 #[.val (.ref a1), .val (.int (0 : Int32)), .val (.int (5 : Int32))] []))
            refine OutW.back (fun t k => XS.aloadN X0.here hx rfl (hb hby d1_8) rfl rfl  k) ?_
            show OutW _ _ _ _ _ _ _ (s₁.setTop (mkF m 9 #[.val (.ref a1), .val (.int (0 : Int32)), .val (.int (5 : Int32))] [(.ref a1)]))
            refine OutW.back (fun t k => XS.iloadN X0.here hx rfl (hb hby d1_9) rfl  k) ?_
            show OutW _ _ _ _ _ _ _ (s₁.setTop (mkF m 10 #[.val (.ref a1), .val (.int (0 : Int32)), .val (.int (5 : Int32))] [(.int (0 : Int32)), (.ref a1)]))
            refine OutW.back (fun t k => XS.iloadN X0.here hx rfl (hb hby d1_10) rfl  k) ?_
            show OutW _ _ _ _ _ _ _ (s₁.setTop (mkF m 11 #[.val (.ref a1), .val (.int (0 : Int32)), .val (.int (5 : Int32))] [(.int (5 : Int32)), (.int (0 : Int32)), (.ref a1)]))
            refine OutW.back (fun t k => XS.iadd X0.here hx rfl (hb hby d1_11) rfl k) ?_
            show OutW _ _ _ _ _ _ _ (s₁.setTop (mkF m 12 #[.val (.ref a1), .val (.int (0 : Int32)), .val (.int (5 : Int32))] [(.int ((0 : Int32) + (5 : Int32))), (.ref a1)]))
            rw [show ((0 : Int32) + (5 : Int32)) = (5 : Int32) from by decide]
            obtain ⟨cl11, Ar11, Qk11, Sz11, Nn11, Hh11, Gg11⟩ := id V_a1
            have hin11 : ¬ ((5 : Int32) < 0 ∨ cl11.slots.size ≤ ((5 : Int32)).toNatClampNeg) := inb_of Sz11 ⟨by decide, by decide⟩
            refine OutW.back (X0.baloadBytes hx (j := (5 : Int32)) (v := (.int w5)) (by rw [e0]; exact Ar11.1) (State.isArrayOf_alike hZ.alike Ar11.2.1) Ar11.2.2 hin11 (Hh11.at hin11 (by rfl)) (g := (mkF m 12 #[.val (.ref a1), .val (.int (0 : Int32)), .val (.int (5 : Int32))] [(.int (5 : Int32)), (.ref a1)])) rfl rfl (hb hby d1_12)) ?_
            show OutW _ _ _ _ _ _ _ (s₁.setTop (mkF m 13 #[.val (.ref a1), .val (.int (0 : Int32)), .val (.int (5 : Int32))] [(.int w5)]))
            by_cases c13_12 : w5 = (0 : Int32)
            · skip
              refine OutW.back (fun t k => XS.ifYes X0.here hx rfl (pc0 := 13) (pc' := 18) rfl (hb hby d1_13) rfl ((if0 _ _).trans (teq c13_12).1) (by decide) (by decide) k) ?_
              show OutW _ _ _ _ _ _ _ (s₁.setTop (mkF m 18 #[.val (.ref a1), .val (.int (0 : Int32)), .val (.int (5 : Int32))] []))
              refine OutW.back (fun t k => XS.iinc X0.here hx rfl (hb hby d1_18) rfl (l' := #[.val (.ref a1), .val (.int (0 : Int32)), .val (.int ((5 : Int32) + (1 : Int32)))]) rfl k) ?_
              show OutW _ _ _ _ _ _ _ (s₁.setTop (mkF m 21 #[.val (.ref a1), .val (.int (0 : Int32)), .val (.int ((5 : Int32) + (1 : Int32)))] []))
              rw [show ((5 : Int32) + (1 : Int32)) = (6 : Int32) from by decide]
              refine OutW.back (fun t k => XS.goto X0.here hx rfl (pc0 := 21) (pc' := 2) rfl (hb hby d1_21) (by decide) (by decide) k) ?_
              show OutW _ _ _ _ _ _ _ (s₁.setTop (mkF m 2 #[.val (.ref a1), .val (.int (0 : Int32)), .val (.int (6 : Int32))] []))
              refine OutW.back (fun t k => XS.iloadN X0.here hx rfl (hb hby d1_2) rfl  k) ?_
              show OutW _ _ _ _ _ _ _ (s₁.setTop (mkF m 3 #[.val (.ref a1), .val (.int (0 : Int32)), .val (.int (6 : Int32))] [(.int (6 : Int32))]))
              refine OutW.back (fun t k => XS.bipush X0.here hx rfl (hb hby d1_3) k) ?_
              show OutW _ _ _ _ _ _ _ (s₁.setTop (mkF m 5 #[.val (.ref a1), .val (.int (0 : Int32)), .val (.int (6 : Int32))] [(.int (7 : Int32)), (.int (6 : Int32))]))
              refine OutW.back (fun t k => XS.icmpNo X0.here hx rfl (hb hby d1_5) rfl (tlt (by decide : (6 : Int32) < (7 : Int32))).2.1 k) ?_
              show OutW _ _ _ _ _ _ _ (s₁.setTop (mkF m 8 #[.val (.ref a1), .val (.int (0 : Int32)), .val (.int (6 : Int32))] []))
              refine OutW.back (fun t k => XS.aloadN X0.here hx rfl (hb hby d1_8) rfl rfl  k) ?_
              show OutW _ _ _ _ _ _ _ (s₁.setTop (mkF m 9 #[.val (.ref a1), .val (.int (0 : Int32)), .val (.int (6 : Int32))] [(.ref a1)]))
              refine OutW.back (fun t k => XS.iloadN X0.here hx rfl (hb hby d1_9) rfl  k) ?_
              show OutW _ _ _ _ _ _ _ (s₁.setTop (mkF m 10 #[.val (.ref a1), .val (.int (0 : Int32)), .val (.int (6 : Int32))] [(.int (0 : Int32)), (.ref a1)]))
              refine OutW.back (fun t k => XS.iloadN X0.here hx rfl (hb hby d1_10) rfl  k) ?_
              show OutW _ _ _ _ _ _ _ (s₁.setTop (mkF m 11 #[.val (.ref a1), .val (.int (0 : Int32)), .val (.int (6 : Int32))] [(.int (6 : Int32)), (.int (0 : Int32)), (.ref a1)]))
              refine OutW.back (fun t k => XS.iadd X0.here hx rfl (hb hby d1_11) rfl k) ?_
              show OutW _ _ _ _ _ _ _ (s₁.setTop (mkF m 12 #[.val (.ref a1), .val (.int (0 : Int32)), .val (.int (6 : Int32))] [(.int ((0 : Int32) + (6 : Int32))), (.ref a1)]))
              rw [show ((0 : Int32) + (6 : Int32)) = (6 : Int32) from by decide]
              obtain ⟨cl13, Ar13, Qk13, Sz13, Nn13, Hh13, Gg13⟩ := id V_a1
              have hin13 : ¬ ((6 : Int32) < 0 ∨ cl13.slots.size ≤ ((6 : Int32)).toNatClampNeg) := inb_of Sz13 ⟨by decide, by decide⟩
              refine OutW.back (X0.baloadBytes hx (j := (6 : Int32)) (v := (.int w6)) (by rw [e0]; exact Ar13.1) (State.isArrayOf_alike hZ.alike Ar13.2.1) Ar13.2.2 hin13 (Hh13.at hin13 (by rfl)) (g := (mkF m 12 #[.val (.ref a1), .val (.int (0 : Int32)), .val (.int (6 : Int32))] [(.int (6 : Int32)), (.ref a1)])) rfl rfl (hb hby d1_12)) ?_
              show OutW _ _ _ _ _ _ _ (s₁.setTop (mkF m 13 #[.val (.ref a1), .val (.int (0 : Int32)), .val (.int (6 : Int32))] [(.int w6)]))
              by_cases c13_14 : w6 = (0 : Int32)
              · skip
                refine OutW.back (fun t k => XS.ifYes X0.here hx rfl (pc0 := 13) (pc' := 18) rfl (hb hby d1_13) rfl ((if0 _ _).trans (teq c13_14).1) (by decide) (by decide) k) ?_
                show OutW _ _ _ _ _ _ _ (s₁.setTop (mkF m 18 #[.val (.ref a1), .val (.int (0 : Int32)), .val (.int (6 : Int32))] []))
                refine OutW.back (fun t k => XS.iinc X0.here hx rfl (hb hby d1_18) rfl (l' := #[.val (.ref a1), .val (.int (0 : Int32)), .val (.int ((6 : Int32) + (1 : Int32)))]) rfl k) ?_
                show OutW _ _ _ _ _ _ _ (s₁.setTop (mkF m 21 #[.val (.ref a1), .val (.int (0 : Int32)), .val (.int ((6 : Int32) + (1 : Int32)))] []))
                rw [show ((6 : Int32) + (1 : Int32)) = (7 : Int32) from by decide]
                refine OutW.back (fun t k => XS.goto X0.here hx rfl (pc0 := 21) (pc' := 2) rfl (hb hby d1_21) (by decide) (by decide) k) ?_
                show OutW _ _ _ _ _ _ _ (s₁.setTop (mkF m 2 #[.val (.ref a1), .val (.int (0 : Int32)), .val (.int (7 : Int32))] []))
                refine OutW.back (fun t k => XS.iloadN X0.here hx rfl (hb hby d1_2) rfl  k) ?_
                show OutW _ _ _ _ _ _ _ (s₁.setTop (mkF m 3 #[.val (.ref a1), .val (.int (0 : Int32)), .val (.int (7 : Int32))] [(.int (7 : Int32))]))
                refine OutW.back (fun t k => XS.bipush X0.here hx rfl (hb hby d1_3) k) ?_
                show OutW _ _ _ _ _ _ _ (s₁.setTop (mkF m 5 #[.val (.ref a1), .val (.int (0 : Int32)), .val (.int (7 : Int32))] [(.int (7 : Int32)), (.int (7 : Int32))]))
                refine OutW.back (fun t k => XS.icmpYes X0.here hx rfl (pc0 := 5) (pc' := 24) rfl (hb hby d1_5) rfl (flt (by decide : ¬ ((7 : Int32) < (7 : Int32)))).2.1 (by decide) (by decide) k) ?_
                show OutW _ _ _ _ _ _ _ (s₁.setTop (mkF m 24 #[.val (.ref a1), .val (.int (0 : Int32)), .val (.int (7 : Int32))] []))
                refine OutW.back (fun t k => XS.aloadN X0.here hx rfl (hb hby d1_24) rfl rfl  k) ?_
                show OutW _ _ _ _ _ _ _ (s₁.setTop (mkF m 25 #[.val (.ref a1), .val (.int (0 : Int32)), .val (.int (7 : Int32))] [(.ref a1)]))
                refine OutW.back (fun t k => XS.iloadN X0.here hx rfl (hb hby d1_25) rfl  k) ?_
                show OutW _ _ _ _ _ _ _ (s₁.setTop (mkF m 26 #[.val (.ref a1), .val (.int (0 : Int32)), .val (.int (7 : Int32))] [(.int (0 : Int32)), (.ref a1)]))
                refine OutW.back (fun t k => XS.bipush X0.here hx rfl (hb hby d1_26) k) ?_
                show OutW _ _ _ _ _ _ _ (s₁.setTop (mkF m 28 #[.val (.ref a1), .val (.int (0 : Int32)), .val (.int (7 : Int32))] [(.int (8 : Int32)), (.int (0 : Int32)), (.ref a1)]))
                refine OutW.back (fun t k => XS.iadd X0.here hx rfl (hb hby d1_28) rfl k) ?_
                show OutW _ _ _ _ _ _ _ (s₁.setTop (mkF m 29 #[.val (.ref a1), .val (.int (0 : Int32)), .val (.int (7 : Int32))] [(.int ((0 : Int32) + (8 : Int32))), (.ref a1)]))
                rw [show ((0 : Int32) + (8 : Int32)) = (8 : Int32) from by decide]
                refine OutW.back (fun t k => XS.iconst X0.here hx rfl (hb hby d1_29) k) ?_
                show OutW _ _ _ _ _ _ _ (s₁.setTop (mkF m 30 #[.val (.ref a1), .val (.int (0 : Int32)), .val (.int (7 : Int32))] [(.int (1 : Int32)), (.int (8 : Int32)), (.ref a1)]))
                refine OutW.back (fun t k => XS.isub X0.here hx rfl (hb hby d1_30) rfl k) ?_
                show OutW _ _ _ _ _ _ _ (s₁.setTop (mkF m 31 #[.val (.ref a1), .val (.int (0 : Int32)), .val (.int (7 : Int32))] [(.int ((8 : Int32) - (1 : Int32))), (.ref a1)]))
                rw [show ((8 : Int32) - (1 : Int32)) = (7 : Int32) from by decide]
                obtain ⟨cl15, Ar15, Qk15, Sz15, Nn15, Hh15, Gg15⟩ := id V_a1
                have hin15 : ¬ ((7 : Int32) < 0 ∨ cl15.slots.size ≤ ((7 : Int32)).toNatClampNeg) := inb_of Sz15 ⟨by decide, by decide⟩
                refine OutW.back (X0.baloadBytes hx (j := (7 : Int32)) (v := (.int w7)) (by rw [e0]; exact Ar15.1) (State.isArrayOf_alike hZ.alike Ar15.2.1) Ar15.2.2 hin15 (Hh15.at hin15 (by rfl)) (g := (mkF m 31 #[.val (.ref a1), .val (.int (0 : Int32)), .val (.int (7 : Int32))] [(.int (7 : Int32)), (.ref a1)])) rfl rfl (hb hby d1_31)) ?_
                show OutW _ _ _ _ _ _ _ (s₁.setTop (mkF m 32 #[.val (.ref a1), .val (.int (0 : Int32)), .val (.int (7 : Int32))] [(.int w7)]))
                refine OutW.back (fun t k => XS.bipush X0.here hx rfl (hb hby d1_32) k) ?_
                show OutW _ _ _ _ _ _ _ (s₁.setTop (mkF m 34 #[.val (.ref a1), .val (.int (0 : Int32)), .val (.int (7 : Int32))] [(.int (-128 : Int32)), (.int w7)]))
                by_cases c34_16 : w7 = (-128 : Int32)
                · skip
                  refine OutW.back (fun t k => XS.icmpNo X0.here hx rfl (hb hby d1_34) rfl (teq c34_16).2 k) ?_
                  show OutW _ _ _ _ _ _ _ (s₁.setTop (mkF m 37 #[.val (.ref a1), .val (.int (0 : Int32)), .val (.int (7 : Int32))] []))
                  refine OutW.back (fun t k => XS.iconst X0.here hx rfl (hb hby d1_37) k) ?_
                  show OutW _ _ _ _ _ _ _ (s₁.setTop (mkF m 38 #[.val (.ref a1), .val (.int (0 : Int32)), .val (.int (7 : Int32))] [(.int (1 : Int32))]))
                  refine OutW.back (fun t k => XS.goto X0.here hx rfl (pc0 := 38) (pc' := 42) rfl (hb hby d1_38) (by decide) (by decide) k) ?_
                  show OutW _ _ _ _ _ _ _ (s₁.setTop (mkF m 42 #[.val (.ref a1), .val (.int (0 : Int32)), .val (.int (7 : Int32))] [(.int (1 : Int32))]))
                  refine OutW.retN X0 hx (t := .boolean) (z' := (1 : Int32)) Bd.returns (by simp) hlk (hb hby d1_42) ?hz (by decide) (by decide) ?_
                  case hz =>
                    rfl
                  show Q1_0 Z a1 w0 w1 w2 w3 w4 w5 w6 w7 w8 w9 w10 w11 w12 w13 w14 w15 kk h0 n0 _ s₁.heap _
                  rw [e0]
                  exact ⟨by rw [negz0, if_pos c13_2, if_pos c13_4, if_pos c13_6, if_pos c13_8, if_pos c13_10, if_pos c13_12, if_pos c13_14, if_pos c34_16], N0, rfl⟩
                · skip
                  refine OutW.back (fun t k => XS.icmpYes X0.here hx rfl (pc0 := 34) (pc' := 41) rfl (hb hby d1_34) rfl (feq c34_16).2 (by decide) (by decide) k) ?_
                  show OutW _ _ _ _ _ _ _ (s₁.setTop (mkF m 41 #[.val (.ref a1), .val (.int (0 : Int32)), .val (.int (7 : Int32))] []))
                  refine OutW.back (fun t k => XS.iconst X0.here hx rfl (hb hby d1_41) k) ?_
                  show OutW _ _ _ _ _ _ _ (s₁.setTop (mkF m 42 #[.val (.ref a1), .val (.int (0 : Int32)), .val (.int (7 : Int32))] [(.int (0 : Int32))]))
                  refine OutW.retN X0 hx (t := .boolean) (z' := (0 : Int32)) Bd.returns (by simp) hlk (hb hby d1_42) ?hz (by decide) (by decide) ?_
                  case hz =>
                    rfl
                  show Q1_0 Z a1 w0 w1 w2 w3 w4 w5 w6 w7 w8 w9 w10 w11 w12 w13 w14 w15 kk h0 n0 _ s₁.heap _
                  rw [e0]
                  exact ⟨by rw [negz0, if_pos c13_2, if_pos c13_4, if_pos c13_6, if_pos c13_8, if_pos c13_10, if_pos c13_12, if_pos c13_14, if_neg c34_16], N0, rfl⟩
              · skip
                refine OutW.back (fun t k => XS.ifNo X0.here hx rfl (hb hby d1_13) rfl ((if0 _ _).trans (feq c13_14).1) k) ?_
                show OutW _ _ _ _ _ _ _ (s₁.setTop (mkF m 16 #[.val (.ref a1), .val (.int (0 : Int32)), .val (.int (6 : Int32))] []))
                refine OutW.back (fun t k => XS.iconst X0.here hx rfl (hb hby d1_16) k) ?_
                show OutW _ _ _ _ _ _ _ (s₁.setTop (mkF m 17 #[.val (.ref a1), .val (.int (0 : Int32)), .val (.int (6 : Int32))] [(.int (0 : Int32))]))
                refine OutW.retN X0 hx (t := .boolean) (z' := (0 : Int32)) Bd.returns (by simp) hlk (hb hby d1_17) ?hz (by decide) (by decide) ?_
                case hz =>
                  rfl
                show Q1_0 Z a1 w0 w1 w2 w3 w4 w5 w6 w7 w8 w9 w10 w11 w12 w13 w14 w15 kk h0 n0 _ s₁.heap _
                rw [e0]
                exact ⟨by rw [negz0, if_pos c13_2, if_pos c13_4, if_pos c13_6, if_pos c13_8, if_pos c13_10, if_pos c13_12, if_neg c13_14], N0, rfl⟩
            · skip
              refine OutW.back (fun t k => XS.ifNo X0.here hx rfl (hb hby d1_13) rfl ((if0 _ _).trans (feq c13_12).1) k) ?_
              show OutW _ _ _ _ _ _ _ (s₁.setTop (mkF m 16 #[.val (.ref a1), .val (.int (0 : Int32)), .val (.int (5 : Int32))] []))
              refine OutW.back (fun t k => XS.iconst X0.here hx rfl (hb hby d1_16) k) ?_
              show OutW _ _ _ _ _ _ _ (s₁.setTop (mkF m 17 #[.val (.ref a1), .val (.int (0 : Int32)), .val (.int (5 : Int32))] [(.int (0 : Int32))]))
              refine OutW.retN X0 hx (t := .boolean) (z' := (0 : Int32)) Bd.returns (by simp) hlk (hb hby d1_17) ?hz (by decide) (by decide) ?_
              case hz =>
                rfl
              show Q1_0 Z a1 w0 w1 w2 w3 w4 w5 w6 w7 w8 w9 w10 w11 w12 w13 w14 w15 kk h0 n0 _ s₁.heap _
              rw [e0]
              exact ⟨by rw [negz0, if_pos c13_2, if_pos c13_4, if_pos c13_6, if_pos c13_8, if_pos c13_10, if_neg c13_12], N0, rfl⟩
          · skip
            refine OutW.back (fun t k => XS.ifNo X0.here hx rfl (hb hby d1_13) rfl ((if0 _ _).trans (feq c13_10).1) k) ?_
            show OutW _ _ _ _ _ _ _ (s₁.setTop (mkF m 16 #[.val (.ref a1), .val (.int (0 : Int32)), .val (.int (4 : Int32))] []))
            refine OutW.back (fun t k => XS.iconst X0.here hx rfl (hb hby d1_16) k) ?_
            show OutW _ _ _ _ _ _ _ (s₁.setTop (mkF m 17 #[.val (.ref a1), .val (.int (0 : Int32)), .val (.int (4 : Int32))] [(.int (0 : Int32))]))
            refine OutW.retN X0 hx (t := .boolean) (z' := (0 : Int32)) Bd.returns (by simp) hlk (hb hby d1_17) ?hz (by decide) (by decide) ?_
            case hz =>
              rfl
            show Q1_0 Z a1 w0 w1 w2 w3 w4 w5 w6 w7 w8 w9 w10 w11 w12 w13 w14 w15 kk h0 n0 _ s₁.heap _
            rw [e0]
            exact ⟨by rw [negz0, if_pos c13_2, if_pos c13_4, if_pos c13_6, if_pos c13_8, if_neg c13_10], N0, rfl⟩
        · skip
          refine OutW.back (fun t k => XS.ifNo X0.here hx rfl (hb hby d1_13) rfl ((if0 _ _).trans (feq c13_8).1) k) ?_
          show OutW _ _ _ _ _ _ _ (s₁.setTop (mkF m 16 #[.val (.ref a1), .val (.int (0 : Int32)), .val (.int (3 : Int32))] []))
          refine OutW.back (fun t k => XS.iconst X0.here hx rfl (hb hby d1_16) k) ?_
          show OutW _ _ _ _ _ _ _ (s₁.setTop (mkF m 17 #[.val (.ref a1), .val (.int (0 : Int32)), .val (.int (3 : Int32))] [(.int (0 : Int32))]))
          refine OutW.retN X0 hx (t := .boolean) (z' := (0 : Int32)) Bd.returns (by simp) hlk (hb hby d1_17) ?hz (by decide) (by decide) ?_
          case hz =>
            rfl
          show Q1_0 Z a1 w0 w1 w2 w3 w4 w5 w6 w7 w8 w9 w10 w11 w12 w13 w14 w15 kk h0 n0 _ s₁.heap _
          rw [e0]
          exact ⟨by rw [negz0, if_pos c13_2, if_pos c13_4, if_pos c13_6, if_neg c13_8], N0, rfl⟩
      · skip
        refine OutW.back (fun t k => XS.ifNo X0.here hx rfl (hb hby d1_13) rfl ((if0 _ _).trans (feq c13_6).1) k) ?_
        show OutW _ _ _ _ _ _ _ (s₁.setTop (mkF m 16 #[.val (.ref a1), .val (.int (0 : Int32)), .val (.int (2 : Int32))] []))
        refine OutW.back (fun t k => XS.iconst X0.here hx rfl (hb hby d1_16) k) ?_
        show OutW _ _ _ _ _ _ _ (s₁.setTop (mkF m 17 #[.val (.ref a1), .val (.int (0 : Int32)), .val (.int (2 : Int32))] [(.int (0 : Int32))]))
        refine OutW.retN X0 hx (t := .boolean) (z' := (0 : Int32)) Bd.returns (by simp) hlk (hb hby d1_17) ?hz (by decide) (by decide) ?_
        case hz =>
          rfl
        show Q1_0 Z a1 w0 w1 w2 w3 w4 w5 w6 w7 w8 w9 w10 w11 w12 w13 w14 w15 kk h0 n0 _ s₁.heap _
        rw [e0]
        exact ⟨by rw [negz0, if_pos c13_2, if_pos c13_4, if_neg c13_6], N0, rfl⟩
    · skip
      refine OutW.back (fun t k => XS.ifNo X0.here hx rfl (hb hby d1_13) rfl ((if0 _ _).trans (feq c13_4).1) k) ?_
      show OutW _ _ _ _ _ _ _ (s₁.setTop (mkF m 16 #[.val (.ref a1), .val (.int (0 : Int32)), .val (.int (1 : Int32))] []))
      refine OutW.back (fun t k => XS.iconst X0.here hx rfl (hb hby d1_16) k) ?_
      show OutW _ _ _ _ _ _ _ (s₁.setTop (mkF m 17 #[.val (.ref a1), .val (.int (0 : Int32)), .val (.int (1 : Int32))] [(.int (0 : Int32))]))
      refine OutW.retN X0 hx (t := .boolean) (z' := (0 : Int32)) Bd.returns (by simp) hlk (hb hby d1_17) ?hz (by decide) (by decide) ?_
      case hz =>
        rfl
      show Q1_0 Z a1 w0 w1 w2 w3 w4 w5 w6 w7 w8 w9 w10 w11 w12 w13 w14 w15 kk h0 n0 _ s₁.heap _
      rw [e0]
      exact ⟨by rw [negz0, if_pos c13_2, if_neg c13_4], N0, rfl⟩
  · skip
    refine OutW.back (fun t k => XS.ifNo X0.here hx rfl (hb hby d1_13) rfl ((if0 _ _).trans (feq c13_2).1) k) ?_
    show OutW _ _ _ _ _ _ _ (s₁.setTop (mkF m 16 #[.val (.ref a1), .val (.int (0 : Int32)), .val (.int (0 : Int32))] []))
    refine OutW.back (fun t k => XS.iconst X0.here hx rfl (hb hby d1_16) k) ?_
    show OutW _ _ _ _ _ _ _ (s₁.setTop (mkF m 17 #[.val (.ref a1), .val (.int (0 : Int32)), .val (.int (0 : Int32))] [(.int (0 : Int32))]))
    refine OutW.retN X0 hx (t := .boolean) (z' := (0 : Int32)) Bd.returns (by simp) hlk (hb hby d1_17) ?hz (by decide) (by decide) ?_
    case hz =>
      rfl
    show Q1_0 Z a1 w0 w1 w2 w3 w4 w5 w6 w7 w8 w9 w10 w11 w12 w13 w14 w15 kk h0 n0 _ s₁.heap _
    rw [e0]
    exact ⟨by rw [negz0, if_neg c13_2], N0, rfl⟩
def negz1 (w1 : Int32) (w2 : Int32) (w3 : Int32) (w4 : Int32) (w5 : Int32) (w6 : Int32) (w7 : Int32) (w8 : Int32) : Int32 := (if w1 = (0 : Int32) then (if w2 = (0 : Int32) then (if w3 = (0 : Int32) then (if w4 = (0 : Int32) then (if w5 = (0 : Int32) then (if w6 = (0 : Int32) then (if w7 = (0 : Int32) then (if w8 = (-128 : Int32) then (1 : Int32) else (0 : Int32)) else (0 : Int32)) else (0 : Int32)) else (0 : Int32)) else (0 : Int32)) else (0 : Int32)) else (0 : Int32)) else (0 : Int32))
theorem ef_1_1 (m : MethodId) (x0 : Addr) : entryFrame m #[(.ref x0), (.int (1 : Int32))] 3 = mkF m 0 #[.val (.ref x0), .val (.int (1 : Int32)), .unset] [] := by first | (simp [entryFrame, mkF, argsToLocals, Value.category]; done) | rfl
def Q1_1 (Z : State) (a1 : Addr) (w0 : Int32) (w1 : Int32) (w2 : Int32) (w3 : Int32) (w4 : Int32) (w5 : Int32) (w6 : Int32) (w7 : Int32) (w8 : Int32) (w9 : Int32) (w10 : Int32) (w11 : Int32) (w12 : Int32) (w13 : Int32) (w14 : Int32) (w15 : Int32) (kk : ClassId) (h0 : Heap) (n0 : Nat) (v : Option Value) (h : Heap) (L : List Loc) : Prop := v = some (.int (negz1 w1 w2 w3 w4 w5 w6 w7 w8)) ∧ Fr n0 L ∧ h = h0
set_option maxRecDepth 65536 in
set_option maxHeartbeats 40000000 in
theorem rm1_1 (l : Launch) (Z : State) (a0 : Array Value) (hw : ∀ d ∈ tables_1, d.before a0 Z = true) (ws : List Jvm.Cond) (a1 : Addr) (w0 : Int32) (w1 : Int32) (w2 : Int32) (w3 : Int32) (w4 : Int32) (w5 : Int32) (w6 : Int32) (w7 : Int32) (w8 : Int32) (w9 : Int32) (w10 : Int32) (w11 : Int32) (w12 : Int32) (w13 : Int32) (w14 : Int32) (w15 : Int32) (kk : ClassId) (h0 : Heap) (n0 : Nat) (Z0 : n0 ≤ h0.size) (V_a1 : Arv Z h0 a1 kk .byte (16 : Int32) [(.int w0), (.int w1), (.int w2), (.int w3), (.int w4), (.int w5), (.int w6), (.int w7), (.int w8), (.int w9), (.int w10), (.int w11), (.int w12), (.int w13), (.int w14), (.int w15)] (.int (0 : Int32))) :
    MetFree l (⟨"com/example/patchloom/patchloom/delta/SignMagnitude", "isNegativeZero", "([BI)Z"⟩ : MethodName) (head1 (Jvm.Cond.code (⟨"com/example/patchloom/patchloom/delta/SignMagnitude", "isNegativeZero", "([BI)Z"⟩ : MethodName) prog_26_method_3_code 3 (some .boolean) :: ws) ({ frames := 0, cells := 0, slots := 0, locals := 0 } : Room)) (fun a U => a = #[(.ref a1), (.int (1 : Int32))] ∧ Z.Warmed39 U.vm ∧ U.heap = h0) (fun _ _ _ _ _ => True) (fun _ U o U' => ∃ v L, o = .returned v ∧ Q1_1 Z a1 w0 w1 w2 w3 w4 w5 w6 w7 w8 w9 w10 w11 w12 w13 w14 w15 kk h0 n0 v U'.heap L ∧ FrameEnd U o U' L ({ frames := 0, cells := 0, slots := 0, locals := 0 } : Room).cells ({ frames := 0, cells := 0, slots := 0, locals := 0 } : Room).slots) := by
  refine MetFree.of_bodySF (plainFor_of_name pn_1) hisR ?_
  intro p e s m args below meth c s₁ Bd hml0 hP hK
  obtain ⟨rfl, hZ, hh⟩ := hP
  have hx := Bd.exec
  have hby := Bd.bytes
  have hlk := Bd.notSynchronized
  have hml : c.maxLocals = 3 := hml0
  have hown : s.vm.findClass "com/example/patchloom/patchloom/delta/SignMagnitude" = some m.cls := findClass_of_methodNamed Bd.named
  have hnm := (name_of_methodNamed Bd.named Bd.method).1
  have X0 : Stand p l e ({ frames := 0, cells := 0, slots := 0, locals := 0 } : Room) s m #[(.ref a1), (.int (1 : Int32))] below meth c s₁ [] 0 0 := Stand.of_body Bd
  have e0 : s₁.heap = h0 := by rw [← hh, Bd.state]; rfl
  have N0 := Fr.nil n0
  have K0 : Keep h0 h0 [] := Keep.refl h0 _
  show OutW p e below s ({ frames := 0, cells := 0, slots := 0, locals := 0 } : Room).cells ({ frames := 0, cells := 0, slots := 0, locals := 0 } : Room).slots (Q1_1 Z a1 w0 w1 w2 w3 w4 w5 w6 w7 w8 w9 w10 w11 w12 w13 w14 w15 kk h0 n0) _
  refine OutW.back (fun t k => castTop (ef_1_1 m a1) k) ?_
  show OutW _ _ _ _ _ _ _ (s₁.setTop (mkF m 0 #[.val (.ref a1), .val (.int (1 : Int32)), .unset] []))
  refine OutW.back (fun t k => XS.iconst X0.here hx rfl (hb hby d1_0) k) ?_
  show OutW _ _ _ _ _ _ _ (s₁.setTop (mkF m 1 #[.val (.ref a1), .val (.int (1 : Int32)), .unset] [(.int (0 : Int32))]))
  refine OutW.back (fun t k => XS.istoreN X0.here hx rfl (hb hby d1_1) rfl (l' := #[.val (.ref a1), .val (.int (1 : Int32)), .val (.int (0 : Int32))]) rfl k) ?_
  show OutW _ _ _ _ _ _ _ (s₁.setTop (mkF m 2 #[.val (.ref a1), .val (.int (1 : Int32)), .val (.int (0 : Int32))] []))
  refine OutW.back (fun t k => XS.iloadN X0.here hx rfl (hb hby d1_2) rfl  k) ?_
  show OutW _ _ _ _ _ _ _ (s₁.setTop (mkF m 3 #[.val (.ref a1), .val (.int (1 : Int32)), .val (.int (0 : Int32))] [(.int (0 : Int32))]))
  refine OutW.back (fun t k => XS.bipush X0.here hx rfl (hb hby d1_3) k) ?_
  show OutW _ _ _ _ _ _ _ (s₁.setTop (mkF m 5 #[.val (.ref a1), .val (.int (1 : Int32)), .val (.int (0 : Int32))] [(.int (7 : Int32)), (.int (0 : Int32))]))
  refine OutW.back (fun t k => XS.icmpNo X0.here hx rfl (hb hby d1_5) rfl (tlt (by decide : (0 : Int32) < (7 : Int32))).2.1 k) ?_
  show OutW _ _ _ _ _ _ _ (s₁.setTop (mkF m 8 #[.val (.ref a1), .val (.int (1 : Int32)), .val (.int (0 : Int32))] []))
  refine OutW.back (fun t k => XS.aloadN X0.here hx rfl (hb hby d1_8) rfl rfl  k) ?_
  show OutW _ _ _ _ _ _ _ (s₁.setTop (mkF m 9 #[.val (.ref a1), .val (.int (1 : Int32)), .val (.int (0 : Int32))] [(.ref a1)]))
  refine OutW.back (fun t k => XS.iloadN X0.here hx rfl (hb hby d1_9) rfl  k) ?_
  show OutW _ _ _ _ _ _ _ (s₁.setTop (mkF m 10 #[.val (.ref a1), .val (.int (1 : Int32)), .val (.int (0 : Int32))] [(.int (1 : Int32)), (.ref a1)]))
  refine OutW.back (fun t k => XS.iloadN X0.here hx rfl (hb hby d1_10) rfl  k) ?_
  show OutW _ _ _ _ _ _ _ (s₁.setTop (mkF m 11 #[.val (.ref a1), .val (.int (1 : Int32)), .val (.int (0 : Int32))] [(.int (0 : Int32)), (.int (1 : Int32)), (.ref a1)]))
  refine OutW.back (fun t k => XS.iadd X0.here hx rfl (hb hby d1_11) rfl k) ?_
  show OutW _ _ _ _ _ _ _ (s₁.setTop (mkF m 12 #[.val (.ref a1), .val (.int (1 : Int32)), .val (.int (0 : Int32))] [(.int ((1 : Int32) + (0 : Int32))), (.ref a1)]))
  rw [show ((1 : Int32) + (0 : Int32)) = (1 : Int32) from by decide]
  obtain ⟨cl1, Ar1, Qk1, Sz1, Nn1, Hh1, Gg1⟩ := id V_a1
  have hin1 : ¬ ((1 : Int32) < 0 ∨ cl1.slots.size ≤ ((1 : Int32)).toNatClampNeg) := inb_of Sz1 ⟨by decide, by decide⟩
  refine OutW.back (X0.baloadBytes hx (j := (1 : Int32)) (v := (.int w1)) (by rw [e0]; exact Ar1.1) (State.isArrayOf_alike hZ.alike Ar1.2.1) Ar1.2.2 hin1 (Hh1.at hin1 (by rfl)) (g := (mkF m 12 #[.val (.ref a1), .val (.int (1 : Int32)), .val (.int (0 : Int32))] [(.int (1 : Int32)), (.ref a1)])) rfl rfl (hb hby d1_12)) ?_
  show OutW _ _ _ _ _ _ _ (s₁.setTop (mkF m 13 #[.val (.ref a1), .val (.int (1 : Int32)), .val (.int (0 : Int32))] [(.int w1)]))
  by_cases c13_2 : w1 = (0 : Int32)
  · skip
    refine OutW.back (fun t k => XS.ifYes X0.here hx rfl (pc0 := 13) (pc' := 18) rfl (hb hby d1_13) rfl ((if0 _ _).trans (teq c13_2).1) (by decide) (by decide) k) ?_
    show OutW _ _ _ _ _ _ _ (s₁.setTop (mkF m 18 #[.val (.ref a1), .val (.int (1 : Int32)), .val (.int (0 : Int32))] []))
    refine OutW.back (fun t k => XS.iinc X0.here hx rfl (hb hby d1_18) rfl (l' := #[.val (.ref a1), .val (.int (1 : Int32)), .val (.int ((0 : Int32) + (1 : Int32)))]) rfl k) ?_
    show OutW _ _ _ _ _ _ _ (s₁.setTop (mkF m 21 #[.val (.ref a1), .val (.int (1 : Int32)), .val (.int ((0 : Int32) + (1 : Int32)))] []))
    rw [show ((0 : Int32) + (1 : Int32)) = (1 : Int32) from by decide]
    refine OutW.back (fun t k => XS.goto X0.here hx rfl (pc0 := 21) (pc' := 2) rfl (hb hby d1_21) (by decide) (by decide) k) ?_
    show OutW _ _ _ _ _ _ _ (s₁.setTop (mkF m 2 #[.val (.ref a1), .val (.int (1 : Int32)), .val (.int (1 : Int32))] []))
    refine OutW.back (fun t k => XS.iloadN X0.here hx rfl (hb hby d1_2) rfl  k) ?_
    show OutW _ _ _ _ _ _ _ (s₁.setTop (mkF m 3 #[.val (.ref a1), .val (.int (1 : Int32)), .val (.int (1 : Int32))] [(.int (1 : Int32))]))
    refine OutW.back (fun t k => XS.bipush X0.here hx rfl (hb hby d1_3) k) ?_
    show OutW _ _ _ _ _ _ _ (s₁.setTop (mkF m 5 #[.val (.ref a1), .val (.int (1 : Int32)), .val (.int (1 : Int32))] [(.int (7 : Int32)), (.int (1 : Int32))]))
    refine OutW.back (fun t k => XS.icmpNo X0.here hx rfl (hb hby d1_5) rfl (tlt (by decide : (1 : Int32) < (7 : Int32))).2.1 k) ?_
    show OutW _ _ _ _ _ _ _ (s₁.setTop (mkF m 8 #[.val (.ref a1), .val (.int (1 : Int32)), .val (.int (1 : Int32))] []))
    refine OutW.back (fun t k => XS.aloadN X0.here hx rfl (hb hby d1_8) rfl rfl  k) ?_
    show OutW _ _ _ _ _ _ _ (s₁.setTop (mkF m 9 #[.val (.ref a1), .val (.int (1 : Int32)), .val (.int (1 : Int32))] [(.ref a1)]))
    refine OutW.back (fun t k => XS.iloadN X0.here hx rfl (hb hby d1_9) rfl  k) ?_
    show OutW _ _ _ _ _ _ _ (s₁.setTop (mkF m 10 #[.val (.ref a1), .val (.int (1 : Int32)), .val (.int (1 : Int32))] [(.int (1 : Int32)), (.ref a1)]))
    refine OutW.back (fun t k => XS.iloadN X0.here hx rfl (hb hby d1_10) rfl  k) ?_
    show OutW _ _ _ _ _ _ _ (s₁.setTop (mkF m 11 #[.val (.ref a1), .val (.int (1 : Int32)), .val (.int (1 : Int32))] [(.int (1 : Int32)), (.int (1 : Int32)), (.ref a1)]))
    refine OutW.back (fun t k => XS.iadd X0.here hx rfl (hb hby d1_11) rfl k) ?_
    show OutW _ _ _ _ _ _ _ (s₁.setTop (mkF m 12 #[.val (.ref a1), .val (.int (1 : Int32)), .val (.int (1 : Int32))] [(.int ((1 : Int32) + (1 : Int32))), (.ref a1)]))
    rw [show ((1 : Int32) + (1 : Int32)) = (2 : Int32) from by decide]
    obtain ⟨cl3, Ar3, Qk3, Sz3, Nn3, Hh3, Gg3⟩ := id V_a1
    have hin3 : ¬ ((2 : Int32) < 0 ∨ cl3.slots.size ≤ ((2 : Int32)).toNatClampNeg) := inb_of Sz3 ⟨by decide, by decide⟩
    refine OutW.back (X0.baloadBytes hx (j := (2 : Int32)) (v := (.int w2)) (by rw [e0]; exact Ar3.1) (State.isArrayOf_alike hZ.alike Ar3.2.1) Ar3.2.2 hin3 (Hh3.at hin3 (by rfl)) (g := (mkF m 12 #[.val (.ref a1), .val (.int (1 : Int32)), .val (.int (1 : Int32))] [(.int (2 : Int32)), (.ref a1)])) rfl rfl (hb hby d1_12)) ?_
    show OutW _ _ _ _ _ _ _ (s₁.setTop (mkF m 13 #[.val (.ref a1), .val (.int (1 : Int32)), .val (.int (1 : Int32))] [(.int w2)]))
    by_cases c13_4 : w2 = (0 : Int32)
    · skip
      refine OutW.back (fun t k => XS.ifYes X0.here hx rfl (pc0 := 13) (pc' := 18) rfl (hb hby d1_13) rfl ((if0 _ _).trans (teq c13_4).1) (by decide) (by decide) k) ?_
      show OutW _ _ _ _ _ _ _ (s₁.setTop (mkF m 18 #[.val (.ref a1), .val (.int (1 : Int32)), .val (.int (1 : Int32))] []))
      refine OutW.back (fun t k => XS.iinc X0.here hx rfl (hb hby d1_18) rfl (l' := #[.val (.ref a1), .val (.int (1 : Int32)), .val (.int ((1 : Int32) + (1 : Int32)))]) rfl k) ?_
      show OutW _ _ _ _ _ _ _ (s₁.setTop (mkF m 21 #[.val (.ref a1), .val (.int (1 : Int32)), .val (.int ((1 : Int32) + (1 : Int32)))] []))
      rw [show ((1 : Int32) + (1 : Int32)) = (2 : Int32) from by decide]
      refine OutW.back (fun t k => XS.goto X0.here hx rfl (pc0 := 21) (pc' := 2) rfl (hb hby d1_21) (by decide) (by decide) k) ?_
      show OutW _ _ _ _ _ _ _ (s₁.setTop (mkF m 2 #[.val (.ref a1), .val (.int (1 : Int32)), .val (.int (2 : Int32))] []))
      refine OutW.back (fun t k => XS.iloadN X0.here hx rfl (hb hby d1_2) rfl  k) ?_
      show OutW _ _ _ _ _ _ _ (s₁.setTop (mkF m 3 #[.val (.ref a1), .val (.int (1 : Int32)), .val (.int (2 : Int32))] [(.int (2 : Int32))]))
      refine OutW.back (fun t k => XS.bipush X0.here hx rfl (hb hby d1_3) k) ?_
      show OutW _ _ _ _ _ _ _ (s₁.setTop (mkF m 5 #[.val (.ref a1), .val (.int (1 : Int32)), .val (.int (2 : Int32))] [(.int (7 : Int32)), (.int (2 : Int32))]))
      refine OutW.back (fun t k => XS.icmpNo X0.here hx rfl (hb hby d1_5) rfl (tlt (by decide : (2 : Int32) < (7 : Int32))).2.1 k) ?_
      show OutW _ _ _ _ _ _ _ (s₁.setTop (mkF m 8 #[.val (.ref a1), .val (.int (1 : Int32)), .val (.int (2 : Int32))] []))
      refine OutW.back (fun t k => XS.aloadN X0.here hx rfl (hb hby d1_8) rfl rfl  k) ?_
      show OutW _ _ _ _ _ _ _ (s₁.setTop (mkF m 9 #[.val (.ref a1), .val (.int (1 : Int32)), .val (.int (2 : Int32))] [(.ref a1)]))
      refine OutW.back (fun t k => XS.iloadN X0.here hx rfl (hb hby d1_9) rfl  k) ?_
      show OutW _ _ _ _ _ _ _ (s₁.setTop (mkF m 10 #[.val (.ref a1), .val (.int (1 : Int32)), .val (.int (2 : Int32))] [(.int (1 : Int32)), (.ref a1)]))
      refine OutW.back (fun t k => XS.iloadN X0.here hx rfl (hb hby d1_10) rfl  k) ?_
      show OutW _ _ _ _ _ _ _ (s₁.setTop (mkF m 11 #[.val (.ref a1), .val (.int (1 : Int32)), .val (.int (2 : Int32))] [(.int (2 : Int32)), (.int (1 : Int32)), (.ref a1)]))
      refine OutW.back (fun t k => XS.iadd X0.here hx rfl (hb hby d1_11) rfl k) ?_
      show OutW _ _ _ _ _ _ _ (s₁.setTop (mkF m 12 #[.val (.ref a1), .val (.int (1 : Int32)), .val (.int (2 : Int32))] [(.int ((1 : Int32) + (2 : Int32))), (.ref a1)]))
      rw [show ((1 : Int32) + (2 : Int32)) = (3 : Int32) from by decide]
      obtain ⟨cl5, Ar5, Qk5, Sz5, Nn5, Hh5, Gg5⟩ := id V_a1
      have hin5 : ¬ ((3 : Int32) < 0 ∨ cl5.slots.size ≤ ((3 : Int32)).toNatClampNeg) := inb_of Sz5 ⟨by decide, by decide⟩
      refine OutW.back (X0.baloadBytes hx (j := (3 : Int32)) (v := (.int w3)) (by rw [e0]; exact Ar5.1) (State.isArrayOf_alike hZ.alike Ar5.2.1) Ar5.2.2 hin5 (Hh5.at hin5 (by rfl)) (g := (mkF m 12 #[.val (.ref a1), .val (.int (1 : Int32)), .val (.int (2 : Int32))] [(.int (3 : Int32)), (.ref a1)])) rfl rfl (hb hby d1_12)) ?_
      show OutW _ _ _ _ _ _ _ (s₁.setTop (mkF m 13 #[.val (.ref a1), .val (.int (1 : Int32)), .val (.int (2 : Int32))] [(.int w3)]))
      by_cases c13_6 : w3 = (0 : Int32)
      · skip
        refine OutW.back (fun t k => XS.ifYes X0.here hx rfl (pc0 := 13) (pc' := 18) rfl (hb hby d1_13) rfl ((if0 _ _).trans (teq c13_6).1) (by decide) (by decide) k) ?_
        show OutW _ _ _ _ _ _ _ (s₁.setTop (mkF m 18 #[.val (.ref a1), .val (.int (1 : Int32)), .val (.int (2 : Int32))] []))
        refine OutW.back (fun t k => XS.iinc X0.here hx rfl (hb hby d1_18) rfl (l' := #[.val (.ref a1), .val (.int (1 : Int32)), .val (.int ((2 : Int32) + (1 : Int32)))]) rfl k) ?_
        show OutW _ _ _ _ _ _ _ (s₁.setTop (mkF m 21 #[.val (.ref a1), .val (.int (1 : Int32)), .val (.int ((2 : Int32) + (1 : Int32)))] []))
        rw [show ((2 : Int32) + (1 : Int32)) = (3 : Int32) from by decide]
        refine OutW.back (fun t k => XS.goto X0.here hx rfl (pc0 := 21) (pc' := 2) rfl (hb hby d1_21) (by decide) (by decide) k) ?_
        show OutW _ _ _ _ _ _ _ (s₁.setTop (mkF m 2 #[.val (.ref a1), .val (.int (1 : Int32)), .val (.int (3 : Int32))] []))
        refine OutW.back (fun t k => XS.iloadN X0.here hx rfl (hb hby d1_2) rfl  k) ?_
        show OutW _ _ _ _ _ _ _ (s₁.setTop (mkF m 3 #[.val (.ref a1), .val (.int (1 : Int32)), .val (.int (3 : Int32))] [(.int (3 : Int32))]))
        refine OutW.back (fun t k => XS.bipush X0.here hx rfl (hb hby d1_3) k) ?_
        show OutW _ _ _ _ _ _ _ (s₁.setTop (mkF m 5 #[.val (.ref a1), .val (.int (1 : Int32)), .val (.int (3 : Int32))] [(.int (7 : Int32)), (.int (3 : Int32))]))
        refine OutW.back (fun t k => XS.icmpNo X0.here hx rfl (hb hby d1_5) rfl (tlt (by decide : (3 : Int32) < (7 : Int32))).2.1 k) ?_
        show OutW _ _ _ _ _ _ _ (s₁.setTop (mkF m 8 #[.val (.ref a1), .val (.int (1 : Int32)), .val (.int (3 : Int32))] []))
        refine OutW.back (fun t k => XS.aloadN X0.here hx rfl (hb hby d1_8) rfl rfl  k) ?_
        show OutW _ _ _ _ _ _ _ (s₁.setTop (mkF m 9 #[.val (.ref a1), .val (.int (1 : Int32)), .val (.int (3 : Int32))] [(.ref a1)]))
        refine OutW.back (fun t k => XS.iloadN X0.here hx rfl (hb hby d1_9) rfl  k) ?_
        show OutW _ _ _ _ _ _ _ (s₁.setTop (mkF m 10 #[.val (.ref a1), .val (.int (1 : Int32)), .val (.int (3 : Int32))] [(.int (1 : Int32)), (.ref a1)]))
        refine OutW.back (fun t k => XS.iloadN X0.here hx rfl (hb hby d1_10) rfl  k) ?_
        show OutW _ _ _ _ _ _ _ (s₁.setTop (mkF m 11 #[.val (.ref a1), .val (.int (1 : Int32)), .val (.int (3 : Int32))] [(.int (3 : Int32)), (.int (1 : Int32)), (.ref a1)]))
        refine OutW.back (fun t k => XS.iadd X0.here hx rfl (hb hby d1_11) rfl k) ?_
        show OutW _ _ _ _ _ _ _ (s₁.setTop (mkF m 12 #[.val (.ref a1), .val (.int (1 : Int32)), .val (.int (3 : Int32))] [(.int ((1 : Int32) + (3 : Int32))), (.ref a1)]))
        rw [show ((1 : Int32) + (3 : Int32)) = (4 : Int32) from by decide]
        obtain ⟨cl7, Ar7, Qk7, Sz7, Nn7, Hh7, Gg7⟩ := id V_a1
        have hin7 : ¬ ((4 : Int32) < 0 ∨ cl7.slots.size ≤ ((4 : Int32)).toNatClampNeg) := inb_of Sz7 ⟨by decide, by decide⟩
        refine OutW.back (X0.baloadBytes hx (j := (4 : Int32)) (v := (.int w4)) (by rw [e0]; exact Ar7.1) (State.isArrayOf_alike hZ.alike Ar7.2.1) Ar7.2.2 hin7 (Hh7.at hin7 (by rfl)) (g := (mkF m 12 #[.val (.ref a1), .val (.int (1 : Int32)), .val (.int (3 : Int32))] [(.int (4 : Int32)), (.ref a1)])) rfl rfl (hb hby d1_12)) ?_
        show OutW _ _ _ _ _ _ _ (s₁.setTop (mkF m 13 #[.val (.ref a1), .val (.int (1 : Int32)), .val (.int (3 : Int32))] [(.int w4)]))
        by_cases c13_8 : w4 = (0 : Int32)
        · skip
          refine OutW.back (fun t k => XS.ifYes X0.here hx rfl (pc0 := 13) (pc' := 18) rfl (hb hby d1_13) rfl ((if0 _ _).trans (teq c13_8).1) (by decide) (by decide) k) ?_
          show OutW _ _ _ _ _ _ _ (s₁.setTop (mkF m 18 #[.val (.ref a1), .val (.int (1 : Int32)), .val (.int (3 : Int32))] []))
          refine OutW.back (fun t k => XS.iinc X0.here hx rfl (hb hby d1_18) rfl (l' := #[.val (.ref a1), .val (.int (1 : Int32)), .val (.int ((3 : Int32) + (1 : Int32)))]) rfl k) ?_
          show OutW _ _ _ _ _ _ _ (s₁.setTop (mkF m 21 #[.val (.ref a1), .val (.int (1 : Int32)), .val (.int ((3 : Int32) + (1 : Int32)))] []))
          rw [show ((3 : Int32) + (1 : Int32)) = (4 : Int32) from by decide]
          refine OutW.back (fun t k => XS.goto X0.here hx rfl (pc0 := 21) (pc' := 2) rfl (hb hby d1_21) (by decide) (by decide) k) ?_
          show OutW _ _ _ _ _ _ _ (s₁.setTop (mkF m 2 #[.val (.ref a1), .val (.int (1 : Int32)), .val (.int (4 : Int32))] []))
          refine OutW.back (fun t k => XS.iloadN X0.here hx rfl (hb hby d1_2) rfl  k) ?_
          show OutW _ _ _ _ _ _ _ (s₁.setTop (mkF m 3 #[.val (.ref a1), .val (.int (1 : Int32)), .val (.int (4 : Int32))] [(.int (4 : Int32))]))
          refine OutW.back (fun t k => XS.bipush X0.here hx rfl (hb hby d1_3) k) ?_
          show OutW _ _ _ _ _ _ _ (s₁.setTop (mkF m 5 #[.val (.ref a1), .val (.int (1 : Int32)), .val (.int (4 : Int32))] [(.int (7 : Int32)), (.int (4 : Int32))]))
          refine OutW.back (fun t k => XS.icmpNo X0.here hx rfl (hb hby d1_5) rfl (tlt (by decide : (4 : Int32) < (7 : Int32))).2.1 k) ?_
          show OutW _ _ _ _ _ _ _ (s₁.setTop (mkF m 8 #[.val (.ref a1), .val (.int (1 : Int32)), .val (.int (4 : Int32))] []))
          refine OutW.back (fun t k => XS.aloadN X0.here hx rfl (hb hby d1_8) rfl rfl  k) ?_
          show OutW _ _ _ _ _ _ _ (s₁.setTop (mkF m 9 #[.val (.ref a1), .val (.int (1 : Int32)), .val (.int (4 : Int32))] [(.ref a1)]))
          refine OutW.back (fun t k => XS.iloadN X0.here hx rfl (hb hby d1_9) rfl  k) ?_
          show OutW _ _ _ _ _ _ _ (s₁.setTop (mkF m 10 #[.val (.ref a1), .val (.int (1 : Int32)), .val (.int (4 : Int32))] [(.int (1 : Int32)), (.ref a1)]))
          refine OutW.back (fun t k => XS.iloadN X0.here hx rfl (hb hby d1_10) rfl  k) ?_
          show OutW _ _ _ _ _ _ _ (s₁.setTop (mkF m 11 #[.val (.ref a1), .val (.int (1 : Int32)), .val (.int (4 : Int32))] [(.int (4 : Int32)), (.int (1 : Int32)), (.ref a1)]))
          refine OutW.back (fun t k => XS.iadd X0.here hx rfl (hb hby d1_11) rfl k) ?_
          show OutW _ _ _ _ _ _ _ (s₁.setTop (mkF m 12 #[.val (.ref a1), .val (.int (1 : Int32)), .val (.int (4 : Int32))] [(.int ((1 : Int32) + (4 : Int32))), (.ref a1)]))
          rw [show ((1 : Int32) + (4 : Int32)) = (5 : Int32) from by decide]
          obtain ⟨cl9, Ar9, Qk9, Sz9, Nn9, Hh9, Gg9⟩ := id V_a1
          have hin9 : ¬ ((5 : Int32) < 0 ∨ cl9.slots.size ≤ ((5 : Int32)).toNatClampNeg) := inb_of Sz9 ⟨by decide, by decide⟩
          refine OutW.back (X0.baloadBytes hx (j := (5 : Int32)) (v := (.int w5)) (by rw [e0]; exact Ar9.1) (State.isArrayOf_alike hZ.alike Ar9.2.1) Ar9.2.2 hin9 (Hh9.at hin9 (by rfl)) (g := (mkF m 12 #[.val (.ref a1), .val (.int (1 : Int32)), .val (.int (4 : Int32))] [(.int (5 : Int32)), (.ref a1)])) rfl rfl (hb hby d1_12)) ?_
          show OutW _ _ _ _ _ _ _ (s₁.setTop (mkF m 13 #[.val (.ref a1), .val (.int (1 : Int32)), .val (.int (4 : Int32))] [(.int w5)]))
          by_cases c13_10 : w5 = (0 : Int32)
          · skip
            refine OutW.back (fun t k => XS.ifYes X0.here hx rfl (pc0 := 13) (pc' := 18) rfl (hb hby d1_13) rfl ((if0 _ _).trans (teq c13_10).1) (by decide) (by decide) k) ?_
            show OutW _ _ _ _ _ _ _ (s₁.setTop (mkF m 18 #[.val (.ref a1), .val (.int (1 : Int32)), .val (.int (4 : Int32))] []))
            refine OutW.back (fun t k => XS.iinc X0.here hx rfl (hb hby d1_18) rfl (l' := #[.val (.ref a1), .val (.int (1 : Int32)), .val (.int ((4 : Int32) + (1 : Int32)))]) rfl k) ?_
            show OutW _ _ _ _ _ _ _ (s₁.setTop (mkF m 21 #[.val (.ref a1), .val (.int (1 : Int32)), .val (.int ((4 : Int32) + (1 : Int32)))] []))
            rw [show ((4 : Int32) + (1 : Int32)) = (5 : Int32) from by decide]
            refine OutW.back (fun t k => XS.goto X0.here hx rfl (pc0 := 21) (pc' := 2) rfl (hb hby d1_21) (by decide) (by decide) k) ?_
            show OutW _ _ _ _ _ _ _ (s₁.setTop (mkF m 2 #[.val (.ref a1), .val (.int (1 : Int32)), .val (.int (5 : Int32))] []))
            refine OutW.back (fun t k => XS.iloadN X0.here hx rfl (hb hby d1_2) rfl  k) ?_
            show OutW _ _ _ _ _ _ _ (s₁.setTop (mkF m 3 #[.val (.ref a1), .val (.int (1 : Int32)), .val (.int (5 : Int32))] [(.int (5 : Int32))]))
            refine OutW.back (fun t k => XS.bipush X0.here hx rfl (hb hby d1_3) k) ?_
            show OutW _ _ _ _ _ _ _ (s₁.setTop (mkF m 5 #[.val (.ref a1), .val (.int (1 : Int32)), .val (.int (5 : Int32))] [(.int (7 : Int32)), (.int (5 : Int32))]))
            refine OutW.back (fun t k => XS.icmpNo X0.here hx rfl (hb hby d1_5) rfl (tlt (by decide : (5 : Int32) < (7 : Int32))).2.1 k) ?_
            show OutW _ _ _ _ _ _ _ (s₁.setTop (mkF m 8 #[.val (.ref a1), .val (.int (1 : Int32)), .val (.int (5 : Int32))] []))
            refine OutW.back (fun t k => XS.aloadN X0.here hx rfl (hb hby d1_8) rfl rfl  k) ?_
            show OutW _ _ _ _ _ _ _ (s₁.setTop (mkF m 9 #[.val (.ref a1), .val (.int (1 : Int32)), .val (.int (5 : Int32))] [(.ref a1)]))
            refine OutW.back (fun t k => XS.iloadN X0.here hx rfl (hb hby d1_9) rfl  k) ?_
            show OutW _ _ _ _ _ _ _ (s₁.setTop (mkF m 10 #[.val (.ref a1), .val (.int (1 : Int32)), .val (.int (5 : Int32))] [(.int (1 : Int32)), (.ref a1)]))
            refine OutW.back (fun t k => XS.iloadN X0.here hx rfl (hb hby d1_10) rfl  k) ?_
            show OutW _ _ _ _ _ _ _ (s₁.setTop (mkF m 11 #[.val (.ref a1), .val (.int (1 : Int32)), .val (.int (5 : Int32))] [(.int (5 : Int32)), (.int (1 : Int32)), (.ref a1)]))
            refine OutW.back (fun t k => XS.iadd X0.here hx rfl (hb hby d1_11) rfl k) ?_
            show OutW _ _ _ _ _ _ _ (s₁.setTop (mkF m 12 #[.val (.ref a1), .val (.int (1 : Int32)), .val (.int (5 : Int32))] [(.int ((1 : Int32) + (5 : Int32))), (.ref a1)]))
            rw [show ((1 : Int32) + (5 : Int32)) = (6 : Int32) from by decide]
            obtain ⟨cl11, Ar11, Qk11, Sz11, Nn11, Hh11, Gg11⟩ := id V_a1
            have hin11 : ¬ ((6 : Int32) < 0 ∨ cl11.slots.size ≤ ((6 : Int32)).toNatClampNeg) := inb_of Sz11 ⟨by decide, by decide⟩
            refine OutW.back (X0.baloadBytes hx (j := (6 : Int32)) (v := (.int w6)) (by rw [e0]; exact Ar11.1) (State.isArrayOf_alike hZ.alike Ar11.2.1) Ar11.2.2 hin11 (Hh11.at hin11 (by rfl)) (g := (mkF m 12 #[.val (.ref a1), .val (.int (1 : Int32)), .val (.int (5 : Int32))] [(.int (6 : Int32)), (.ref a1)])) rfl rfl (hb hby d1_12)) ?_
            show OutW _ _ _ _ _ _ _ (s₁.setTop (mkF m 13 #[.val (.ref a1), .val (.int (1 : Int32)), .val (.int (5 : Int32))] [(.int w6)]))
            by_cases c13_12 : w6 = (0 : Int32)
            · skip
              refine OutW.back (fun t k => XS.ifYes X0.here hx rfl (pc0 := 13) (pc' := 18) rfl (hb hby d1_13) rfl ((if0 _ _).trans (teq c13_12).1) (by decide) (by decide) k) ?_
              show OutW _ _ _ _ _ _ _ (s₁.setTop (mkF m 18 #[.val (.ref a1), .val (.int (1 : Int32)), .val (.int (5 : Int32))] []))
              refine OutW.back (fun t k => XS.iinc X0.here hx rfl (hb hby d1_18) rfl (l' := #[.val (.ref a1), .val (.int (1 : Int32)), .val (.int ((5 : Int32) + (1 : Int32)))]) rfl k) ?_
              show OutW _ _ _ _ _ _ _ (s₁.setTop (mkF m 21 #[.val (.ref a1), .val (.int (1 : Int32)), .val (.int ((5 : Int32) + (1 : Int32)))] []))
              rw [show ((5 : Int32) + (1 : Int32)) = (6 : Int32) from by decide]
              refine OutW.back (fun t k => XS.goto X0.here hx rfl (pc0 := 21) (pc' := 2) rfl (hb hby d1_21) (by decide) (by decide) k) ?_
              show OutW _ _ _ _ _ _ _ (s₁.setTop (mkF m 2 #[.val (.ref a1), .val (.int (1 : Int32)), .val (.int (6 : Int32))] []))
              refine OutW.back (fun t k => XS.iloadN X0.here hx rfl (hb hby d1_2) rfl  k) ?_
              show OutW _ _ _ _ _ _ _ (s₁.setTop (mkF m 3 #[.val (.ref a1), .val (.int (1 : Int32)), .val (.int (6 : Int32))] [(.int (6 : Int32))]))
              refine OutW.back (fun t k => XS.bipush X0.here hx rfl (hb hby d1_3) k) ?_
              show OutW _ _ _ _ _ _ _ (s₁.setTop (mkF m 5 #[.val (.ref a1), .val (.int (1 : Int32)), .val (.int (6 : Int32))] [(.int (7 : Int32)), (.int (6 : Int32))]))
              refine OutW.back (fun t k => XS.icmpNo X0.here hx rfl (hb hby d1_5) rfl (tlt (by decide : (6 : Int32) < (7 : Int32))).2.1 k) ?_
              show OutW _ _ _ _ _ _ _ (s₁.setTop (mkF m 8 #[.val (.ref a1), .val (.int (1 : Int32)), .val (.int (6 : Int32))] []))
              refine OutW.back (fun t k => XS.aloadN X0.here hx rfl (hb hby d1_8) rfl rfl  k) ?_
              show OutW _ _ _ _ _ _ _ (s₁.setTop (mkF m 9 #[.val (.ref a1), .val (.int (1 : Int32)), .val (.int (6 : Int32))] [(.ref a1)]))
              refine OutW.back (fun t k => XS.iloadN X0.here hx rfl (hb hby d1_9) rfl  k) ?_
              show OutW _ _ _ _ _ _ _ (s₁.setTop (mkF m 10 #[.val (.ref a1), .val (.int (1 : Int32)), .val (.int (6 : Int32))] [(.int (1 : Int32)), (.ref a1)]))
              refine OutW.back (fun t k => XS.iloadN X0.here hx rfl (hb hby d1_10) rfl  k) ?_
              show OutW _ _ _ _ _ _ _ (s₁.setTop (mkF m 11 #[.val (.ref a1), .val (.int (1 : Int32)), .val (.int (6 : Int32))] [(.int (6 : Int32)), (.int (1 : Int32)), (.ref a1)]))
              refine OutW.back (fun t k => XS.iadd X0.here hx rfl (hb hby d1_11) rfl k) ?_
              show OutW _ _ _ _ _ _ _ (s₁.setTop (mkF m 12 #[.val (.ref a1), .val (.int (1 : Int32)), .val (.int (6 : Int32))] [(.int ((1 : Int32) + (6 : Int32))), (.ref a1)]))
              rw [show ((1 : Int32) + (6 : Int32)) = (7 : Int32) from by decide]
              obtain ⟨cl13, Ar13, Qk13, Sz13, Nn13, Hh13, Gg13⟩ := id V_a1
              have hin13 : ¬ ((7 : Int32) < 0 ∨ cl13.slots.size ≤ ((7 : Int32)).toNatClampNeg) := inb_of Sz13 ⟨by decide, by decide⟩
              refine OutW.back (X0.baloadBytes hx (j := (7 : Int32)) (v := (.int w7)) (by rw [e0]; exact Ar13.1) (State.isArrayOf_alike hZ.alike Ar13.2.1) Ar13.2.2 hin13 (Hh13.at hin13 (by rfl)) (g := (mkF m 12 #[.val (.ref a1), .val (.int (1 : Int32)), .val (.int (6 : Int32))] [(.int (7 : Int32)), (.ref a1)])) rfl rfl (hb hby d1_12)) ?_
              show OutW _ _ _ _ _ _ _ (s₁.setTop (mkF m 13 #[.val (.ref a1), .val (.int (1 : Int32)), .val (.int (6 : Int32))] [(.int w7)]))
              by_cases c13_14 : w7 = (0 : Int32)
              · skip
                refine OutW.back (fun t k => XS.ifYes X0.here hx rfl (pc0 := 13) (pc' := 18) rfl (hb hby d1_13) rfl ((if0 _ _).trans (teq c13_14).1) (by decide) (by decide) k) ?_
                show OutW _ _ _ _ _ _ _ (s₁.setTop (mkF m 18 #[.val (.ref a1), .val (.int (1 : Int32)), .val (.int (6 : Int32))] []))
                refine OutW.back (fun t k => XS.iinc X0.here hx rfl (hb hby d1_18) rfl (l' := #[.val (.ref a1), .val (.int (1 : Int32)), .val (.int ((6 : Int32) + (1 : Int32)))]) rfl k) ?_
                show OutW _ _ _ _ _ _ _ (s₁.setTop (mkF m 21 #[.val (.ref a1), .val (.int (1 : Int32)), .val (.int ((6 : Int32) + (1 : Int32)))] []))
                rw [show ((6 : Int32) + (1 : Int32)) = (7 : Int32) from by decide]
                refine OutW.back (fun t k => XS.goto X0.here hx rfl (pc0 := 21) (pc' := 2) rfl (hb hby d1_21) (by decide) (by decide) k) ?_
                show OutW _ _ _ _ _ _ _ (s₁.setTop (mkF m 2 #[.val (.ref a1), .val (.int (1 : Int32)), .val (.int (7 : Int32))] []))
                refine OutW.back (fun t k => XS.iloadN X0.here hx rfl (hb hby d1_2) rfl  k) ?_
                show OutW _ _ _ _ _ _ _ (s₁.setTop (mkF m 3 #[.val (.ref a1), .val (.int (1 : Int32)), .val (.int (7 : Int32))] [(.int (7 : Int32))]))
                refine OutW.back (fun t k => XS.bipush X0.here hx rfl (hb hby d1_3) k) ?_
                show OutW _ _ _ _ _ _ _ (s₁.setTop (mkF m 5 #[.val (.ref a1), .val (.int (1 : Int32)), .val (.int (7 : Int32))] [(.int (7 : Int32)), (.int (7 : Int32))]))
                refine OutW.back (fun t k => XS.icmpYes X0.here hx rfl (pc0 := 5) (pc' := 24) rfl (hb hby d1_5) rfl (flt (by decide : ¬ ((7 : Int32) < (7 : Int32)))).2.1 (by decide) (by decide) k) ?_
                show OutW _ _ _ _ _ _ _ (s₁.setTop (mkF m 24 #[.val (.ref a1), .val (.int (1 : Int32)), .val (.int (7 : Int32))] []))
                refine OutW.back (fun t k => XS.aloadN X0.here hx rfl (hb hby d1_24) rfl rfl  k) ?_
                show OutW _ _ _ _ _ _ _ (s₁.setTop (mkF m 25 #[.val (.ref a1), .val (.int (1 : Int32)), .val (.int (7 : Int32))] [(.ref a1)]))
                refine OutW.back (fun t k => XS.iloadN X0.here hx rfl (hb hby d1_25) rfl  k) ?_
                show OutW _ _ _ _ _ _ _ (s₁.setTop (mkF m 26 #[.val (.ref a1), .val (.int (1 : Int32)), .val (.int (7 : Int32))] [(.int (1 : Int32)), (.ref a1)]))
                refine OutW.back (fun t k => XS.bipush X0.here hx rfl (hb hby d1_26) k) ?_
                show OutW _ _ _ _ _ _ _ (s₁.setTop (mkF m 28 #[.val (.ref a1), .val (.int (1 : Int32)), .val (.int (7 : Int32))] [(.int (8 : Int32)), (.int (1 : Int32)), (.ref a1)]))
                refine OutW.back (fun t k => XS.iadd X0.here hx rfl (hb hby d1_28) rfl k) ?_
                show OutW _ _ _ _ _ _ _ (s₁.setTop (mkF m 29 #[.val (.ref a1), .val (.int (1 : Int32)), .val (.int (7 : Int32))] [(.int ((1 : Int32) + (8 : Int32))), (.ref a1)]))
                rw [show ((1 : Int32) + (8 : Int32)) = (9 : Int32) from by decide]
                refine OutW.back (fun t k => XS.iconst X0.here hx rfl (hb hby d1_29) k) ?_
                show OutW _ _ _ _ _ _ _ (s₁.setTop (mkF m 30 #[.val (.ref a1), .val (.int (1 : Int32)), .val (.int (7 : Int32))] [(.int (1 : Int32)), (.int (9 : Int32)), (.ref a1)]))
                refine OutW.back (fun t k => XS.isub X0.here hx rfl (hb hby d1_30) rfl k) ?_
                show OutW _ _ _ _ _ _ _ (s₁.setTop (mkF m 31 #[.val (.ref a1), .val (.int (1 : Int32)), .val (.int (7 : Int32))] [(.int ((9 : Int32) - (1 : Int32))), (.ref a1)]))
                rw [show ((9 : Int32) - (1 : Int32)) = (8 : Int32) from by decide]
                obtain ⟨cl15, Ar15, Qk15, Sz15, Nn15, Hh15, Gg15⟩ := id V_a1
                have hin15 : ¬ ((8 : Int32) < 0 ∨ cl15.slots.size ≤ ((8 : Int32)).toNatClampNeg) := inb_of Sz15 ⟨by decide, by decide⟩
                refine OutW.back (X0.baloadBytes hx (j := (8 : Int32)) (v := (.int w8)) (by rw [e0]; exact Ar15.1) (State.isArrayOf_alike hZ.alike Ar15.2.1) Ar15.2.2 hin15 (Hh15.at hin15 (by rfl)) (g := (mkF m 31 #[.val (.ref a1), .val (.int (1 : Int32)), .val (.int (7 : Int32))] [(.int (8 : Int32)), (.ref a1)])) rfl rfl (hb hby d1_31)) ?_
                show OutW _ _ _ _ _ _ _ (s₁.setTop (mkF m 32 #[.val (.ref a1), .val (.int (1 : Int32)), .val (.int (7 : Int32))] [(.int w8)]))
                refine OutW.back (fun t k => XS.bipush X0.here hx rfl (hb hby d1_32) k) ?_
                show OutW _ _ _ _ _ _ _ (s₁.setTop (mkF m 34 #[.val (.ref a1), .val (.int (1 : Int32)), .val (.int (7 : Int32))] [(.int (-128 : Int32)), (.int w8)]))
                by_cases c34_16 : w8 = (-128 : Int32)
                · skip
                  refine OutW.back (fun t k => XS.icmpNo X0.here hx rfl (hb hby d1_34) rfl (teq c34_16).2 k) ?_
                  show OutW _ _ _ _ _ _ _ (s₁.setTop (mkF m 37 #[.val (.ref a1), .val (.int (1 : Int32)), .val (.int (7 : Int32))] []))
                  refine OutW.back (fun t k => XS.iconst X0.here hx rfl (hb hby d1_37) k) ?_
                  show OutW _ _ _ _ _ _ _ (s₁.setTop (mkF m 38 #[.val (.ref a1), .val (.int (1 : Int32)), .val (.int (7 : Int32))] [(.int (1 : Int32))]))
                  refine OutW.back (fun t k => XS.goto X0.here hx rfl (pc0 := 38) (pc' := 42) rfl (hb hby d1_38) (by decide) (by decide) k) ?_
                  show OutW _ _ _ _ _ _ _ (s₁.setTop (mkF m 42 #[.val (.ref a1), .val (.int (1 : Int32)), .val (.int (7 : Int32))] [(.int (1 : Int32))]))
                  refine OutW.retN X0 hx (t := .boolean) (z' := (1 : Int32)) Bd.returns (by simp) hlk (hb hby d1_42) ?hz (by decide) (by decide) ?_
                  case hz =>
                    rfl
                  show Q1_1 Z a1 w0 w1 w2 w3 w4 w5 w6 w7 w8 w9 w10 w11 w12 w13 w14 w15 kk h0 n0 _ s₁.heap _
                  rw [e0]
                  exact ⟨by rw [negz1, if_pos c13_2, if_pos c13_4, if_pos c13_6, if_pos c13_8, if_pos c13_10, if_pos c13_12, if_pos c13_14, if_pos c34_16], N0, rfl⟩
                · skip
                  refine OutW.back (fun t k => XS.icmpYes X0.here hx rfl (pc0 := 34) (pc' := 41) rfl (hb hby d1_34) rfl (feq c34_16).2 (by decide) (by decide) k) ?_
                  show OutW _ _ _ _ _ _ _ (s₁.setTop (mkF m 41 #[.val (.ref a1), .val (.int (1 : Int32)), .val (.int (7 : Int32))] []))
                  refine OutW.back (fun t k => XS.iconst X0.here hx rfl (hb hby d1_41) k) ?_
                  show OutW _ _ _ _ _ _ _ (s₁.setTop (mkF m 42 #[.val (.ref a1), .val (.int (1 : Int32)), .val (.int (7 : Int32))] [(.int (0 : Int32))]))
                  refine OutW.retN X0 hx (t := .boolean) (z' := (0 : Int32)) Bd.returns (by simp) hlk (hb hby d1_42) ?hz (by decide) (by decide) ?_
                  case hz =>
                    rfl
                  show Q1_1 Z a1 w0 w1 w2 w3 w4 w5 w6 w7 w8 w9 w10 w11 w12 w13 w14 w15 kk h0 n0 _ s₁.heap _
                  rw [e0]
                  exact ⟨by rw [negz1, if_pos c13_2, if_pos c13_4, if_pos c13_6, if_pos c13_8, if_pos c13_10, if_pos c13_12, if_pos c13_14, if_neg c34_16], N0, rfl⟩
              · skip
                refine OutW.back (fun t k => XS.ifNo X0.here hx rfl (hb hby d1_13) rfl ((if0 _ _).trans (feq c13_14).1) k) ?_
                show OutW _ _ _ _ _ _ _ (s₁.setTop (mkF m 16 #[.val (.ref a1), .val (.int (1 : Int32)), .val (.int (6 : Int32))] []))
                refine OutW.back (fun t k => XS.iconst X0.here hx rfl (hb hby d1_16) k) ?_
                show OutW _ _ _ _ _ _ _ (s₁.setTop (mkF m 17 #[.val (.ref a1), .val (.int (1 : Int32)), .val (.int (6 : Int32))] [(.int (0 : Int32))]))
                refine OutW.retN X0 hx (t := .boolean) (z' := (0 : Int32)) Bd.returns (by simp) hlk (hb hby d1_17) ?hz (by decide) (by decide) ?_
                case hz =>
                  rfl
                show Q1_1 Z a1 w0 w1 w2 w3 w4 w5 w6 w7 w8 w9 w10 w11 w12 w13 w14 w15 kk h0 n0 _ s₁.heap _
                rw [e0]
                exact ⟨by rw [negz1, if_pos c13_2, if_pos c13_4, if_pos c13_6, if_pos c13_8, if_pos c13_10, if_pos c13_12, if_neg c13_14], N0, rfl⟩
            · skip
              refine OutW.back (fun t k => XS.ifNo X0.here hx rfl (hb hby d1_13) rfl ((if0 _ _).trans (feq c13_12).1) k) ?_
              show OutW _ _ _ _ _ _ _ (s₁.setTop (mkF m 16 #[.val (.ref a1), .val (.int (1 : Int32)), .val (.int (5 : Int32))] []))
              refine OutW.back (fun t k => XS.iconst X0.here hx rfl (hb hby d1_16) k) ?_
              show OutW _ _ _ _ _ _ _ (s₁.setTop (mkF m 17 #[.val (.ref a1), .val (.int (1 : Int32)), .val (.int (5 : Int32))] [(.int (0 : Int32))]))
              refine OutW.retN X0 hx (t := .boolean) (z' := (0 : Int32)) Bd.returns (by simp) hlk (hb hby d1_17) ?hz (by decide) (by decide) ?_
              case hz =>
                rfl
              show Q1_1 Z a1 w0 w1 w2 w3 w4 w5 w6 w7 w8 w9 w10 w11 w12 w13 w14 w15 kk h0 n0 _ s₁.heap _
              rw [e0]
              exact ⟨by rw [negz1, if_pos c13_2, if_pos c13_4, if_pos c13_6, if_pos c13_8, if_pos c13_10, if_neg c13_12], N0, rfl⟩
          · skip
            refine OutW.back (fun t k => XS.ifNo X0.here hx rfl (hb hby d1_13) rfl ((if0 _ _).trans (feq c13_10).1) k) ?_
            show OutW _ _ _ _ _ _ _ (s₁.setTop (mkF m 16 #[.val (.ref a1), .val (.int (1 : Int32)), .val (.int (4 : Int32))] []))
            refine OutW.back (fun t k => XS.iconst X0.here hx rfl (hb hby d1_16) k) ?_
            show OutW _ _ _ _ _ _ _ (s₁.setTop (mkF m 17 #[.val (.ref a1), .val (.int (1 : Int32)), .val (.int (4 : Int32))] [(.int (0 : Int32))]))
            refine OutW.retN X0 hx (t := .boolean) (z' := (0 : Int32)) Bd.returns (by simp) hlk (hb hby d1_17) ?hz (by decide) (by decide) ?_
            case hz =>
              rfl
            show Q1_1 Z a1 w0 w1 w2 w3 w4 w5 w6 w7 w8 w9 w10 w11 w12 w13 w14 w15 kk h0 n0 _ s₁.heap _
            rw [e0]
            exact ⟨by rw [negz1, if_pos c13_2, if_pos c13_4, if_pos c13_6, if_pos c13_8, if_neg c13_10], N0, rfl⟩
        · skip
          refine OutW.back (fun t k => XS.ifNo X0.here hx rfl (hb hby d1_13) rfl ((if0 _ _).trans (feq c13_8).1) k) ?_
          show OutW _ _ _ _ _ _ _ (s₁.setTop (mkF m 16 #[.val (.ref a1), .val (.int (1 : Int32)), .val (.int (3 : Int32))] []))
          refine OutW.back (fun t k => XS.iconst X0.here hx rfl (hb hby d1_16) k) ?_
          show OutW _ _ _ _ _ _ _ (s₁.setTop (mkF m 17 #[.val (.ref a1), .val (.int (1 : Int32)), .val (.int (3 : Int32))] [(.int (0 : Int32))]))
          refine OutW.retN X0 hx (t := .boolean) (z' := (0 : Int32)) Bd.returns (by simp) hlk (hb hby d1_17) ?hz (by decide) (by decide) ?_
          case hz =>
            rfl
          show Q1_1 Z a1 w0 w1 w2 w3 w4 w5 w6 w7 w8 w9 w10 w11 w12 w13 w14 w15 kk h0 n0 _ s₁.heap _
          rw [e0]
          exact ⟨by rw [negz1, if_pos c13_2, if_pos c13_4, if_pos c13_6, if_neg c13_8], N0, rfl⟩
      · skip
        refine OutW.back (fun t k => XS.ifNo X0.here hx rfl (hb hby d1_13) rfl ((if0 _ _).trans (feq c13_6).1) k) ?_
        show OutW _ _ _ _ _ _ _ (s₁.setTop (mkF m 16 #[.val (.ref a1), .val (.int (1 : Int32)), .val (.int (2 : Int32))] []))
        refine OutW.back (fun t k => XS.iconst X0.here hx rfl (hb hby d1_16) k) ?_
        show OutW _ _ _ _ _ _ _ (s₁.setTop (mkF m 17 #[.val (.ref a1), .val (.int (1 : Int32)), .val (.int (2 : Int32))] [(.int (0 : Int32))]))
        refine OutW.retN X0 hx (t := .boolean) (z' := (0 : Int32)) Bd.returns (by simp) hlk (hb hby d1_17) ?hz (by decide) (by decide) ?_
        case hz =>
          rfl
        show Q1_1 Z a1 w0 w1 w2 w3 w4 w5 w6 w7 w8 w9 w10 w11 w12 w13 w14 w15 kk h0 n0 _ s₁.heap _
        rw [e0]
        exact ⟨by rw [negz1, if_pos c13_2, if_pos c13_4, if_neg c13_6], N0, rfl⟩
    · skip
      refine OutW.back (fun t k => XS.ifNo X0.here hx rfl (hb hby d1_13) rfl ((if0 _ _).trans (feq c13_4).1) k) ?_
      show OutW _ _ _ _ _ _ _ (s₁.setTop (mkF m 16 #[.val (.ref a1), .val (.int (1 : Int32)), .val (.int (1 : Int32))] []))
      refine OutW.back (fun t k => XS.iconst X0.here hx rfl (hb hby d1_16) k) ?_
      show OutW _ _ _ _ _ _ _ (s₁.setTop (mkF m 17 #[.val (.ref a1), .val (.int (1 : Int32)), .val (.int (1 : Int32))] [(.int (0 : Int32))]))
      refine OutW.retN X0 hx (t := .boolean) (z' := (0 : Int32)) Bd.returns (by simp) hlk (hb hby d1_17) ?hz (by decide) (by decide) ?_
      case hz =>
        rfl
      show Q1_1 Z a1 w0 w1 w2 w3 w4 w5 w6 w7 w8 w9 w10 w11 w12 w13 w14 w15 kk h0 n0 _ s₁.heap _
      rw [e0]
      exact ⟨by rw [negz1, if_pos c13_2, if_neg c13_4], N0, rfl⟩
  · skip
    refine OutW.back (fun t k => XS.ifNo X0.here hx rfl (hb hby d1_13) rfl ((if0 _ _).trans (feq c13_2).1) k) ?_
    show OutW _ _ _ _ _ _ _ (s₁.setTop (mkF m 16 #[.val (.ref a1), .val (.int (1 : Int32)), .val (.int (0 : Int32))] []))
    refine OutW.back (fun t k => XS.iconst X0.here hx rfl (hb hby d1_16) k) ?_
    show OutW _ _ _ _ _ _ _ (s₁.setTop (mkF m 17 #[.val (.ref a1), .val (.int (1 : Int32)), .val (.int (0 : Int32))] [(.int (0 : Int32))]))
    refine OutW.retN X0 hx (t := .boolean) (z' := (0 : Int32)) Bd.returns (by simp) hlk (hb hby d1_17) ?hz (by decide) (by decide) ?_
    case hz =>
      rfl
    show Q1_1 Z a1 w0 w1 w2 w3 w4 w5 w6 w7 w8 w9 w10 w11 w12 w13 w14 w15 kk h0 n0 _ s₁.heap _
    rw [e0]
    exact ⟨by rw [negz1, if_neg c13_2], N0, rfl⟩
def negz2 (w2 : Int32) (w3 : Int32) (w4 : Int32) (w5 : Int32) (w6 : Int32) (w7 : Int32) (w8 : Int32) (w9 : Int32) : Int32 := (if w2 = (0 : Int32) then (if w3 = (0 : Int32) then (if w4 = (0 : Int32) then (if w5 = (0 : Int32) then (if w6 = (0 : Int32) then (if w7 = (0 : Int32) then (if w8 = (0 : Int32) then (if w9 = (-128 : Int32) then (1 : Int32) else (0 : Int32)) else (0 : Int32)) else (0 : Int32)) else (0 : Int32)) else (0 : Int32)) else (0 : Int32)) else (0 : Int32)) else (0 : Int32))
theorem ef_1_2 (m : MethodId) (x0 : Addr) : entryFrame m #[(.ref x0), (.int (2 : Int32))] 3 = mkF m 0 #[.val (.ref x0), .val (.int (2 : Int32)), .unset] [] := by first | (simp [entryFrame, mkF, argsToLocals, Value.category]; done) | rfl
def Q1_2 (Z : State) (a1 : Addr) (w0 : Int32) (w1 : Int32) (w2 : Int32) (w3 : Int32) (w4 : Int32) (w5 : Int32) (w6 : Int32) (w7 : Int32) (w8 : Int32) (w9 : Int32) (w10 : Int32) (w11 : Int32) (w12 : Int32) (w13 : Int32) (w14 : Int32) (w15 : Int32) (kk : ClassId) (h0 : Heap) (n0 : Nat) (v : Option Value) (h : Heap) (L : List Loc) : Prop := v = some (.int (negz2 w2 w3 w4 w5 w6 w7 w8 w9)) ∧ Fr n0 L ∧ h = h0
set_option maxRecDepth 65536 in
set_option maxHeartbeats 40000000 in
theorem rm1_2 (l : Launch) (Z : State) (a0 : Array Value) (hw : ∀ d ∈ tables_1, d.before a0 Z = true) (ws : List Jvm.Cond) (a1 : Addr) (w0 : Int32) (w1 : Int32) (w2 : Int32) (w3 : Int32) (w4 : Int32) (w5 : Int32) (w6 : Int32) (w7 : Int32) (w8 : Int32) (w9 : Int32) (w10 : Int32) (w11 : Int32) (w12 : Int32) (w13 : Int32) (w14 : Int32) (w15 : Int32) (kk : ClassId) (h0 : Heap) (n0 : Nat) (Z0 : n0 ≤ h0.size) (V_a1 : Arv Z h0 a1 kk .byte (16 : Int32) [(.int w0), (.int w1), (.int w2), (.int w3), (.int w4), (.int w5), (.int w6), (.int w7), (.int w8), (.int w9), (.int w10), (.int w11), (.int w12), (.int w13), (.int w14), (.int w15)] (.int (0 : Int32))) :
    MetFree l (⟨"com/example/patchloom/patchloom/delta/SignMagnitude", "isNegativeZero", "([BI)Z"⟩ : MethodName) (head1 (Jvm.Cond.code (⟨"com/example/patchloom/patchloom/delta/SignMagnitude", "isNegativeZero", "([BI)Z"⟩ : MethodName) prog_26_method_3_code 3 (some .boolean) :: ws) ({ frames := 0, cells := 0, slots := 0, locals := 0 } : Room)) (fun a U => a = #[(.ref a1), (.int (2 : Int32))] ∧ Z.Warmed39 U.vm ∧ U.heap = h0) (fun _ _ _ _ _ => True) (fun _ U o U' => ∃ v L, o = .returned v ∧ Q1_2 Z a1 w0 w1 w2 w3 w4 w5 w6 w7 w8 w9 w10 w11 w12 w13 w14 w15 kk h0 n0 v U'.heap L ∧ FrameEnd U o U' L ({ frames := 0, cells := 0, slots := 0, locals := 0 } : Room).cells ({ frames := 0, cells := 0, slots := 0, locals := 0 } : Room).slots) := by
  refine MetFree.of_bodySF (plainFor_of_name pn_1) hisR ?_
  intro p e s m args below meth c s₁ Bd hml0 hP hK
  obtain ⟨rfl, hZ, hh⟩ := hP
  have hx := Bd.exec
  have hby := Bd.bytes
  have hlk := Bd.notSynchronized
  have hml : c.maxLocals = 3 := hml0
  have hown : s.vm.findClass "com/example/patchloom/patchloom/delta/SignMagnitude" = some m.cls := findClass_of_methodNamed Bd.named
  have hnm := (name_of_methodNamed Bd.named Bd.method).1
  have X0 : Stand p l e ({ frames := 0, cells := 0, slots := 0, locals := 0 } : Room) s m #[(.ref a1), (.int (2 : Int32))] below meth c s₁ [] 0 0 := Stand.of_body Bd
  have e0 : s₁.heap = h0 := by rw [← hh, Bd.state]; rfl
  have N0 := Fr.nil n0
  have K0 : Keep h0 h0 [] := Keep.refl h0 _
  show OutW p e below s ({ frames := 0, cells := 0, slots := 0, locals := 0 } : Room).cells ({ frames := 0, cells := 0, slots := 0, locals := 0 } : Room).slots (Q1_2 Z a1 w0 w1 w2 w3 w4 w5 w6 w7 w8 w9 w10 w11 w12 w13 w14 w15 kk h0 n0) _
  refine OutW.back (fun t k => castTop (ef_1_2 m a1) k) ?_
  show OutW _ _ _ _ _ _ _ (s₁.setTop (mkF m 0 #[.val (.ref a1), .val (.int (2 : Int32)), .unset] []))
  refine OutW.back (fun t k => XS.iconst X0.here hx rfl (hb hby d1_0) k) ?_
  show OutW _ _ _ _ _ _ _ (s₁.setTop (mkF m 1 #[.val (.ref a1), .val (.int (2 : Int32)), .unset] [(.int (0 : Int32))]))
  refine OutW.back (fun t k => XS.istoreN X0.here hx rfl (hb hby d1_1) rfl (l' := #[.val (.ref a1), .val (.int (2 : Int32)), .val (.int (0 : Int32))]) rfl k) ?_
  show OutW _ _ _ _ _ _ _ (s₁.setTop (mkF m 2 #[.val (.ref a1), .val (.int (2 : Int32)), .val (.int (0 : Int32))] []))
  refine OutW.back (fun t k => XS.iloadN X0.here hx rfl (hb hby d1_2) rfl  k) ?_
  show OutW _ _ _ _ _ _ _ (s₁.setTop (mkF m 3 #[.val (.ref a1), .val (.int (2 : Int32)), .val (.int (0 : Int32))] [(.int (0 : Int32))]))
  refine OutW.back (fun t k => XS.bipush X0.here hx rfl (hb hby d1_3) k) ?_
  show OutW _ _ _ _ _ _ _ (s₁.setTop (mkF m 5 #[.val (.ref a1), .val (.int (2 : Int32)), .val (.int (0 : Int32))] [(.int (7 : Int32)), (.int (0 : Int32))]))
  refine OutW.back (fun t k => XS.icmpNo X0.here hx rfl (hb hby d1_5) rfl (tlt (by decide : (0 : Int32) < (7 : Int32))).2.1 k) ?_
  show OutW _ _ _ _ _ _ _ (s₁.setTop (mkF m 8 #[.val (.ref a1), .val (.int (2 : Int32)), .val (.int (0 : Int32))] []))
  refine OutW.back (fun t k => XS.aloadN X0.here hx rfl (hb hby d1_8) rfl rfl  k) ?_
  show OutW _ _ _ _ _ _ _ (s₁.setTop (mkF m 9 #[.val (.ref a1), .val (.int (2 : Int32)), .val (.int (0 : Int32))] [(.ref a1)]))
  refine OutW.back (fun t k => XS.iloadN X0.here hx rfl (hb hby d1_9) rfl  k) ?_
  show OutW _ _ _ _ _ _ _ (s₁.setTop (mkF m 10 #[.val (.ref a1), .val (.int (2 : Int32)), .val (.int (0 : Int32))] [(.int (2 : Int32)), (.ref a1)]))
  refine OutW.back (fun t k => XS.iloadN X0.here hx rfl (hb hby d1_10) rfl  k) ?_
  show OutW _ _ _ _ _ _ _ (s₁.setTop (mkF m 11 #[.val (.ref a1), .val (.int (2 : Int32)), .val (.int (0 : Int32))] [(.int (0 : Int32)), (.int (2 : Int32)), (.ref a1)]))
  refine OutW.back (fun t k => XS.iadd X0.here hx rfl (hb hby d1_11) rfl k) ?_
  show OutW _ _ _ _ _ _ _ (s₁.setTop (mkF m 12 #[.val (.ref a1), .val (.int (2 : Int32)), .val (.int (0 : Int32))] [(.int ((2 : Int32) + (0 : Int32))), (.ref a1)]))
  rw [show ((2 : Int32) + (0 : Int32)) = (2 : Int32) from by decide]
  obtain ⟨cl1, Ar1, Qk1, Sz1, Nn1, Hh1, Gg1⟩ := id V_a1
  have hin1 : ¬ ((2 : Int32) < 0 ∨ cl1.slots.size ≤ ((2 : Int32)).toNatClampNeg) := inb_of Sz1 ⟨by decide, by decide⟩
  refine OutW.back (X0.baloadBytes hx (j := (2 : Int32)) (v := (.int w2)) (by rw [e0]; exact Ar1.1) (State.isArrayOf_alike hZ.alike Ar1.2.1) Ar1.2.2 hin1 (Hh1.at hin1 (by rfl)) (g := (mkF m 12 #[.val (.ref a1), .val (.int (2 : Int32)), .val (.int (0 : Int32))] [(.int (2 : Int32)), (.ref a1)])) rfl rfl (hb hby d1_12)) ?_
  show OutW _ _ _ _ _ _ _ (s₁.setTop (mkF m 13 #[.val (.ref a1), .val (.int (2 : Int32)), .val (.int (0 : Int32))] [(.int w2)]))
  by_cases c13_2 : w2 = (0 : Int32)
  · skip
    refine OutW.back (fun t k => XS.ifYes X0.here hx rfl (pc0 := 13) (pc' := 18) rfl (hb hby d1_13) rfl ((if0 _ _).trans (teq c13_2).1) (by decide) (by decide) k) ?_
    show OutW _ _ _ _ _ _ _ (s₁.setTop (mkF m 18 #[.val (.ref a1), .val (.int (2 : Int32)), .val (.int (0 : Int32))] []))
    refine OutW.back (fun t k => XS.iinc X0.here hx rfl (hb hby d1_18) rfl (l' := #[.val (.ref a1), .val (.int (2 : Int32)), .val (.int ((0 : Int32) + (1 : Int32)))]) rfl k) ?_
    show OutW _ _ _ _ _ _ _ (s₁.setTop (mkF m 21 #[.val (.ref a1), .val (.int (2 : Int32)), .val (.int ((0 : Int32) + (1 : Int32)))] []))
    rw [show ((0 : Int32) + (1 : Int32)) = (1 : Int32) from by decide]
    refine OutW.back (fun t k => XS.goto X0.here hx rfl (pc0 := 21) (pc' := 2) rfl (hb hby d1_21) (by decide) (by decide) k) ?_
    show OutW _ _ _ _ _ _ _ (s₁.setTop (mkF m 2 #[.val (.ref a1), .val (.int (2 : Int32)), .val (.int (1 : Int32))] []))
    refine OutW.back (fun t k => XS.iloadN X0.here hx rfl (hb hby d1_2) rfl  k) ?_
    show OutW _ _ _ _ _ _ _ (s₁.setTop (mkF m 3 #[.val (.ref a1), .val (.int (2 : Int32)), .val (.int (1 : Int32))] [(.int (1 : Int32))]))
    refine OutW.back (fun t k => XS.bipush X0.here hx rfl (hb hby d1_3) k) ?_
    show OutW _ _ _ _ _ _ _ (s₁.setTop (mkF m 5 #[.val (.ref a1), .val (.int (2 : Int32)), .val (.int (1 : Int32))] [(.int (7 : Int32)), (.int (1 : Int32))]))
    refine OutW.back (fun t k => XS.icmpNo X0.here hx rfl (hb hby d1_5) rfl (tlt (by decide : (1 : Int32) < (7 : Int32))).2.1 k) ?_
    show OutW _ _ _ _ _ _ _ (s₁.setTop (mkF m 8 #[.val (.ref a1), .val (.int (2 : Int32)), .val (.int (1 : Int32))] []))
    refine OutW.back (fun t k => XS.aloadN X0.here hx rfl (hb hby d1_8) rfl rfl  k) ?_
    show OutW _ _ _ _ _ _ _ (s₁.setTop (mkF m 9 #[.val (.ref a1), .val (.int (2 : Int32)), .val (.int (1 : Int32))] [(.ref a1)]))
    refine OutW.back (fun t k => XS.iloadN X0.here hx rfl (hb hby d1_9) rfl  k) ?_
    show OutW _ _ _ _ _ _ _ (s₁.setTop (mkF m 10 #[.val (.ref a1), .val (.int (2 : Int32)), .val (.int (1 : Int32))] [(.int (2 : Int32)), (.ref a1)]))
    refine OutW.back (fun t k => XS.iloadN X0.here hx rfl (hb hby d1_10) rfl  k) ?_
    show OutW _ _ _ _ _ _ _ (s₁.setTop (mkF m 11 #[.val (.ref a1), .val (.int (2 : Int32)), .val (.int (1 : Int32))] [(.int (1 : Int32)), (.int (2 : Int32)), (.ref a1)]))
    refine OutW.back (fun t k => XS.iadd X0.here hx rfl (hb hby d1_11) rfl k) ?_
    show OutW _ _ _ _ _ _ _ (s₁.setTop (mkF m 12 #[.val (.ref a1), .val (.int (2 : Int32)), .val (.int (1 : Int32))] [(.int ((2 : Int32) + (1 : Int32))), (.ref a1)]))
    rw [show ((2 : Int32) + (1 : Int32)) = (3 : Int32) from by decide]
    obtain ⟨cl3, Ar3, Qk3, Sz3, Nn3, Hh3, Gg3⟩ := id V_a1
    have hin3 : ¬ ((3 : Int32) < 0 ∨ cl3.slots.size ≤ ((3 : Int32)).toNatClampNeg) := inb_of Sz3 ⟨by decide, by decide⟩
    refine OutW.back (X0.baloadBytes hx (j := (3 : Int32)) (v := (.int w3)) (by rw [e0]; exact Ar3.1) (State.isArrayOf_alike hZ.alike Ar3.2.1) Ar3.2.2 hin3 (Hh3.at hin3 (by rfl)) (g := (mkF m 12 #[.val (.ref a1), .val (.int (2 : Int32)), .val (.int (1 : Int32))] [(.int (3 : Int32)), (.ref a1)])) rfl rfl (hb hby d1_12)) ?_
    show OutW _ _ _ _ _ _ _ (s₁.setTop (mkF m 13 #[.val (.ref a1), .val (.int (2 : Int32)), .val (.int (1 : Int32))] [(.int w3)]))
    by_cases c13_4 : w3 = (0 : Int32)
    · skip
      refine OutW.back (fun t k => XS.ifYes X0.here hx rfl (pc0 := 13) (pc' := 18) rfl (hb hby d1_13) rfl ((if0 _ _).trans (teq c13_4).1) (by decide) (by decide) k) ?_
      show OutW _ _ _ _ _ _ _ (s₁.setTop (mkF m 18 #[.val (.ref a1), .val (.int (2 : Int32)), .val (.int (1 : Int32))] []))
      refine OutW.back (fun t k => XS.iinc X0.here hx rfl (hb hby d1_18) rfl (l' := #[.val (.ref a1), .val (.int (2 : Int32)), .val (.int ((1 : Int32) + (1 : Int32)))]) rfl k) ?_
      show OutW _ _ _ _ _ _ _ (s₁.setTop (mkF m 21 #[.val (.ref a1), .val (.int (2 : Int32)), .val (.int ((1 : Int32) + (1 : Int32)))] []))
      rw [show ((1 : Int32) + (1 : Int32)) = (2 : Int32) from by decide]
      refine OutW.back (fun t k => XS.goto X0.here hx rfl (pc0 := 21) (pc' := 2) rfl (hb hby d1_21) (by decide) (by decide) k) ?_
      show OutW _ _ _ _ _ _ _ (s₁.setTop (mkF m 2 #[.val (.ref a1), .val (.int (2 : Int32)), .val (.int (2 : Int32))] []))
      refine OutW.back (fun t k => XS.iloadN X0.here hx rfl (hb hby d1_2) rfl  k) ?_
      show OutW _ _ _ _ _ _ _ (s₁.setTop (mkF m 3 #[.val (.ref a1), .val (.int (2 : Int32)), .val (.int (2 : Int32))] [(.int (2 : Int32))]))
      refine OutW.back (fun t k => XS.bipush X0.here hx rfl (hb hby d1_3) k) ?_
      show OutW _ _ _ _ _ _ _ (s₁.setTop (mkF m 5 #[.val (.ref a1), .val (.int (2 : Int32)), .val (.int (2 : Int32))] [(.int (7 : Int32)), (.int (2 : Int32))]))
      refine OutW.back (fun t k => XS.icmpNo X0.here hx rfl (hb hby d1_5) rfl (tlt (by decide : (2 : Int32) < (7 : Int32))).2.1 k) ?_
      show OutW _ _ _ _ _ _ _ (s₁.setTop (mkF m 8 #[.val (.ref a1), .val (.int (2 : Int32)), .val (.int (2 : Int32))] []))
      refine OutW.back (fun t k => XS.aloadN X0.here hx rfl (hb hby d1_8) rfl rfl  k) ?_
      show OutW _ _ _ _ _ _ _ (s₁.setTop (mkF m 9 #[.val (.ref a1), .val (.int (2 : Int32)), .val (.int (2 : Int32))] [(.ref a1)]))
      refine OutW.back (fun t k => XS.iloadN X0.here hx rfl (hb hby d1_9) rfl  k) ?_
      show OutW _ _ _ _ _ _ _ (s₁.setTop (mkF m 10 #[.val (.ref a1), .val (.int (2 : Int32)), .val (.int (2 : Int32))] [(.int (2 : Int32)), (.ref a1)]))
      refine OutW.back (fun t k => XS.iloadN X0.here hx rfl (hb hby d1_10) rfl  k) ?_
      show OutW _ _ _ _ _ _ _ (s₁.setTop (mkF m 11 #[.val (.ref a1), .val (.int (2 : Int32)), .val (.int (2 : Int32))] [(.int (2 : Int32)), (.int (2 : Int32)), (.ref a1)]))
      refine OutW.back (fun t k => XS.iadd X0.here hx rfl (hb hby d1_11) rfl k) ?_
      show OutW _ _ _ _ _ _ _ (s₁.setTop (mkF m 12 #[.val (.ref a1), .val (.int (2 : Int32)), .val (.int (2 : Int32))] [(.int ((2 : Int32) + (2 : Int32))), (.ref a1)]))
      rw [show ((2 : Int32) + (2 : Int32)) = (4 : Int32) from by decide]
      obtain ⟨cl5, Ar5, Qk5, Sz5, Nn5, Hh5, Gg5⟩ := id V_a1
      have hin5 : ¬ ((4 : Int32) < 0 ∨ cl5.slots.size ≤ ((4 : Int32)).toNatClampNeg) := inb_of Sz5 ⟨by decide, by decide⟩
      refine OutW.back (X0.baloadBytes hx (j := (4 : Int32)) (v := (.int w4)) (by rw [e0]; exact Ar5.1) (State.isArrayOf_alike hZ.alike Ar5.2.1) Ar5.2.2 hin5 (Hh5.at hin5 (by rfl)) (g := (mkF m 12 #[.val (.ref a1), .val (.int (2 : Int32)), .val (.int (2 : Int32))] [(.int (4 : Int32)), (.ref a1)])) rfl rfl (hb hby d1_12)) ?_
      show OutW _ _ _ _ _ _ _ (s₁.setTop (mkF m 13 #[.val (.ref a1), .val (.int (2 : Int32)), .val (.int (2 : Int32))] [(.int w4)]))
      by_cases c13_6 : w4 = (0 : Int32)
      · skip
        refine OutW.back (fun t k => XS.ifYes X0.here hx rfl (pc0 := 13) (pc' := 18) rfl (hb hby d1_13) rfl ((if0 _ _).trans (teq c13_6).1) (by decide) (by decide) k) ?_
        show OutW _ _ _ _ _ _ _ (s₁.setTop (mkF m 18 #[.val (.ref a1), .val (.int (2 : Int32)), .val (.int (2 : Int32))] []))
        refine OutW.back (fun t k => XS.iinc X0.here hx rfl (hb hby d1_18) rfl (l' := #[.val (.ref a1), .val (.int (2 : Int32)), .val (.int ((2 : Int32) + (1 : Int32)))]) rfl k) ?_
        show OutW _ _ _ _ _ _ _ (s₁.setTop (mkF m 21 #[.val (.ref a1), .val (.int (2 : Int32)), .val (.int ((2 : Int32) + (1 : Int32)))] []))
        rw [show ((2 : Int32) + (1 : Int32)) = (3 : Int32) from by decide]
        refine OutW.back (fun t k => XS.goto X0.here hx rfl (pc0 := 21) (pc' := 2) rfl (hb hby d1_21) (by decide) (by decide) k) ?_
        show OutW _ _ _ _ _ _ _ (s₁.setTop (mkF m 2 #[.val (.ref a1), .val (.int (2 : Int32)), .val (.int (3 : Int32))] []))
        refine OutW.back (fun t k => XS.iloadN X0.here hx rfl (hb hby d1_2) rfl  k) ?_
        show OutW _ _ _ _ _ _ _ (s₁.setTop (mkF m 3 #[.val (.ref a1), .val (.int (2 : Int32)), .val (.int (3 : Int32))] [(.int (3 : Int32))]))
        refine OutW.back (fun t k => XS.bipush X0.here hx rfl (hb hby d1_3) k) ?_
        show OutW _ _ _ _ _ _ _ (s₁.setTop (mkF m 5 #[.val (.ref a1), .val (.int (2 : Int32)), .val (.int (3 : Int32))] [(.int (7 : Int32)), (.int (3 : Int32))]))
        refine OutW.back (fun t k => XS.icmpNo X0.here hx rfl (hb hby d1_5) rfl (tlt (by decide : (3 : Int32) < (7 : Int32))).2.1 k) ?_
        show OutW _ _ _ _ _ _ _ (s₁.setTop (mkF m 8 #[.val (.ref a1), .val (.int (2 : Int32)), .val (.int (3 : Int32))] []))
        refine OutW.back (fun t k => XS.aloadN X0.here hx rfl (hb hby d1_8) rfl rfl  k) ?_
        show OutW _ _ _ _ _ _ _ (s₁.setTop (mkF m 9 #[.val (.ref a1), .val (.int (2 : Int32)), .val (.int (3 : Int32))] [(.ref a1)]))
        refine OutW.back (fun t k => XS.iloadN X0.here hx rfl (hb hby d1_9) rfl  k) ?_
        show OutW _ _ _ _ _ _ _ (s₁.setTop (mkF m 10 #[.val (.ref a1), .val (.int (2 : Int32)), .val (.int (3 : Int32))] [(.int (2 : Int32)), (.ref a1)]))
        refine OutW.back (fun t k => XS.iloadN X0.here hx rfl (hb hby d1_10) rfl  k) ?_
        show OutW _ _ _ _ _ _ _ (s₁.setTop (mkF m 11 #[.val (.ref a1), .val (.int (2 : Int32)), .val (.int (3 : Int32))] [(.int (3 : Int32)), (.int (2 : Int32)), (.ref a1)]))
        refine OutW.back (fun t k => XS.iadd X0.here hx rfl (hb hby d1_11) rfl k) ?_
        show OutW _ _ _ _ _ _ _ (s₁.setTop (mkF m 12 #[.val (.ref a1), .val (.int (2 : Int32)), .val (.int (3 : Int32))] [(.int ((2 : Int32) + (3 : Int32))), (.ref a1)]))
        rw [show ((2 : Int32) + (3 : Int32)) = (5 : Int32) from by decide]
        obtain ⟨cl7, Ar7, Qk7, Sz7, Nn7, Hh7, Gg7⟩ := id V_a1
        have hin7 : ¬ ((5 : Int32) < 0 ∨ cl7.slots.size ≤ ((5 : Int32)).toNatClampNeg) := inb_of Sz7 ⟨by decide, by decide⟩
        refine OutW.back (X0.baloadBytes hx (j := (5 : Int32)) (v := (.int w5)) (by rw [e0]; exact Ar7.1) (State.isArrayOf_alike hZ.alike Ar7.2.1) Ar7.2.2 hin7 (Hh7.at hin7 (by rfl)) (g := (mkF m 12 #[.val (.ref a1), .val (.int (2 : Int32)), .val (.int (3 : Int32))] [(.int (5 : Int32)), (.ref a1)])) rfl rfl (hb hby d1_12)) ?_
        show OutW _ _ _ _ _ _ _ (s₁.setTop (mkF m 13 #[.val (.ref a1), .val (.int (2 : Int32)), .val (.int (3 : Int32))] [(.int w5)]))
        by_cases c13_8 : w5 = (0 : Int32)
        · skip
          refine OutW.back (fun t k => XS.ifYes X0.here hx rfl (pc0 := 13) (pc' := 18) rfl (hb hby d1_13) rfl ((if0 _ _).trans (teq c13_8).1) (by decide) (by decide) k) ?_
          show OutW _ _ _ _ _ _ _ (s₁.setTop (mkF m 18 #[.val (.ref a1), .val (.int (2 : Int32)), .val (.int (3 : Int32))] []))
          refine OutW.back (fun t k => XS.iinc X0.here hx rfl (hb hby d1_18) rfl (l' := #[.val (.ref a1), .val (.int (2 : Int32)), .val (.int ((3 : Int32) + (1 : Int32)))]) rfl k) ?_
          show OutW _ _ _ _ _ _ _ (s₁.setTop (mkF m 21 #[.val (.ref a1), .val (.int (2 : Int32)), .val (.int ((3 : Int32) + (1 : Int32)))] []))
          rw [show ((3 : Int32) + (1 : Int32)) = (4 : Int32) from by decide]
          refine OutW.back (fun t k => XS.goto X0.here hx rfl (pc0 := 21) (pc' := 2) rfl (hb hby d1_21) (by decide) (by decide) k) ?_
          show OutW _ _ _ _ _ _ _ (s₁.setTop (mkF m 2 #[.val (.ref a1), .val (.int (2 : Int32)), .val (.int (4 : Int32))] []))
          refine OutW.back (fun t k => XS.iloadN X0.here hx rfl (hb hby d1_2) rfl  k) ?_
          show OutW _ _ _ _ _ _ _ (s₁.setTop (mkF m 3 #[.val (.ref a1), .val (.int (2 : Int32)), .val (.int (4 : Int32))] [(.int (4 : Int32))]))
          refine OutW.back (fun t k => XS.bipush X0.here hx rfl (hb hby d1_3) k) ?_
          show OutW _ _ _ _ _ _ _ (s₁.setTop (mkF m 5 #[.val (.ref a1), .val (.int (2 : Int32)), .val (.int (4 : Int32))] [(.int (7 : Int32)), (.int (4 : Int32))]))
          refine OutW.back (fun t k => XS.icmpNo X0.here hx rfl (hb hby d1_5) rfl (tlt (by decide : (4 : Int32) < (7 : Int32))).2.1 k) ?_
          show OutW _ _ _ _ _ _ _ (s₁.setTop (mkF m 8 #[.val (.ref a1), .val (.int (2 : Int32)), .val (.int (4 : Int32))] []))
          refine OutW.back (fun t k => XS.aloadN X0.here hx rfl (hb hby d1_8) rfl rfl  k) ?_
          show OutW _ _ _ _ _ _ _ (s₁.setTop (mkF m 9 #[.val (.ref a1), .val (.int (2 : Int32)), .val (.int (4 : Int32))] [(.ref a1)]))
          refine OutW.back (fun t k => XS.iloadN X0.here hx rfl (hb hby d1_9) rfl  k) ?_
          show OutW _ _ _ _ _ _ _ (s₁.setTop (mkF m 10 #[.val (.ref a1), .val (.int (2 : Int32)), .val (.int (4 : Int32))] [(.int (2 : Int32)), (.ref a1)]))
          refine OutW.back (fun t k => XS.iloadN X0.here hx rfl (hb hby d1_10) rfl  k) ?_
          show OutW _ _ _ _ _ _ _ (s₁.setTop (mkF m 11 #[.val (.ref a1), .val (.int (2 : Int32)), .val (.int (4 : Int32))] [(.int (4 : Int32)), (.int (2 : Int32)), (.ref a1)]))
          refine OutW.back (fun t k => XS.iadd X0.here hx rfl (hb hby d1_11) rfl k) ?_
          show OutW _ _ _ _ _ _ _ (s₁.setTop (mkF m 12 #[.val (.ref a1), .val (.int (2 : Int32)), .val (.int (4 : Int32))] [(.int ((2 : Int32) + (4 : Int32))), (.ref a1)]))
          rw [show ((2 : Int32) + (4 : Int32)) = (6 : Int32) from by decide]
          obtain ⟨cl9, Ar9, Qk9, Sz9, Nn9, Hh9, Gg9⟩ := id V_a1
          have hin9 : ¬ ((6 : Int32) < 0 ∨ cl9.slots.size ≤ ((6 : Int32)).toNatClampNeg) := inb_of Sz9 ⟨by decide, by decide⟩
          refine OutW.back (X0.baloadBytes hx (j := (6 : Int32)) (v := (.int w6)) (by rw [e0]; exact Ar9.1) (State.isArrayOf_alike hZ.alike Ar9.2.1) Ar9.2.2 hin9 (Hh9.at hin9 (by rfl)) (g := (mkF m 12 #[.val (.ref a1), .val (.int (2 : Int32)), .val (.int (4 : Int32))] [(.int (6 : Int32)), (.ref a1)])) rfl rfl (hb hby d1_12)) ?_
          show OutW _ _ _ _ _ _ _ (s₁.setTop (mkF m 13 #[.val (.ref a1), .val (.int (2 : Int32)), .val (.int (4 : Int32))] [(.int w6)]))
          by_cases c13_10 : w6 = (0 : Int32)
          · skip
            refine OutW.back (fun t k => XS.ifYes X0.here hx rfl (pc0 := 13) (pc' := 18) rfl (hb hby d1_13) rfl ((if0 _ _).trans (teq c13_10).1) (by decide) (by decide) k) ?_
            show OutW _ _ _ _ _ _ _ (s₁.setTop (mkF m 18 #[.val (.ref a1), .val (.int (2 : Int32)), .val (.int (4 : Int32))] []))
            refine OutW.back (fun t k => XS.iinc X0.here hx rfl (hb hby d1_18) rfl (l' := #[.val (.ref a1), .val (.int (2 : Int32)), .val (.int ((4 : Int32) + (1 : Int32)))]) rfl k) ?_
            show OutW _ _ _ _ _ _ _ (s₁.setTop (mkF m 21 #[.val (.ref a1), .val (.int (2 : Int32)), .val (.int ((4 : Int32) + (1 : Int32)))] []))
            rw [show ((4 : Int32) + (1 : Int32)) = (5 : Int32) from by decide]
            refine OutW.back (fun t k => XS.goto X0.here hx rfl (pc0 := 21) (pc' := 2) rfl (hb hby d1_21) (by decide) (by decide) k) ?_
            show OutW _ _ _ _ _ _ _ (s₁.setTop (mkF m 2 #[.val (.ref a1), .val (.int (2 : Int32)), .val (.int (5 : Int32))] []))
            refine OutW.back (fun t k => XS.iloadN X0.here hx rfl (hb hby d1_2) rfl  k) ?_
            show OutW _ _ _ _ _ _ _ (s₁.setTop (mkF m 3 #[.val (.ref a1), .val (.int (2 : Int32)), .val (.int (5 : Int32))] [(.int (5 : Int32))]))
            refine OutW.back (fun t k => XS.bipush X0.here hx rfl (hb hby d1_3) k) ?_
            show OutW _ _ _ _ _ _ _ (s₁.setTop (mkF m 5 #[.val (.ref a1), .val (.int (2 : Int32)), .val (.int (5 : Int32))] [(.int (7 : Int32)), (.int (5 : Int32))]))
            refine OutW.back (fun t k => XS.icmpNo X0.here hx rfl (hb hby d1_5) rfl (tlt (by decide : (5 : Int32) < (7 : Int32))).2.1 k) ?_
            show OutW _ _ _ _ _ _ _ (s₁.setTop (mkF m 8 #[.val (.ref a1), .val (.int (2 : Int32)), .val (.int (5 : Int32))] []))
            refine OutW.back (fun t k => XS.aloadN X0.here hx rfl (hb hby d1_8) rfl rfl  k) ?_
            show OutW _ _ _ _ _ _ _ (s₁.setTop (mkF m 9 #[.val (.ref a1), .val (.int (2 : Int32)), .val (.int (5 : Int32))] [(.ref a1)]))
            refine OutW.back (fun t k => XS.iloadN X0.here hx rfl (hb hby d1_9) rfl  k) ?_
            show OutW _ _ _ _ _ _ _ (s₁.setTop (mkF m 10 #[.val (.ref a1), .val (.int (2 : Int32)), .val (.int (5 : Int32))] [(.int (2 : Int32)), (.ref a1)]))
            refine OutW.back (fun t k => XS.iloadN X0.here hx rfl (hb hby d1_10) rfl  k) ?_
            show OutW _ _ _ _ _ _ _ (s₁.setTop (mkF m 11 #[.val (.ref a1), .val (.int (2 : Int32)), .val (.int (5 : Int32))] [(.int (5 : Int32)), (.int (2 : Int32)), (.ref a1)]))
            refine OutW.back (fun t k => XS.iadd X0.here hx rfl (hb hby d1_11) rfl k) ?_
            show OutW _ _ _ _ _ _ _ (s₁.setTop (mkF m 12 #[.val (.ref a1), .val (.int (2 : Int32)), .val (.int (5 : Int32))] [(.int ((2 : Int32) + (5 : Int32))), (.ref a1)]))
            rw [show ((2 : Int32) + (5 : Int32)) = (7 : Int32) from by decide]
            obtain ⟨cl11, Ar11, Qk11, Sz11, Nn11, Hh11, Gg11⟩ := id V_a1
            have hin11 : ¬ ((7 : Int32) < 0 ∨ cl11.slots.size ≤ ((7 : Int32)).toNatClampNeg) := inb_of Sz11 ⟨by decide, by decide⟩
            refine OutW.back (X0.baloadBytes hx (j := (7 : Int32)) (v := (.int w7)) (by rw [e0]; exact Ar11.1) (State.isArrayOf_alike hZ.alike Ar11.2.1) Ar11.2.2 hin11 (Hh11.at hin11 (by rfl)) (g := (mkF m 12 #[.val (.ref a1), .val (.int (2 : Int32)), .val (.int (5 : Int32))] [(.int (7 : Int32)), (.ref a1)])) rfl rfl (hb hby d1_12)) ?_
            show OutW _ _ _ _ _ _ _ (s₁.setTop (mkF m 13 #[.val (.ref a1), .val (.int (2 : Int32)), .val (.int (5 : Int32))] [(.int w7)]))
            by_cases c13_12 : w7 = (0 : Int32)
            · skip
              refine OutW.back (fun t k => XS.ifYes X0.here hx rfl (pc0 := 13) (pc' := 18) rfl (hb hby d1_13) rfl ((if0 _ _).trans (teq c13_12).1) (by decide) (by decide) k) ?_
              show OutW _ _ _ _ _ _ _ (s₁.setTop (mkF m 18 #[.val (.ref a1), .val (.int (2 : Int32)), .val (.int (5 : Int32))] []))
              refine OutW.back (fun t k => XS.iinc X0.here hx rfl (hb hby d1_18) rfl (l' := #[.val (.ref a1), .val (.int (2 : Int32)), .val (.int ((5 : Int32) + (1 : Int32)))]) rfl k) ?_
              show OutW _ _ _ _ _ _ _ (s₁.setTop (mkF m 21 #[.val (.ref a1), .val (.int (2 : Int32)), .val (.int ((5 : Int32) + (1 : Int32)))] []))
              rw [show ((5 : Int32) + (1 : Int32)) = (6 : Int32) from by decide]
              refine OutW.back (fun t k => XS.goto X0.here hx rfl (pc0 := 21) (pc' := 2) rfl (hb hby d1_21) (by decide) (by decide) k) ?_
              show OutW _ _ _ _ _ _ _ (s₁.setTop (mkF m 2 #[.val (.ref a1), .val (.int (2 : Int32)), .val (.int (6 : Int32))] []))
              refine OutW.back (fun t k => XS.iloadN X0.here hx rfl (hb hby d1_2) rfl  k) ?_
              show OutW _ _ _ _ _ _ _ (s₁.setTop (mkF m 3 #[.val (.ref a1), .val (.int (2 : Int32)), .val (.int (6 : Int32))] [(.int (6 : Int32))]))
              refine OutW.back (fun t k => XS.bipush X0.here hx rfl (hb hby d1_3) k) ?_
              show OutW _ _ _ _ _ _ _ (s₁.setTop (mkF m 5 #[.val (.ref a1), .val (.int (2 : Int32)), .val (.int (6 : Int32))] [(.int (7 : Int32)), (.int (6 : Int32))]))
              refine OutW.back (fun t k => XS.icmpNo X0.here hx rfl (hb hby d1_5) rfl (tlt (by decide : (6 : Int32) < (7 : Int32))).2.1 k) ?_
              show OutW _ _ _ _ _ _ _ (s₁.setTop (mkF m 8 #[.val (.ref a1), .val (.int (2 : Int32)), .val (.int (6 : Int32))] []))
              refine OutW.back (fun t k => XS.aloadN X0.here hx rfl (hb hby d1_8) rfl rfl  k) ?_
              show OutW _ _ _ _ _ _ _ (s₁.setTop (mkF m 9 #[.val (.ref a1), .val (.int (2 : Int32)), .val (.int (6 : Int32))] [(.ref a1)]))
              refine OutW.back (fun t k => XS.iloadN X0.here hx rfl (hb hby d1_9) rfl  k) ?_
              show OutW _ _ _ _ _ _ _ (s₁.setTop (mkF m 10 #[.val (.ref a1), .val (.int (2 : Int32)), .val (.int (6 : Int32))] [(.int (2 : Int32)), (.ref a1)]))
              refine OutW.back (fun t k => XS.iloadN X0.here hx rfl (hb hby d1_10) rfl  k) ?_
              show OutW _ _ _ _ _ _ _ (s₁.setTop (mkF m 11 #[.val (.ref a1), .val (.int (2 : Int32)), .val (.int (6 : Int32))] [(.int (6 : Int32)), (.int (2 : Int32)), (.ref a1)]))
              refine OutW.back (fun t k => XS.iadd X0.here hx rfl (hb hby d1_11) rfl k) ?_
              show OutW _ _ _ _ _ _ _ (s₁.setTop (mkF m 12 #[.val (.ref a1), .val (.int (2 : Int32)), .val (.int (6 : Int32))] [(.int ((2 : Int32) + (6 : Int32))), (.ref a1)]))
              rw [show ((2 : Int32) + (6 : Int32)) = (8 : Int32) from by decide]
              obtain ⟨cl13, Ar13, Qk13, Sz13, Nn13, Hh13, Gg13⟩ := id V_a1
              have hin13 : ¬ ((8 : Int32) < 0 ∨ cl13.slots.size ≤ ((8 : Int32)).toNatClampNeg) := inb_of Sz13 ⟨by decide, by decide⟩
              refine OutW.back (X0.baloadBytes hx (j := (8 : Int32)) (v := (.int w8)) (by rw [e0]; exact Ar13.1) (State.isArrayOf_alike hZ.alike Ar13.2.1) Ar13.2.2 hin13 (Hh13.at hin13 (by rfl)) (g := (mkF m 12 #[.val (.ref a1), .val (.int (2 : Int32)), .val (.int (6 : Int32))] [(.int (8 : Int32)), (.ref a1)])) rfl rfl (hb hby d1_12)) ?_
              show OutW _ _ _ _ _ _ _ (s₁.setTop (mkF m 13 #[.val (.ref a1), .val (.int (2 : Int32)), .val (.int (6 : Int32))] [(.int w8)]))
              by_cases c13_14 : w8 = (0 : Int32)
              · skip
                refine OutW.back (fun t k => XS.ifYes X0.here hx rfl (pc0 := 13) (pc' := 18) rfl (hb hby d1_13) rfl ((if0 _ _).trans (teq c13_14).1) (by decide) (by decide) k) ?_
                show OutW _ _ _ _ _ _ _ (s₁.setTop (mkF m 18 #[.val (.ref a1), .val (.int (2 : Int32)), .val (.int (6 : Int32))] []))
                refine OutW.back (fun t k => XS.iinc X0.here hx rfl (hb hby d1_18) rfl (l' := #[.val (.ref a1), .val (.int (2 : Int32)), .val (.int ((6 : Int32) + (1 : Int32)))]) rfl k) ?_
                show OutW _ _ _ _ _ _ _ (s₁.setTop (mkF m 21 #[.val (.ref a1), .val (.int (2 : Int32)), .val (.int ((6 : Int32) + (1 : Int32)))] []))
                rw [show ((6 : Int32) + (1 : Int32)) = (7 : Int32) from by decide]
                refine OutW.back (fun t k => XS.goto X0.here hx rfl (pc0 := 21) (pc' := 2) rfl (hb hby d1_21) (by decide) (by decide) k) ?_
                show OutW _ _ _ _ _ _ _ (s₁.setTop (mkF m 2 #[.val (.ref a1), .val (.int (2 : Int32)), .val (.int (7 : Int32))] []))
                refine OutW.back (fun t k => XS.iloadN X0.here hx rfl (hb hby d1_2) rfl  k) ?_
                show OutW _ _ _ _ _ _ _ (s₁.setTop (mkF m 3 #[.val (.ref a1), .val (.int (2 : Int32)), .val (.int (7 : Int32))] [(.int (7 : Int32))]))
                refine OutW.back (fun t k => XS.bipush X0.here hx rfl (hb hby d1_3) k) ?_
                show OutW _ _ _ _ _ _ _ (s₁.setTop (mkF m 5 #[.val (.ref a1), .val (.int (2 : Int32)), .val (.int (7 : Int32))] [(.int (7 : Int32)), (.int (7 : Int32))]))
                refine OutW.back (fun t k => XS.icmpYes X0.here hx rfl (pc0 := 5) (pc' := 24) rfl (hb hby d1_5) rfl (flt (by decide : ¬ ((7 : Int32) < (7 : Int32)))).2.1 (by decide) (by decide) k) ?_
                show OutW _ _ _ _ _ _ _ (s₁.setTop (mkF m 24 #[.val (.ref a1), .val (.int (2 : Int32)), .val (.int (7 : Int32))] []))
                refine OutW.back (fun t k => XS.aloadN X0.here hx rfl (hb hby d1_24) rfl rfl  k) ?_
                show OutW _ _ _ _ _ _ _ (s₁.setTop (mkF m 25 #[.val (.ref a1), .val (.int (2 : Int32)), .val (.int (7 : Int32))] [(.ref a1)]))
                refine OutW.back (fun t k => XS.iloadN X0.here hx rfl (hb hby d1_25) rfl  k) ?_
                show OutW _ _ _ _ _ _ _ (s₁.setTop (mkF m 26 #[.val (.ref a1), .val (.int (2 : Int32)), .val (.int (7 : Int32))] [(.int (2 : Int32)), (.ref a1)]))
                refine OutW.back (fun t k => XS.bipush X0.here hx rfl (hb hby d1_26) k) ?_
                show OutW _ _ _ _ _ _ _ (s₁.setTop (mkF m 28 #[.val (.ref a1), .val (.int (2 : Int32)), .val (.int (7 : Int32))] [(.int (8 : Int32)), (.int (2 : Int32)), (.ref a1)]))
                refine OutW.back (fun t k => XS.iadd X0.here hx rfl (hb hby d1_28) rfl k) ?_
                show OutW _ _ _ _ _ _ _ (s₁.setTop (mkF m 29 #[.val (.ref a1), .val (.int (2 : Int32)), .val (.int (7 : Int32))] [(.int ((2 : Int32) + (8 : Int32))), (.ref a1)]))
                rw [show ((2 : Int32) + (8 : Int32)) = (10 : Int32) from by decide]
                refine OutW.back (fun t k => XS.iconst X0.here hx rfl (hb hby d1_29) k) ?_
                show OutW _ _ _ _ _ _ _ (s₁.setTop (mkF m 30 #[.val (.ref a1), .val (.int (2 : Int32)), .val (.int (7 : Int32))] [(.int (1 : Int32)), (.int (10 : Int32)), (.ref a1)]))
                refine OutW.back (fun t k => XS.isub X0.here hx rfl (hb hby d1_30) rfl k) ?_
                show OutW _ _ _ _ _ _ _ (s₁.setTop (mkF m 31 #[.val (.ref a1), .val (.int (2 : Int32)), .val (.int (7 : Int32))] [(.int ((10 : Int32) - (1 : Int32))), (.ref a1)]))
                rw [show ((10 : Int32) - (1 : Int32)) = (9 : Int32) from by decide]
                obtain ⟨cl15, Ar15, Qk15, Sz15, Nn15, Hh15, Gg15⟩ := id V_a1
                have hin15 : ¬ ((9 : Int32) < 0 ∨ cl15.slots.size ≤ ((9 : Int32)).toNatClampNeg) := inb_of Sz15 ⟨by decide, by decide⟩
                refine OutW.back (X0.baloadBytes hx (j := (9 : Int32)) (v := (.int w9)) (by rw [e0]; exact Ar15.1) (State.isArrayOf_alike hZ.alike Ar15.2.1) Ar15.2.2 hin15 (Hh15.at hin15 (by rfl)) (g := (mkF m 31 #[.val (.ref a1), .val (.int (2 : Int32)), .val (.int (7 : Int32))] [(.int (9 : Int32)), (.ref a1)])) rfl rfl (hb hby d1_31)) ?_
                show OutW _ _ _ _ _ _ _ (s₁.setTop (mkF m 32 #[.val (.ref a1), .val (.int (2 : Int32)), .val (.int (7 : Int32))] [(.int w9)]))
                refine OutW.back (fun t k => XS.bipush X0.here hx rfl (hb hby d1_32) k) ?_
                show OutW _ _ _ _ _ _ _ (s₁.setTop (mkF m 34 #[.val (.ref a1), .val (.int (2 : Int32)), .val (.int (7 : Int32))] [(.int (-128 : Int32)), (.int w9)]))
                by_cases c34_16 : w9 = (-128 : Int32)
                · skip
                  refine OutW.back (fun t k => XS.icmpNo X0.here hx rfl (hb hby d1_34) rfl (teq c34_16).2 k) ?_
                  show OutW _ _ _ _ _ _ _ (s₁.setTop (mkF m 37 #[.val (.ref a1), .val (.int (2 : Int32)), .val (.int (7 : Int32))] []))
                  refine OutW.back (fun t k => XS.iconst X0.here hx rfl (hb hby d1_37) k) ?_
                  show OutW _ _ _ _ _ _ _ (s₁.setTop (mkF m 38 #[.val (.ref a1), .val (.int (2 : Int32)), .val (.int (7 : Int32))] [(.int (1 : Int32))]))
                  refine OutW.back (fun t k => XS.goto X0.here hx rfl (pc0 := 38) (pc' := 42) rfl (hb hby d1_38) (by decide) (by decide) k) ?_
                  show OutW _ _ _ _ _ _ _ (s₁.setTop (mkF m 42 #[.val (.ref a1), .val (.int (2 : Int32)), .val (.int (7 : Int32))] [(.int (1 : Int32))]))
                  refine OutW.retN X0 hx (t := .boolean) (z' := (1 : Int32)) Bd.returns (by simp) hlk (hb hby d1_42) ?hz (by decide) (by decide) ?_
                  case hz =>
                    rfl
                  show Q1_2 Z a1 w0 w1 w2 w3 w4 w5 w6 w7 w8 w9 w10 w11 w12 w13 w14 w15 kk h0 n0 _ s₁.heap _
                  rw [e0]
                  exact ⟨by rw [negz2, if_pos c13_2, if_pos c13_4, if_pos c13_6, if_pos c13_8, if_pos c13_10, if_pos c13_12, if_pos c13_14, if_pos c34_16], N0, rfl⟩
                · skip
                  refine OutW.back (fun t k => XS.icmpYes X0.here hx rfl (pc0 := 34) (pc' := 41) rfl (hb hby d1_34) rfl (feq c34_16).2 (by decide) (by decide) k) ?_
                  show OutW _ _ _ _ _ _ _ (s₁.setTop (mkF m 41 #[.val (.ref a1), .val (.int (2 : Int32)), .val (.int (7 : Int32))] []))
                  refine OutW.back (fun t k => XS.iconst X0.here hx rfl (hb hby d1_41) k) ?_
                  show OutW _ _ _ _ _ _ _ (s₁.setTop (mkF m 42 #[.val (.ref a1), .val (.int (2 : Int32)), .val (.int (7 : Int32))] [(.int (0 : Int32))]))
                  refine OutW.retN X0 hx (t := .boolean) (z' := (0 : Int32)) Bd.returns (by simp) hlk (hb hby d1_42) ?hz (by decide) (by decide) ?_
                  case hz =>
                    rfl
                  show Q1_2 Z a1 w0 w1 w2 w3 w4 w5 w6 w7 w8 w9 w10 w11 w12 w13 w14 w15 kk h0 n0 _ s₁.heap _
                  rw [e0]
                  exact ⟨by rw [negz2, if_pos c13_2, if_pos c13_4, if_pos c13_6, if_pos c13_8, if_pos c13_10, if_pos c13_12, if_pos c13_14, if_neg c34_16], N0, rfl⟩
              · skip
                refine OutW.back (fun t k => XS.ifNo X0.here hx rfl (hb hby d1_13) rfl ((if0 _ _).trans (feq c13_14).1) k) ?_
                show OutW _ _ _ _ _ _ _ (s₁.setTop (mkF m 16 #[.val (.ref a1), .val (.int (2 : Int32)), .val (.int (6 : Int32))] []))
                refine OutW.back (fun t k => XS.iconst X0.here hx rfl (hb hby d1_16) k) ?_
                show OutW _ _ _ _ _ _ _ (s₁.setTop (mkF m 17 #[.val (.ref a1), .val (.int (2 : Int32)), .val (.int (6 : Int32))] [(.int (0 : Int32))]))
                refine OutW.retN X0 hx (t := .boolean) (z' := (0 : Int32)) Bd.returns (by simp) hlk (hb hby d1_17) ?hz (by decide) (by decide) ?_
                case hz =>
                  rfl
                show Q1_2 Z a1 w0 w1 w2 w3 w4 w5 w6 w7 w8 w9 w10 w11 w12 w13 w14 w15 kk h0 n0 _ s₁.heap _
                rw [e0]
                exact ⟨by rw [negz2, if_pos c13_2, if_pos c13_4, if_pos c13_6, if_pos c13_8, if_pos c13_10, if_pos c13_12, if_neg c13_14], N0, rfl⟩
            · skip
              refine OutW.back (fun t k => XS.ifNo X0.here hx rfl (hb hby d1_13) rfl ((if0 _ _).trans (feq c13_12).1) k) ?_
              show OutW _ _ _ _ _ _ _ (s₁.setTop (mkF m 16 #[.val (.ref a1), .val (.int (2 : Int32)), .val (.int (5 : Int32))] []))
              refine OutW.back (fun t k => XS.iconst X0.here hx rfl (hb hby d1_16) k) ?_
              show OutW _ _ _ _ _ _ _ (s₁.setTop (mkF m 17 #[.val (.ref a1), .val (.int (2 : Int32)), .val (.int (5 : Int32))] [(.int (0 : Int32))]))
              refine OutW.retN X0 hx (t := .boolean) (z' := (0 : Int32)) Bd.returns (by simp) hlk (hb hby d1_17) ?hz (by decide) (by decide) ?_
              case hz =>
                rfl
              show Q1_2 Z a1 w0 w1 w2 w3 w4 w5 w6 w7 w8 w9 w10 w11 w12 w13 w14 w15 kk h0 n0 _ s₁.heap _
              rw [e0]
              exact ⟨by rw [negz2, if_pos c13_2, if_pos c13_4, if_pos c13_6, if_pos c13_8, if_pos c13_10, if_neg c13_12], N0, rfl⟩
          · skip
            refine OutW.back (fun t k => XS.ifNo X0.here hx rfl (hb hby d1_13) rfl ((if0 _ _).trans (feq c13_10).1) k) ?_
            show OutW _ _ _ _ _ _ _ (s₁.setTop (mkF m 16 #[.val (.ref a1), .val (.int (2 : Int32)), .val (.int (4 : Int32))] []))
            refine OutW.back (fun t k => XS.iconst X0.here hx rfl (hb hby d1_16) k) ?_
            show OutW _ _ _ _ _ _ _ (s₁.setTop (mkF m 17 #[.val (.ref a1), .val (.int (2 : Int32)), .val (.int (4 : Int32))] [(.int (0 : Int32))]))
            refine OutW.retN X0 hx (t := .boolean) (z' := (0 : Int32)) Bd.returns (by simp) hlk (hb hby d1_17) ?hz (by decide) (by decide) ?_
            case hz =>
              rfl
            show Q1_2 Z a1 w0 w1 w2 w3 w4 w5 w6 w7 w8 w9 w10 w11 w12 w13 w14 w15 kk h0 n0 _ s₁.heap _
            rw [e0]
            exact ⟨by rw [negz2, if_pos c13_2, if_pos c13_4, if_pos c13_6, if_pos c13_8, if_neg c13_10], N0, rfl⟩
        · skip
          refine OutW.back (fun t k => XS.ifNo X0.here hx rfl (hb hby d1_13) rfl ((if0 _ _).trans (feq c13_8).1) k) ?_
          show OutW _ _ _ _ _ _ _ (s₁.setTop (mkF m 16 #[.val (.ref a1), .val (.int (2 : Int32)), .val (.int (3 : Int32))] []))
          refine OutW.back (fun t k => XS.iconst X0.here hx rfl (hb hby d1_16) k) ?_
          show OutW _ _ _ _ _ _ _ (s₁.setTop (mkF m 17 #[.val (.ref a1), .val (.int (2 : Int32)), .val (.int (3 : Int32))] [(.int (0 : Int32))]))
          refine OutW.retN X0 hx (t := .boolean) (z' := (0 : Int32)) Bd.returns (by simp) hlk (hb hby d1_17) ?hz (by decide) (by decide) ?_
          case hz =>
            rfl
          show Q1_2 Z a1 w0 w1 w2 w3 w4 w5 w6 w7 w8 w9 w10 w11 w12 w13 w14 w15 kk h0 n0 _ s₁.heap _
          rw [e0]
          exact ⟨by rw [negz2, if_pos c13_2, if_pos c13_4, if_pos c13_6, if_neg c13_8], N0, rfl⟩
      · skip
        refine OutW.back (fun t k => XS.ifNo X0.here hx rfl (hb hby d1_13) rfl ((if0 _ _).trans (feq c13_6).1) k) ?_
        show OutW _ _ _ _ _ _ _ (s₁.setTop (mkF m 16 #[.val (.ref a1), .val (.int (2 : Int32)), .val (.int (2 : Int32))] []))
        refine OutW.back (fun t k => XS.iconst X0.here hx rfl (hb hby d1_16) k) ?_
        show OutW _ _ _ _ _ _ _ (s₁.setTop (mkF m 17 #[.val (.ref a1), .val (.int (2 : Int32)), .val (.int (2 : Int32))] [(.int (0 : Int32))]))
        refine OutW.retN X0 hx (t := .boolean) (z' := (0 : Int32)) Bd.returns (by simp) hlk (hb hby d1_17) ?hz (by decide) (by decide) ?_
        case hz =>
          rfl
        show Q1_2 Z a1 w0 w1 w2 w3 w4 w5 w6 w7 w8 w9 w10 w11 w12 w13 w14 w15 kk h0 n0 _ s₁.heap _
        rw [e0]
        exact ⟨by rw [negz2, if_pos c13_2, if_pos c13_4, if_neg c13_6], N0, rfl⟩
    · skip
      refine OutW.back (fun t k => XS.ifNo X0.here hx rfl (hb hby d1_13) rfl ((if0 _ _).trans (feq c13_4).1) k) ?_
      show OutW _ _ _ _ _ _ _ (s₁.setTop (mkF m 16 #[.val (.ref a1), .val (.int (2 : Int32)), .val (.int (1 : Int32))] []))
      refine OutW.back (fun t k => XS.iconst X0.here hx rfl (hb hby d1_16) k) ?_
      show OutW _ _ _ _ _ _ _ (s₁.setTop (mkF m 17 #[.val (.ref a1), .val (.int (2 : Int32)), .val (.int (1 : Int32))] [(.int (0 : Int32))]))
      refine OutW.retN X0 hx (t := .boolean) (z' := (0 : Int32)) Bd.returns (by simp) hlk (hb hby d1_17) ?hz (by decide) (by decide) ?_
      case hz =>
        rfl
      show Q1_2 Z a1 w0 w1 w2 w3 w4 w5 w6 w7 w8 w9 w10 w11 w12 w13 w14 w15 kk h0 n0 _ s₁.heap _
      rw [e0]
      exact ⟨by rw [negz2, if_pos c13_2, if_neg c13_4], N0, rfl⟩
  · skip
    refine OutW.back (fun t k => XS.ifNo X0.here hx rfl (hb hby d1_13) rfl ((if0 _ _).trans (feq c13_2).1) k) ?_
    show OutW _ _ _ _ _ _ _ (s₁.setTop (mkF m 16 #[.val (.ref a1), .val (.int (2 : Int32)), .val (.int (0 : Int32))] []))
    refine OutW.back (fun t k => XS.iconst X0.here hx rfl (hb hby d1_16) k) ?_
    show OutW _ _ _ _ _ _ _ (s₁.setTop (mkF m 17 #[.val (.ref a1), .val (.int (2 : Int32)), .val (.int (0 : Int32))] [(.int (0 : Int32))]))
    refine OutW.retN X0 hx (t := .boolean) (z' := (0 : Int32)) Bd.returns (by simp) hlk (hb hby d1_17) ?hz (by decide) (by decide) ?_
    case hz =>
      rfl
    show Q1_2 Z a1 w0 w1 w2 w3 w4 w5 w6 w7 w8 w9 w10 w11 w12 w13 w14 w15 kk h0 n0 _ s₁.heap _
    rw [e0]
    exact ⟨by rw [negz2, if_neg c13_2], N0, rfl⟩
def negz3 (w3 : Int32) (w4 : Int32) (w5 : Int32) (w6 : Int32) (w7 : Int32) (w8 : Int32) (w9 : Int32) (w10 : Int32) : Int32 := (if w3 = (0 : Int32) then (if w4 = (0 : Int32) then (if w5 = (0 : Int32) then (if w6 = (0 : Int32) then (if w7 = (0 : Int32) then (if w8 = (0 : Int32) then (if w9 = (0 : Int32) then (if w10 = (-128 : Int32) then (1 : Int32) else (0 : Int32)) else (0 : Int32)) else (0 : Int32)) else (0 : Int32)) else (0 : Int32)) else (0 : Int32)) else (0 : Int32)) else (0 : Int32))
theorem ef_1_3 (m : MethodId) (x0 : Addr) : entryFrame m #[(.ref x0), (.int (3 : Int32))] 3 = mkF m 0 #[.val (.ref x0), .val (.int (3 : Int32)), .unset] [] := by first | (simp [entryFrame, mkF, argsToLocals, Value.category]; done) | rfl
def Q1_3 (Z : State) (a1 : Addr) (w0 : Int32) (w1 : Int32) (w2 : Int32) (w3 : Int32) (w4 : Int32) (w5 : Int32) (w6 : Int32) (w7 : Int32) (w8 : Int32) (w9 : Int32) (w10 : Int32) (w11 : Int32) (w12 : Int32) (w13 : Int32) (w14 : Int32) (w15 : Int32) (kk : ClassId) (h0 : Heap) (n0 : Nat) (v : Option Value) (h : Heap) (L : List Loc) : Prop := v = some (.int (negz3 w3 w4 w5 w6 w7 w8 w9 w10)) ∧ Fr n0 L ∧ h = h0
set_option maxRecDepth 65536 in
set_option maxHeartbeats 40000000 in
theorem rm1_3 (l : Launch) (Z : State) (a0 : Array Value) (hw : ∀ d ∈ tables_1, d.before a0 Z = true) (ws : List Jvm.Cond) (a1 : Addr) (w0 : Int32) (w1 : Int32) (w2 : Int32) (w3 : Int32) (w4 : Int32) (w5 : Int32) (w6 : Int32) (w7 : Int32) (w8 : Int32) (w9 : Int32) (w10 : Int32) (w11 : Int32) (w12 : Int32) (w13 : Int32) (w14 : Int32) (w15 : Int32) (kk : ClassId) (h0 : Heap) (n0 : Nat) (Z0 : n0 ≤ h0.size) (V_a1 : Arv Z h0 a1 kk .byte (16 : Int32) [(.int w0), (.int w1), (.int w2), (.int w3), (.int w4), (.int w5), (.int w6), (.int w7), (.int w8), (.int w9), (.int w10), (.int w11), (.int w12), (.int w13), (.int w14), (.int w15)] (.int (0 : Int32))) :
    MetFree l (⟨"com/example/patchloom/patchloom/delta/SignMagnitude", "isNegativeZero", "([BI)Z"⟩ : MethodName) (head1 (Jvm.Cond.code (⟨"com/example/patchloom/patchloom/delta/SignMagnitude", "isNegativeZero", "([BI)Z"⟩ : MethodName) prog_26_method_3_code 3 (some .boolean) :: ws) ({ frames := 0, cells := 0, slots := 0, locals := 0 } : Room)) (fun a U => a = #[(.ref a1), (.int (3 : Int32))] ∧ Z.Warmed39 U.vm ∧ U.heap = h0) (fun _ _ _ _ _ => True) (fun _ U o U' => ∃ v L, o = .returned v ∧ Q1_3 Z a1 w0 w1 w2 w3 w4 w5 w6 w7 w8 w9 w10 w11 w12 w13 w14 w15 kk h0 n0 v U'.heap L ∧ FrameEnd U o U' L ({ frames := 0, cells := 0, slots := 0, locals := 0 } : Room).cells ({ frames := 0, cells := 0, slots := 0, locals := 0 } : Room).slots) := by
  refine MetFree.of_bodySF (plainFor_of_name pn_1) hisR ?_
  intro p e s m args below meth c s₁ Bd hml0 hP hK
  obtain ⟨rfl, hZ, hh⟩ := hP
  have hx := Bd.exec
  have hby := Bd.bytes
  have hlk := Bd.notSynchronized
  have hml : c.maxLocals = 3 := hml0
  have hown : s.vm.findClass "com/example/patchloom/patchloom/delta/SignMagnitude" = some m.cls := findClass_of_methodNamed Bd.named
  have hnm := (name_of_methodNamed Bd.named Bd.method).1
  have X0 : Stand p l e ({ frames := 0, cells := 0, slots := 0, locals := 0 } : Room) s m #[(.ref a1), (.int (3 : Int32))] below meth c s₁ [] 0 0 := Stand.of_body Bd
  have e0 : s₁.heap = h0 := by rw [← hh, Bd.state]; rfl
  have N0 := Fr.nil n0
  have K0 : Keep h0 h0 [] := Keep.refl h0 _
  show OutW p e below s ({ frames := 0, cells := 0, slots := 0, locals := 0 } : Room).cells ({ frames := 0, cells := 0, slots := 0, locals := 0 } : Room).slots (Q1_3 Z a1 w0 w1 w2 w3 w4 w5 w6 w7 w8 w9 w10 w11 w12 w13 w14 w15 kk h0 n0) _
  refine OutW.back (fun t k => castTop (ef_1_3 m a1) k) ?_
  show OutW _ _ _ _ _ _ _ (s₁.setTop (mkF m 0 #[.val (.ref a1), .val (.int (3 : Int32)), .unset] []))
  refine OutW.back (fun t k => XS.iconst X0.here hx rfl (hb hby d1_0) k) ?_
  show OutW _ _ _ _ _ _ _ (s₁.setTop (mkF m 1 #[.val (.ref a1), .val (.int (3 : Int32)), .unset] [(.int (0 : Int32))]))
  refine OutW.back (fun t k => XS.istoreN X0.here hx rfl (hb hby d1_1) rfl (l' := #[.val (.ref a1), .val (.int (3 : Int32)), .val (.int (0 : Int32))]) rfl k) ?_
  show OutW _ _ _ _ _ _ _ (s₁.setTop (mkF m 2 #[.val (.ref a1), .val (.int (3 : Int32)), .val (.int (0 : Int32))] []))
  refine OutW.back (fun t k => XS.iloadN X0.here hx rfl (hb hby d1_2) rfl  k) ?_
  show OutW _ _ _ _ _ _ _ (s₁.setTop (mkF m 3 #[.val (.ref a1), .val (.int (3 : Int32)), .val (.int (0 : Int32))] [(.int (0 : Int32))]))
  refine OutW.back (fun t k => XS.bipush X0.here hx rfl (hb hby d1_3) k) ?_
  show OutW _ _ _ _ _ _ _ (s₁.setTop (mkF m 5 #[.val (.ref a1), .val (.int (3 : Int32)), .val (.int (0 : Int32))] [(.int (7 : Int32)), (.int (0 : Int32))]))
  refine OutW.back (fun t k => XS.icmpNo X0.here hx rfl (hb hby d1_5) rfl (tlt (by decide : (0 : Int32) < (7 : Int32))).2.1 k) ?_
  show OutW _ _ _ _ _ _ _ (s₁.setTop (mkF m 8 #[.val (.ref a1), .val (.int (3 : Int32)), .val (.int (0 : Int32))] []))
  refine OutW.back (fun t k => XS.aloadN X0.here hx rfl (hb hby d1_8) rfl rfl  k) ?_
  show OutW _ _ _ _ _ _ _ (s₁.setTop (mkF m 9 #[.val (.ref a1), .val (.int (3 : Int32)), .val (.int (0 : Int32))] [(.ref a1)]))
  refine OutW.back (fun t k => XS.iloadN X0.here hx rfl (hb hby d1_9) rfl  k) ?_
  show OutW _ _ _ _ _ _ _ (s₁.setTop (mkF m 10 #[.val (.ref a1), .val (.int (3 : Int32)), .val (.int (0 : Int32))] [(.int (3 : Int32)), (.ref a1)]))
  refine OutW.back (fun t k => XS.iloadN X0.here hx rfl (hb hby d1_10) rfl  k) ?_
  show OutW _ _ _ _ _ _ _ (s₁.setTop (mkF m 11 #[.val (.ref a1), .val (.int (3 : Int32)), .val (.int (0 : Int32))] [(.int (0 : Int32)), (.int (3 : Int32)), (.ref a1)]))
  refine OutW.back (fun t k => XS.iadd X0.here hx rfl (hb hby d1_11) rfl k) ?_
  show OutW _ _ _ _ _ _ _ (s₁.setTop (mkF m 12 #[.val (.ref a1), .val (.int (3 : Int32)), .val (.int (0 : Int32))] [(.int ((3 : Int32) + (0 : Int32))), (.ref a1)]))
  rw [show ((3 : Int32) + (0 : Int32)) = (3 : Int32) from by decide]
  obtain ⟨cl1, Ar1, Qk1, Sz1, Nn1, Hh1, Gg1⟩ := id V_a1
  have hin1 : ¬ ((3 : Int32) < 0 ∨ cl1.slots.size ≤ ((3 : Int32)).toNatClampNeg) := inb_of Sz1 ⟨by decide, by decide⟩
  refine OutW.back (X0.baloadBytes hx (j := (3 : Int32)) (v := (.int w3)) (by rw [e0]; exact Ar1.1) (State.isArrayOf_alike hZ.alike Ar1.2.1) Ar1.2.2 hin1 (Hh1.at hin1 (by rfl)) (g := (mkF m 12 #[.val (.ref a1), .val (.int (3 : Int32)), .val (.int (0 : Int32))] [(.int (3 : Int32)), (.ref a1)])) rfl rfl (hb hby d1_12)) ?_
  show OutW _ _ _ _ _ _ _ (s₁.setTop (mkF m 13 #[.val (.ref a1), .val (.int (3 : Int32)), .val (.int (0 : Int32))] [(.int w3)]))
  by_cases c13_2 : w3 = (0 : Int32)
  · skip
    refine OutW.back (fun t k => XS.ifYes X0.here hx rfl (pc0 := 13) (pc' := 18) rfl (hb hby d1_13) rfl ((if0 _ _).trans (teq c13_2).1) (by decide) (by decide) k) ?_
    show OutW _ _ _ _ _ _ _ (s₁.setTop (mkF m 18 #[.val (.ref a1), .val (.int (3 : Int32)), .val (.int (0 : Int32))] []))
    refine OutW.back (fun t k => XS.iinc X0.here hx rfl (hb hby d1_18) rfl (l' := #[.val (.ref a1), .val (.int (3 : Int32)), .val (.int ((0 : Int32) + (1 : Int32)))]) rfl k) ?_
    show OutW _ _ _ _ _ _ _ (s₁.setTop (mkF m 21 #[.val (.ref a1), .val (.int (3 : Int32)), .val (.int ((0 : Int32) + (1 : Int32)))] []))
    rw [show ((0 : Int32) + (1 : Int32)) = (1 : Int32) from by decide]
    refine OutW.back (fun t k => XS.goto X0.here hx rfl (pc0 := 21) (pc' := 2) rfl (hb hby d1_21) (by decide) (by decide) k) ?_
    show OutW _ _ _ _ _ _ _ (s₁.setTop (mkF m 2 #[.val (.ref a1), .val (.int (3 : Int32)), .val (.int (1 : Int32))] []))
    refine OutW.back (fun t k => XS.iloadN X0.here hx rfl (hb hby d1_2) rfl  k) ?_
    show OutW _ _ _ _ _ _ _ (s₁.setTop (mkF m 3 #[.val (.ref a1), .val (.int (3 : Int32)), .val (.int (1 : Int32))] [(.int (1 : Int32))]))
    refine OutW.back (fun t k => XS.bipush X0.here hx rfl (hb hby d1_3) k) ?_
    show OutW _ _ _ _ _ _ _ (s₁.setTop (mkF m 5 #[.val (.ref a1), .val (.int (3 : Int32)), .val (.int (1 : Int32))] [(.int (7 : Int32)), (.int (1 : Int32))]))
    refine OutW.back (fun t k => XS.icmpNo X0.here hx rfl (hb hby d1_5) rfl (tlt (by decide : (1 : Int32) < (7 : Int32))).2.1 k) ?_
    show OutW _ _ _ _ _ _ _ (s₁.setTop (mkF m 8 #[.val (.ref a1), .val (.int (3 : Int32)), .val (.int (1 : Int32))] []))
    refine OutW.back (fun t k => XS.aloadN X0.here hx rfl (hb hby d1_8) rfl rfl  k) ?_
    show OutW _ _ _ _ _ _ _ (s₁.setTop (mkF m 9 #[.val (.ref a1), .val (.int (3 : Int32)), .val (.int (1 : Int32))] [(.ref a1)]))
    refine OutW.back (fun t k => XS.iloadN X0.here hx rfl (hb hby d1_9) rfl  k) ?_
    show OutW _ _ _ _ _ _ _ (s₁.setTop (mkF m 10 #[.val (.ref a1), .val (.int (3 : Int32)), .val (.int (1 : Int32))] [(.int (3 : Int32)), (.ref a1)]))
    refine OutW.back (fun t k => XS.iloadN X0.here hx rfl (hb hby d1_10) rfl  k) ?_
    show OutW _ _ _ _ _ _ _ (s₁.setTop (mkF m 11 #[.val (.ref a1), .val (.int (3 : Int32)), .val (.int (1 : Int32))] [(.int (1 : Int32)), (.int (3 : Int32)), (.ref a1)]))
    refine OutW.back (fun t k => XS.iadd X0.here hx rfl (hb hby d1_11) rfl k) ?_
    show OutW _ _ _ _ _ _ _ (s₁.setTop (mkF m 12 #[.val (.ref a1), .val (.int (3 : Int32)), .val (.int (1 : Int32))] [(.int ((3 : Int32) + (1 : Int32))), (.ref a1)]))
    rw [show ((3 : Int32) + (1 : Int32)) = (4 : Int32) from by decide]
    obtain ⟨cl3, Ar3, Qk3, Sz3, Nn3, Hh3, Gg3⟩ := id V_a1
    have hin3 : ¬ ((4 : Int32) < 0 ∨ cl3.slots.size ≤ ((4 : Int32)).toNatClampNeg) := inb_of Sz3 ⟨by decide, by decide⟩
    refine OutW.back (X0.baloadBytes hx (j := (4 : Int32)) (v := (.int w4)) (by rw [e0]; exact Ar3.1) (State.isArrayOf_alike hZ.alike Ar3.2.1) Ar3.2.2 hin3 (Hh3.at hin3 (by rfl)) (g := (mkF m 12 #[.val (.ref a1), .val (.int (3 : Int32)), .val (.int (1 : Int32))] [(.int (4 : Int32)), (.ref a1)])) rfl rfl (hb hby d1_12)) ?_
    show OutW _ _ _ _ _ _ _ (s₁.setTop (mkF m 13 #[.val (.ref a1), .val (.int (3 : Int32)), .val (.int (1 : Int32))] [(.int w4)]))
    by_cases c13_4 : w4 = (0 : Int32)
    · skip
      refine OutW.back (fun t k => XS.ifYes X0.here hx rfl (pc0 := 13) (pc' := 18) rfl (hb hby d1_13) rfl ((if0 _ _).trans (teq c13_4).1) (by decide) (by decide) k) ?_
      show OutW _ _ _ _ _ _ _ (s₁.setTop (mkF m 18 #[.val (.ref a1), .val (.int (3 : Int32)), .val (.int (1 : Int32))] []))
      refine OutW.back (fun t k => XS.iinc X0.here hx rfl (hb hby d1_18) rfl (l' := #[.val (.ref a1), .val (.int (3 : Int32)), .val (.int ((1 : Int32) + (1 : Int32)))]) rfl k) ?_
      show OutW _ _ _ _ _ _ _ (s₁.setTop (mkF m 21 #[.val (.ref a1), .val (.int (3 : Int32)), .val (.int ((1 : Int32) + (1 : Int32)))] []))
      rw [show ((1 : Int32) + (1 : Int32)) = (2 : Int32) from by decide]
      refine OutW.back (fun t k => XS.goto X0.here hx rfl (pc0 := 21) (pc' := 2) rfl (hb hby d1_21) (by decide) (by decide) k) ?_
      show OutW _ _ _ _ _ _ _ (s₁.setTop (mkF m 2 #[.val (.ref a1), .val (.int (3 : Int32)), .val (.int (2 : Int32))] []))
      refine OutW.back (fun t k => XS.iloadN X0.here hx rfl (hb hby d1_2) rfl  k) ?_
      show OutW _ _ _ _ _ _ _ (s₁.setTop (mkF m 3 #[.val (.ref a1), .val (.int (3 : Int32)), .val (.int (2 : Int32))] [(.int (2 : Int32))]))
      refine OutW.back (fun t k => XS.bipush X0.here hx rfl (hb hby d1_3) k) ?_
      show OutW _ _ _ _ _ _ _ (s₁.setTop (mkF m 5 #[.val (.ref a1), .val (.int (3 : Int32)), .val (.int (2 : Int32))] [(.int (7 : Int32)), (.int (2 : Int32))]))
      refine OutW.back (fun t k => XS.icmpNo X0.here hx rfl (hb hby d1_5) rfl (tlt (by decide : (2 : Int32) < (7 : Int32))).2.1 k) ?_
      show OutW _ _ _ _ _ _ _ (s₁.setTop (mkF m 8 #[.val (.ref a1), .val (.int (3 : Int32)), .val (.int (2 : Int32))] []))
      refine OutW.back (fun t k => XS.aloadN X0.here hx rfl (hb hby d1_8) rfl rfl  k) ?_
      show OutW _ _ _ _ _ _ _ (s₁.setTop (mkF m 9 #[.val (.ref a1), .val (.int (3 : Int32)), .val (.int (2 : Int32))] [(.ref a1)]))
      refine OutW.back (fun t k => XS.iloadN X0.here hx rfl (hb hby d1_9) rfl  k) ?_
      show OutW _ _ _ _ _ _ _ (s₁.setTop (mkF m 10 #[.val (.ref a1), .val (.int (3 : Int32)), .val (.int (2 : Int32))] [(.int (3 : Int32)), (.ref a1)]))
      refine OutW.back (fun t k => XS.iloadN X0.here hx rfl (hb hby d1_10) rfl  k) ?_
      show OutW _ _ _ _ _ _ _ (s₁.setTop (mkF m 11 #[.val (.ref a1), .val (.int (3 : Int32)), .val (.int (2 : Int32))] [(.int (2 : Int32)), (.int (3 : Int32)), (.ref a1)]))
      refine OutW.back (fun t k => XS.iadd X0.here hx rfl (hb hby d1_11) rfl k) ?_
      show OutW _ _ _ _ _ _ _ (s₁.setTop (mkF m 12 #[.val (.ref a1), .val (.int (3 : Int32)), .val (.int (2 : Int32))] [(.int ((3 : Int32) + (2 : Int32))), (.ref a1)]))
      rw [show ((3 : Int32) + (2 : Int32)) = (5 : Int32) from by decide]
      obtain ⟨cl5, Ar5, Qk5, Sz5, Nn5, Hh5, Gg5⟩ := id V_a1
      have hin5 : ¬ ((5 : Int32) < 0 ∨ cl5.slots.size ≤ ((5 : Int32)).toNatClampNeg) := inb_of Sz5 ⟨by decide, by decide⟩
      refine OutW.back (X0.baloadBytes hx (j := (5 : Int32)) (v := (.int w5)) (by rw [e0]; exact Ar5.1) (State.isArrayOf_alike hZ.alike Ar5.2.1) Ar5.2.2 hin5 (Hh5.at hin5 (by rfl)) (g := (mkF m 12 #[.val (.ref a1), .val (.int (3 : Int32)), .val (.int (2 : Int32))] [(.int (5 : Int32)), (.ref a1)])) rfl rfl (hb hby d1_12)) ?_
      show OutW _ _ _ _ _ _ _ (s₁.setTop (mkF m 13 #[.val (.ref a1), .val (.int (3 : Int32)), .val (.int (2 : Int32))] [(.int w5)]))
      by_cases c13_6 : w5 = (0 : Int32)
      · skip
        refine OutW.back (fun t k => XS.ifYes X0.here hx rfl (pc0 := 13) (pc' := 18) rfl (hb hby d1_13) rfl ((if0 _ _).trans (teq c13_6).1) (by decide) (by decide) k) ?_
        show OutW _ _ _ _ _ _ _ (s₁.setTop (mkF m 18 #[.val (.ref a1), .val (.int (3 : Int32)), .val (.int (2 : Int32))] []))
        refine OutW.back (fun t k => XS.iinc X0.here hx rfl (hb hby d1_18) rfl (l' := #[.val (.ref a1), .val (.int (3 : Int32)), .val (.int ((2 : Int32) + (1 : Int32)))]) rfl k) ?_
        show OutW _ _ _ _ _ _ _ (s₁.setTop (mkF m 21 #[.val (.ref a1), .val (.int (3 : Int32)), .val (.int ((2 : Int32) + (1 : Int32)))] []))
        rw [show ((2 : Int32) + (1 : Int32)) = (3 : Int32) from by decide]
        refine OutW.back (fun t k => XS.goto X0.here hx rfl (pc0 := 21) (pc' := 2) rfl (hb hby d1_21) (by decide) (by decide) k) ?_
        show OutW _ _ _ _ _ _ _ (s₁.setTop (mkF m 2 #[.val (.ref a1), .val (.int (3 : Int32)), .val (.int (3 : Int32))] []))
        refine OutW.back (fun t k => XS.iloadN X0.here hx rfl (hb hby d1_2) rfl  k) ?_
        show OutW _ _ _ _ _ _ _ (s₁.setTop (mkF m 3 #[.val (.ref a1), .val (.int (3 : Int32)), .val (.int (3 : Int32))] [(.int (3 : Int32))]))
        refine OutW.back (fun t k => XS.bipush X0.here hx rfl (hb hby d1_3) k) ?_
        show OutW _ _ _ _ _ _ _ (s₁.setTop (mkF m 5 #[.val (.ref a1), .val (.int (3 : Int32)), .val (.int (3 : Int32))] [(.int (7 : Int32)), (.int (3 : Int32))]))
        refine OutW.back (fun t k => XS.icmpNo X0.here hx rfl (hb hby d1_5) rfl (tlt (by decide : (3 : Int32) < (7 : Int32))).2.1 k) ?_
        show OutW _ _ _ _ _ _ _ (s₁.setTop (mkF m 8 #[.val (.ref a1), .val (.int (3 : Int32)), .val (.int (3 : Int32))] []))
        refine OutW.back (fun t k => XS.aloadN X0.here hx rfl (hb hby d1_8) rfl rfl  k) ?_
        show OutW _ _ _ _ _ _ _ (s₁.setTop (mkF m 9 #[.val (.ref a1), .val (.int (3 : Int32)), .val (.int (3 : Int32))] [(.ref a1)]))
        refine OutW.back (fun t k => XS.iloadN X0.here hx rfl (hb hby d1_9) rfl  k) ?_
        show OutW _ _ _ _ _ _ _ (s₁.setTop (mkF m 10 #[.val (.ref a1), .val (.int (3 : Int32)), .val (.int (3 : Int32))] [(.int (3 : Int32)), (.ref a1)]))
        refine OutW.back (fun t k => XS.iloadN X0.here hx rfl (hb hby d1_10) rfl  k) ?_
        show OutW _ _ _ _ _ _ _ (s₁.setTop (mkF m 11 #[.val (.ref a1), .val (.int (3 : Int32)), .val (.int (3 : Int32))] [(.int (3 : Int32)), (.int (3 : Int32)), (.ref a1)]))
        refine OutW.back (fun t k => XS.iadd X0.here hx rfl (hb hby d1_11) rfl k) ?_
        show OutW _ _ _ _ _ _ _ (s₁.setTop (mkF m 12 #[.val (.ref a1), .val (.int (3 : Int32)), .val (.int (3 : Int32))] [(.int ((3 : Int32) + (3 : Int32))), (.ref a1)]))
        rw [show ((3 : Int32) + (3 : Int32)) = (6 : Int32) from by decide]
        obtain ⟨cl7, Ar7, Qk7, Sz7, Nn7, Hh7, Gg7⟩ := id V_a1
        have hin7 : ¬ ((6 : Int32) < 0 ∨ cl7.slots.size ≤ ((6 : Int32)).toNatClampNeg) := inb_of Sz7 ⟨by decide, by decide⟩
        refine OutW.back (X0.baloadBytes hx (j := (6 : Int32)) (v := (.int w6)) (by rw [e0]; exact Ar7.1) (State.isArrayOf_alike hZ.alike Ar7.2.1) Ar7.2.2 hin7 (Hh7.at hin7 (by rfl)) (g := (mkF m 12 #[.val (.ref a1), .val (.int (3 : Int32)), .val (.int (3 : Int32))] [(.int (6 : Int32)), (.ref a1)])) rfl rfl (hb hby d1_12)) ?_
        show OutW _ _ _ _ _ _ _ (s₁.setTop (mkF m 13 #[.val (.ref a1), .val (.int (3 : Int32)), .val (.int (3 : Int32))] [(.int w6)]))
        by_cases c13_8 : w6 = (0 : Int32)
        · skip
          refine OutW.back (fun t k => XS.ifYes X0.here hx rfl (pc0 := 13) (pc' := 18) rfl (hb hby d1_13) rfl ((if0 _ _).trans (teq c13_8).1) (by decide) (by decide) k) ?_
          show OutW _ _ _ _ _ _ _ (s₁.setTop (mkF m 18 #[.val (.ref a1), .val (.int (3 : Int32)), .val (.int (3 : Int32))] []))
          refine OutW.back (fun t k => XS.iinc X0.here hx rfl (hb hby d1_18) rfl (l' := #[.val (.ref a1), .val (.int (3 : Int32)), .val (.int ((3 : Int32) + (1 : Int32)))]) rfl k) ?_
          show OutW _ _ _ _ _ _ _ (s₁.setTop (mkF m 21 #[.val (.ref a1), .val (.int (3 : Int32)), .val (.int ((3 : Int32) + (1 : Int32)))] []))
          rw [show ((3 : Int32) + (1 : Int32)) = (4 : Int32) from by decide]
          refine OutW.back (fun t k => XS.goto X0.here hx rfl (pc0 := 21) (pc' := 2) rfl (hb hby d1_21) (by decide) (by decide) k) ?_
          show OutW _ _ _ _ _ _ _ (s₁.setTop (mkF m 2 #[.val (.ref a1), .val (.int (3 : Int32)), .val (.int (4 : Int32))] []))
          refine OutW.back (fun t k => XS.iloadN X0.here hx rfl (hb hby d1_2) rfl  k) ?_
          show OutW _ _ _ _ _ _ _ (s₁.setTop (mkF m 3 #[.val (.ref a1), .val (.int (3 : Int32)), .val (.int (4 : Int32))] [(.int (4 : Int32))]))
          refine OutW.back (fun t k => XS.bipush X0.here hx rfl (hb hby d1_3) k) ?_
          show OutW _ _ _ _ _ _ _ (s₁.setTop (mkF m 5 #[.val (.ref a1), .val (.int (3 : Int32)), .val (.int (4 : Int32))] [(.int (7 : Int32)), (.int (4 : Int32))]))
          refine OutW.back (fun t k => XS.icmpNo X0.here hx rfl (hb hby d1_5) rfl (tlt (by decide : (4 : Int32) < (7 : Int32))).2.1 k) ?_
          show OutW _ _ _ _ _ _ _ (s₁.setTop (mkF m 8 #[.val (.ref a1), .val (.int (3 : Int32)), .val (.int (4 : Int32))] []))
          refine OutW.back (fun t k => XS.aloadN X0.here hx rfl (hb hby d1_8) rfl rfl  k) ?_
          show OutW _ _ _ _ _ _ _ (s₁.setTop (mkF m 9 #[.val (.ref a1), .val (.int (3 : Int32)), .val (.int (4 : Int32))] [(.ref a1)]))
          refine OutW.back (fun t k => XS.iloadN X0.here hx rfl (hb hby d1_9) rfl  k) ?_
          show OutW _ _ _ _ _ _ _ (s₁.setTop (mkF m 10 #[.val (.ref a1), .val (.int (3 : Int32)), .val (.int (4 : Int32))] [(.int (3 : Int32)), (.ref a1)]))
          refine OutW.back (fun t k => XS.iloadN X0.here hx rfl (hb hby d1_10) rfl  k) ?_
          show OutW _ _ _ _ _ _ _ (s₁.setTop (mkF m 11 #[.val (.ref a1), .val (.int (3 : Int32)), .val (.int (4 : Int32))] [(.int (4 : Int32)), (.int (3 : Int32)), (.ref a1)]))
          refine OutW.back (fun t k => XS.iadd X0.here hx rfl (hb hby d1_11) rfl k) ?_
          show OutW _ _ _ _ _ _ _ (s₁.setTop (mkF m 12 #[.val (.ref a1), .val (.int (3 : Int32)), .val (.int (4 : Int32))] [(.int ((3 : Int32) + (4 : Int32))), (.ref a1)]))
          rw [show ((3 : Int32) + (4 : Int32)) = (7 : Int32) from by decide]
          obtain ⟨cl9, Ar9, Qk9, Sz9, Nn9, Hh9, Gg9⟩ := id V_a1
          have hin9 : ¬ ((7 : Int32) < 0 ∨ cl9.slots.size ≤ ((7 : Int32)).toNatClampNeg) := inb_of Sz9 ⟨by decide, by decide⟩
          refine OutW.back (X0.baloadBytes hx (j := (7 : Int32)) (v := (.int w7)) (by rw [e0]; exact Ar9.1) (State.isArrayOf_alike hZ.alike Ar9.2.1) Ar9.2.2 hin9 (Hh9.at hin9 (by rfl)) (g := (mkF m 12 #[.val (.ref a1), .val (.int (3 : Int32)), .val (.int (4 : Int32))] [(.int (7 : Int32)), (.ref a1)])) rfl rfl (hb hby d1_12)) ?_
          show OutW _ _ _ _ _ _ _ (s₁.setTop (mkF m 13 #[.val (.ref a1), .val (.int (3 : Int32)), .val (.int (4 : Int32))] [(.int w7)]))
          by_cases c13_10 : w7 = (0 : Int32)
          · skip
            refine OutW.back (fun t k => XS.ifYes X0.here hx rfl (pc0 := 13) (pc' := 18) rfl (hb hby d1_13) rfl ((if0 _ _).trans (teq c13_10).1) (by decide) (by decide) k) ?_
            show OutW _ _ _ _ _ _ _ (s₁.setTop (mkF m 18 #[.val (.ref a1), .val (.int (3 : Int32)), .val (.int (4 : Int32))] []))
            refine OutW.back (fun t k => XS.iinc X0.here hx rfl (hb hby d1_18) rfl (l' := #[.val (.ref a1), .val (.int (3 : Int32)), .val (.int ((4 : Int32) + (1 : Int32)))]) rfl k) ?_
            show OutW _ _ _ _ _ _ _ (s₁.setTop (mkF m 21 #[.val (.ref a1), .val (.int (3 : Int32)), .val (.int ((4 : Int32) + (1 : Int32)))] []))
            rw [show ((4 : Int32) + (1 : Int32)) = (5 : Int32) from by decide]
            refine OutW.back (fun t k => XS.goto X0.here hx rfl (pc0 := 21) (pc' := 2) rfl (hb hby d1_21) (by decide) (by decide) k) ?_
            show OutW _ _ _ _ _ _ _ (s₁.setTop (mkF m 2 #[.val (.ref a1), .val (.int (3 : Int32)), .val (.int (5 : Int32))] []))
            refine OutW.back (fun t k => XS.iloadN X0.here hx rfl (hb hby d1_2) rfl  k) ?_
            show OutW _ _ _ _ _ _ _ (s₁.setTop (mkF m 3 #[.val (.ref a1), .val (.int (3 : Int32)), .val (.int (5 : Int32))] [(.int (5 : Int32))]))
            refine OutW.back (fun t k => XS.bipush X0.here hx rfl (hb hby d1_3) k) ?_
            show OutW _ _ _ _ _ _ _ (s₁.setTop (mkF m 5 #[.val (.ref a1), .val (.int (3 : Int32)), .val (.int (5 : Int32))] [(.int (7 : Int32)), (.int (5 : Int32))]))
            refine OutW.back (fun t k => XS.icmpNo X0.here hx rfl (hb hby d1_5) rfl (tlt (by decide : (5 : Int32) < (7 : Int32))).2.1 k) ?_
            show OutW _ _ _ _ _ _ _ (s₁.setTop (mkF m 8 #[.val (.ref a1), .val (.int (3 : Int32)), .val (.int (5 : Int32))] []))
            refine OutW.back (fun t k => XS.aloadN X0.here hx rfl (hb hby d1_8) rfl rfl  k) ?_
            show OutW _ _ _ _ _ _ _ (s₁.setTop (mkF m 9 #[.val (.ref a1), .val (.int (3 : Int32)), .val (.int (5 : Int32))] [(.ref a1)]))
            refine OutW.back (fun t k => XS.iloadN X0.here hx rfl (hb hby d1_9) rfl  k) ?_
            show OutW _ _ _ _ _ _ _ (s₁.setTop (mkF m 10 #[.val (.ref a1), .val (.int (3 : Int32)), .val (.int (5 : Int32))] [(.int (3 : Int32)), (.ref a1)]))
            refine OutW.back (fun t k => XS.iloadN X0.here hx rfl (hb hby d1_10) rfl  k) ?_
            show OutW _ _ _ _ _ _ _ (s₁.setTop (mkF m 11 #[.val (.ref a1), .val (.int (3 : Int32)), .val (.int (5 : Int32))] [(.int (5 : Int32)), (.int (3 : Int32)), (.ref a1)]))
            refine OutW.back (fun t k => XS.iadd X0.here hx rfl (hb hby d1_11) rfl k) ?_
            show OutW _ _ _ _ _ _ _ (s₁.setTop (mkF m 12 #[.val (.ref a1), .val (.int (3 : Int32)), .val (.int (5 : Int32))] [(.int ((3 : Int32) + (5 : Int32))), (.ref a1)]))
            rw [show ((3 : Int32) + (5 : Int32)) = (8 : Int32) from by decide]
            obtain ⟨cl11, Ar11, Qk11, Sz11, Nn11, Hh11, Gg11⟩ := id V_a1
            have hin11 : ¬ ((8 : Int32) < 0 ∨ cl11.slots.size ≤ ((8 : Int32)).toNatClampNeg) := inb_of Sz11 ⟨by decide, by decide⟩
            refine OutW.back (X0.baloadBytes hx (j := (8 : Int32)) (v := (.int w8)) (by rw [e0]; exact Ar11.1) (State.isArrayOf_alike hZ.alike Ar11.2.1) Ar11.2.2 hin11 (Hh11.at hin11 (by rfl)) (g := (mkF m 12 #[.val (.ref a1), .val (.int (3 : Int32)), .val (.int (5 : Int32))] [(.int (8 : Int32)), (.ref a1)])) rfl rfl (hb hby d1_12)) ?_
            show OutW _ _ _ _ _ _ _ (s₁.setTop (mkF m 13 #[.val (.ref a1), .val (.int (3 : Int32)), .val (.int (5 : Int32))] [(.int w8)]))
            by_cases c13_12 : w8 = (0 : Int32)
            · skip
              refine OutW.back (fun t k => XS.ifYes X0.here hx rfl (pc0 := 13) (pc' := 18) rfl (hb hby d1_13) rfl ((if0 _ _).trans (teq c13_12).1) (by decide) (by decide) k) ?_
              show OutW _ _ _ _ _ _ _ (s₁.setTop (mkF m 18 #[.val (.ref a1), .val (.int (3 : Int32)), .val (.int (5 : Int32))] []))
              refine OutW.back (fun t k => XS.iinc X0.here hx rfl (hb hby d1_18) rfl (l' := #[.val (.ref a1), .val (.int (3 : Int32)), .val (.int ((5 : Int32) + (1 : Int32)))]) rfl k) ?_
              show OutW _ _ _ _ _ _ _ (s₁.setTop (mkF m 21 #[.val (.ref a1), .val (.int (3 : Int32)), .val (.int ((5 : Int32) + (1 : Int32)))] []))
              rw [show ((5 : Int32) + (1 : Int32)) = (6 : Int32) from by decide]
              refine OutW.back (fun t k => XS.goto X0.here hx rfl (pc0 := 21) (pc' := 2) rfl (hb hby d1_21) (by decide) (by decide) k) ?_
              show OutW _ _ _ _ _ _ _ (s₁.setTop (mkF m 2 #[.val (.ref a1), .val (.int (3 : Int32)), .val (.int (6 : Int32))] []))
              refine OutW.back (fun t k => XS.iloadN X0.here hx rfl (hb hby d1_2) rfl  k) ?_
              show OutW _ _ _ _ _ _ _ (s₁.setTop (mkF m 3 #[.val (.ref a1), .val (.int (3 : Int32)), .val (.int (6 : Int32))] [(.int (6 : Int32))]))
              refine OutW.back (fun t k => XS.bipush X0.here hx rfl (hb hby d1_3) k) ?_
              show OutW _ _ _ _ _ _ _ (s₁.setTop (mkF m 5 #[.val (.ref a1), .val (.int (3 : Int32)), .val (.int (6 : Int32))] [(.int (7 : Int32)), (.int (6 : Int32))]))
              refine OutW.back (fun t k => XS.icmpNo X0.here hx rfl (hb hby d1_5) rfl (tlt (by decide : (6 : Int32) < (7 : Int32))).2.1 k) ?_
              show OutW _ _ _ _ _ _ _ (s₁.setTop (mkF m 8 #[.val (.ref a1), .val (.int (3 : Int32)), .val (.int (6 : Int32))] []))
              refine OutW.back (fun t k => XS.aloadN X0.here hx rfl (hb hby d1_8) rfl rfl  k) ?_
              show OutW _ _ _ _ _ _ _ (s₁.setTop (mkF m 9 #[.val (.ref a1), .val (.int (3 : Int32)), .val (.int (6 : Int32))] [(.ref a1)]))
              refine OutW.back (fun t k => XS.iloadN X0.here hx rfl (hb hby d1_9) rfl  k) ?_
              show OutW _ _ _ _ _ _ _ (s₁.setTop (mkF m 10 #[.val (.ref a1), .val (.int (3 : Int32)), .val (.int (6 : Int32))] [(.int (3 : Int32)), (.ref a1)]))
              refine OutW.back (fun t k => XS.iloadN X0.here hx rfl (hb hby d1_10) rfl  k) ?_
              show OutW _ _ _ _ _ _ _ (s₁.setTop (mkF m 11 #[.val (.ref a1), .val (.int (3 : Int32)), .val (.int (6 : Int32))] [(.int (6 : Int32)), (.int (3 : Int32)), (.ref a1)]))
              refine OutW.back (fun t k => XS.iadd X0.here hx rfl (hb hby d1_11) rfl k) ?_
              show OutW _ _ _ _ _ _ _ (s₁.setTop (mkF m 12 #[.val (.ref a1), .val (.int (3 : Int32)), .val (.int (6 : Int32))] [(.int ((3 : Int32) + (6 : Int32))), (.ref a1)]))
              rw [show ((3 : Int32) + (6 : Int32)) = (9 : Int32) from by decide]
              obtain ⟨cl13, Ar13, Qk13, Sz13, Nn13, Hh13, Gg13⟩ := id V_a1
              have hin13 : ¬ ((9 : Int32) < 0 ∨ cl13.slots.size ≤ ((9 : Int32)).toNatClampNeg) := inb_of Sz13 ⟨by decide, by decide⟩
              refine OutW.back (X0.baloadBytes hx (j := (9 : Int32)) (v := (.int w9)) (by rw [e0]; exact Ar13.1) (State.isArrayOf_alike hZ.alike Ar13.2.1) Ar13.2.2 hin13 (Hh13.at hin13 (by rfl)) (g := (mkF m 12 #[.val (.ref a1), .val (.int (3 : Int32)), .val (.int (6 : Int32))] [(.int (9 : Int32)), (.ref a1)])) rfl rfl (hb hby d1_12)) ?_
              show OutW _ _ _ _ _ _ _ (s₁.setTop (mkF m 13 #[.val (.ref a1), .val (.int (3 : Int32)), .val (.int (6 : Int32))] [(.int w9)]))
              by_cases c13_14 : w9 = (0 : Int32)
              · skip
                refine OutW.back (fun t k => XS.ifYes X0.here hx rfl (pc0 := 13) (pc' := 18) rfl (hb hby d1_13) rfl ((if0 _ _).trans (teq c13_14).1) (by decide) (by decide) k) ?_
                show OutW _ _ _ _ _ _ _ (s₁.setTop (mkF m 18 #[.val (.ref a1), .val (.int (3 : Int32)), .val (.int (6 : Int32))] []))
                refine OutW.back (fun t k => XS.iinc X0.here hx rfl (hb hby d1_18) rfl (l' := #[.val (.ref a1), .val (.int (3 : Int32)), .val (.int ((6 : Int32) + (1 : Int32)))]) rfl k) ?_
                show OutW _ _ _ _ _ _ _ (s₁.setTop (mkF m 21 #[.val (.ref a1), .val (.int (3 : Int32)), .val (.int ((6 : Int32) + (1 : Int32)))] []))
                rw [show ((6 : Int32) + (1 : Int32)) = (7 : Int32) from by decide]
                refine OutW.back (fun t k => XS.goto X0.here hx rfl (pc0 := 21) (pc' := 2) rfl (hb hby d1_21) (by decide) (by decide) k) ?_
                show OutW _ _ _ _ _ _ _ (s₁.setTop (mkF m 2 #[.val (.ref a1), .val (.int (3 : Int32)), .val (.int (7 : Int32))] []))
                refine OutW.back (fun t k => XS.iloadN X0.here hx rfl (hb hby d1_2) rfl  k) ?_
                show OutW _ _ _ _ _ _ _ (s₁.setTop (mkF m 3 #[.val (.ref a1), .val (.int (3 : Int32)), .val (.int (7 : Int32))] [(.int (7 : Int32))]))
                refine OutW.back (fun t k => XS.bipush X0.here hx rfl (hb hby d1_3) k) ?_
                show OutW _ _ _ _ _ _ _ (s₁.setTop (mkF m 5 #[.val (.ref a1), .val (.int (3 : Int32)), .val (.int (7 : Int32))] [(.int (7 : Int32)), (.int (7 : Int32))]))
                refine OutW.back (fun t k => XS.icmpYes X0.here hx rfl (pc0 := 5) (pc' := 24) rfl (hb hby d1_5) rfl (flt (by decide : ¬ ((7 : Int32) < (7 : Int32)))).2.1 (by decide) (by decide) k) ?_
                show OutW _ _ _ _ _ _ _ (s₁.setTop (mkF m 24 #[.val (.ref a1), .val (.int (3 : Int32)), .val (.int (7 : Int32))] []))
                refine OutW.back (fun t k => XS.aloadN X0.here hx rfl (hb hby d1_24) rfl rfl  k) ?_
                show OutW _ _ _ _ _ _ _ (s₁.setTop (mkF m 25 #[.val (.ref a1), .val (.int (3 : Int32)), .val (.int (7 : Int32))] [(.ref a1)]))
                refine OutW.back (fun t k => XS.iloadN X0.here hx rfl (hb hby d1_25) rfl  k) ?_
                show OutW _ _ _ _ _ _ _ (s₁.setTop (mkF m 26 #[.val (.ref a1), .val (.int (3 : Int32)), .val (.int (7 : Int32))] [(.int (3 : Int32)), (.ref a1)]))
                refine OutW.back (fun t k => XS.bipush X0.here hx rfl (hb hby d1_26) k) ?_
                show OutW _ _ _ _ _ _ _ (s₁.setTop (mkF m 28 #[.val (.ref a1), .val (.int (3 : Int32)), .val (.int (7 : Int32))] [(.int (8 : Int32)), (.int (3 : Int32)), (.ref a1)]))
                refine OutW.back (fun t k => XS.iadd X0.here hx rfl (hb hby d1_28) rfl k) ?_
                show OutW _ _ _ _ _ _ _ (s₁.setTop (mkF m 29 #[.val (.ref a1), .val (.int (3 : Int32)), .val (.int (7 : Int32))] [(.int ((3 : Int32) + (8 : Int32))), (.ref a1)]))
                rw [show ((3 : Int32) + (8 : Int32)) = (11 : Int32) from by decide]
                refine OutW.back (fun t k => XS.iconst X0.here hx rfl (hb hby d1_29) k) ?_
                show OutW _ _ _ _ _ _ _ (s₁.setTop (mkF m 30 #[.val (.ref a1), .val (.int (3 : Int32)), .val (.int (7 : Int32))] [(.int (1 : Int32)), (.int (11 : Int32)), (.ref a1)]))
                refine OutW.back (fun t k => XS.isub X0.here hx rfl (hb hby d1_30) rfl k) ?_
                show OutW _ _ _ _ _ _ _ (s₁.setTop (mkF m 31 #[.val (.ref a1), .val (.int (3 : Int32)), .val (.int (7 : Int32))] [(.int ((11 : Int32) - (1 : Int32))), (.ref a1)]))
                rw [show ((11 : Int32) - (1 : Int32)) = (10 : Int32) from by decide]
                obtain ⟨cl15, Ar15, Qk15, Sz15, Nn15, Hh15, Gg15⟩ := id V_a1
                have hin15 : ¬ ((10 : Int32) < 0 ∨ cl15.slots.size ≤ ((10 : Int32)).toNatClampNeg) := inb_of Sz15 ⟨by decide, by decide⟩
                refine OutW.back (X0.baloadBytes hx (j := (10 : Int32)) (v := (.int w10)) (by rw [e0]; exact Ar15.1) (State.isArrayOf_alike hZ.alike Ar15.2.1) Ar15.2.2 hin15 (Hh15.at hin15 (by rfl)) (g := (mkF m 31 #[.val (.ref a1), .val (.int (3 : Int32)), .val (.int (7 : Int32))] [(.int (10 : Int32)), (.ref a1)])) rfl rfl (hb hby d1_31)) ?_
                show OutW _ _ _ _ _ _ _ (s₁.setTop (mkF m 32 #[.val (.ref a1), .val (.int (3 : Int32)), .val (.int (7 : Int32))] [(.int w10)]))
                refine OutW.back (fun t k => XS.bipush X0.here hx rfl (hb hby d1_32) k) ?_
                show OutW _ _ _ _ _ _ _ (s₁.setTop (mkF m 34 #[.val (.ref a1), .val (.int (3 : Int32)), .val (.int (7 : Int32))] [(.int (-128 : Int32)), (.int w10)]))
                by_cases c34_16 : w10 = (-128 : Int32)
                · skip
                  refine OutW.back (fun t k => XS.icmpNo X0.here hx rfl (hb hby d1_34) rfl (teq c34_16).2 k) ?_
                  show OutW _ _ _ _ _ _ _ (s₁.setTop (mkF m 37 #[.val (.ref a1), .val (.int (3 : Int32)), .val (.int (7 : Int32))] []))
                  refine OutW.back (fun t k => XS.iconst X0.here hx rfl (hb hby d1_37) k) ?_
                  show OutW _ _ _ _ _ _ _ (s₁.setTop (mkF m 38 #[.val (.ref a1), .val (.int (3 : Int32)), .val (.int (7 : Int32))] [(.int (1 : Int32))]))
                  refine OutW.back (fun t k => XS.goto X0.here hx rfl (pc0 := 38) (pc' := 42) rfl (hb hby d1_38) (by decide) (by decide) k) ?_
                  show OutW _ _ _ _ _ _ _ (s₁.setTop (mkF m 42 #[.val (.ref a1), .val (.int (3 : Int32)), .val (.int (7 : Int32))] [(.int (1 : Int32))]))
                  refine OutW.retN X0 hx (t := .boolean) (z' := (1 : Int32)) Bd.returns (by simp) hlk (hb hby d1_42) ?hz (by decide) (by decide) ?_
                  case hz =>
                    rfl
                  show Q1_3 Z a1 w0 w1 w2 w3 w4 w5 w6 w7 w8 w9 w10 w11 w12 w13 w14 w15 kk h0 n0 _ s₁.heap _
                  rw [e0]
                  exact ⟨by rw [negz3, if_pos c13_2, if_pos c13_4, if_pos c13_6, if_pos c13_8, if_pos c13_10, if_pos c13_12, if_pos c13_14, if_pos c34_16], N0, rfl⟩
                · skip
                  refine OutW.back (fun t k => XS.icmpYes X0.here hx rfl (pc0 := 34) (pc' := 41) rfl (hb hby d1_34) rfl (feq c34_16).2 (by decide) (by decide) k) ?_
                  show OutW _ _ _ _ _ _ _ (s₁.setTop (mkF m 41 #[.val (.ref a1), .val (.int (3 : Int32)), .val (.int (7 : Int32))] []))
                  refine OutW.back (fun t k => XS.iconst X0.here hx rfl (hb hby d1_41) k) ?_
                  show OutW _ _ _ _ _ _ _ (s₁.setTop (mkF m 42 #[.val (.ref a1), .val (.int (3 : Int32)), .val (.int (7 : Int32))] [(.int (0 : Int32))]))
                  refine OutW.retN X0 hx (t := .boolean) (z' := (0 : Int32)) Bd.returns (by simp) hlk (hb hby d1_42) ?hz (by decide) (by decide) ?_
                  case hz =>
                    rfl
                  show Q1_3 Z a1 w0 w1 w2 w3 w4 w5 w6 w7 w8 w9 w10 w11 w12 w13 w14 w15 kk h0 n0 _ s₁.heap _
                  rw [e0]
                  exact ⟨by rw [negz3, if_pos c13_2, if_pos c13_4, if_pos c13_6, if_pos c13_8, if_pos c13_10, if_pos c13_12, if_pos c13_14, if_neg c34_16], N0, rfl⟩
              · skip
                refine OutW.back (fun t k => XS.ifNo X0.here hx rfl (hb hby d1_13) rfl ((if0 _ _).trans (feq c13_14).1) k) ?_
                show OutW _ _ _ _ _ _ _ (s₁.setTop (mkF m 16 #[.val (.ref a1), .val (.int (3 : Int32)), .val (.int (6 : Int32))] []))
                refine OutW.back (fun t k => XS.iconst X0.here hx rfl (hb hby d1_16) k) ?_
                show OutW _ _ _ _ _ _ _ (s₁.setTop (mkF m 17 #[.val (.ref a1), .val (.int (3 : Int32)), .val (.int (6 : Int32))] [(.int (0 : Int32))]))
                refine OutW.retN X0 hx (t := .boolean) (z' := (0 : Int32)) Bd.returns (by simp) hlk (hb hby d1_17) ?hz (by decide) (by decide) ?_
                case hz =>
                  rfl
                show Q1_3 Z a1 w0 w1 w2 w3 w4 w5 w6 w7 w8 w9 w10 w11 w12 w13 w14 w15 kk h0 n0 _ s₁.heap _
                rw [e0]
                exact ⟨by rw [negz3, if_pos c13_2, if_pos c13_4, if_pos c13_6, if_pos c13_8, if_pos c13_10, if_pos c13_12, if_neg c13_14], N0, rfl⟩
            · skip
              refine OutW.back (fun t k => XS.ifNo X0.here hx rfl (hb hby d1_13) rfl ((if0 _ _).trans (feq c13_12).1) k) ?_
              show OutW _ _ _ _ _ _ _ (s₁.setTop (mkF m 16 #[.val (.ref a1), .val (.int (3 : Int32)), .val (.int (5 : Int32))] []))
              refine OutW.back (fun t k => XS.iconst X0.here hx rfl (hb hby d1_16) k) ?_
              show OutW _ _ _ _ _ _ _ (s₁.setTop (mkF m 17 #[.val (.ref a1), .val (.int (3 : Int32)), .val (.int (5 : Int32))] [(.int (0 : Int32))]))
              refine OutW.retN X0 hx (t := .boolean) (z' := (0 : Int32)) Bd.returns (by simp) hlk (hb hby d1_17) ?hz (by decide) (by decide) ?_
              case hz =>
                rfl
              show Q1_3 Z a1 w0 w1 w2 w3 w4 w5 w6 w7 w8 w9 w10 w11 w12 w13 w14 w15 kk h0 n0 _ s₁.heap _
              rw [e0]
              exact ⟨by rw [negz3, if_pos c13_2, if_pos c13_4, if_pos c13_6, if_pos c13_8, if_pos c13_10, if_neg c13_12], N0, rfl⟩
          · skip
            refine OutW.back (fun t k => XS.ifNo X0.here hx rfl (hb hby d1_13) rfl ((if0 _ _).trans (feq c13_10).1) k) ?_
            show OutW _ _ _ _ _ _ _ (s₁.setTop (mkF m 16 #[.val (.ref a1), .val (.int (3 : Int32)), .val (.int (4 : Int32))] []))
            refine OutW.back (fun t k => XS.iconst X0.here hx rfl (hb hby d1_16) k) ?_
            show OutW _ _ _ _ _ _ _ (s₁.setTop (mkF m 17 #[.val (.ref a1), .val (.int (3 : Int32)), .val (.int (4 : Int32))] [(.int (0 : Int32))]))
            refine OutW.retN X0 hx (t := .boolean) (z' := (0 : Int32)) Bd.returns (by simp) hlk (hb hby d1_17) ?hz (by decide) (by decide) ?_
            case hz =>
              rfl
            show Q1_3 Z a1 w0 w1 w2 w3 w4 w5 w6 w7 w8 w9 w10 w11 w12 w13 w14 w15 kk h0 n0 _ s₁.heap _
            rw [e0]
            exact ⟨by rw [negz3, if_pos c13_2, if_pos c13_4, if_pos c13_6, if_pos c13_8, if_neg c13_10], N0, rfl⟩
        · skip
          refine OutW.back (fun t k => XS.ifNo X0.here hx rfl (hb hby d1_13) rfl ((if0 _ _).trans (feq c13_8).1) k) ?_
          show OutW _ _ _ _ _ _ _ (s₁.setTop (mkF m 16 #[.val (.ref a1), .val (.int (3 : Int32)), .val (.int (3 : Int32))] []))
          refine OutW.back (fun t k => XS.iconst X0.here hx rfl (hb hby d1_16) k) ?_
          show OutW _ _ _ _ _ _ _ (s₁.setTop (mkF m 17 #[.val (.ref a1), .val (.int (3 : Int32)), .val (.int (3 : Int32))] [(.int (0 : Int32))]))
          refine OutW.retN X0 hx (t := .boolean) (z' := (0 : Int32)) Bd.returns (by simp) hlk (hb hby d1_17) ?hz (by decide) (by decide) ?_
          case hz =>
            rfl
          show Q1_3 Z a1 w0 w1 w2 w3 w4 w5 w6 w7 w8 w9 w10 w11 w12 w13 w14 w15 kk h0 n0 _ s₁.heap _
          rw [e0]
          exact ⟨by rw [negz3, if_pos c13_2, if_pos c13_4, if_pos c13_6, if_neg c13_8], N0, rfl⟩
      · skip
        refine OutW.back (fun t k => XS.ifNo X0.here hx rfl (hb hby d1_13) rfl ((if0 _ _).trans (feq c13_6).1) k) ?_
        show OutW _ _ _ _ _ _ _ (s₁.setTop (mkF m 16 #[.val (.ref a1), .val (.int (3 : Int32)), .val (.int (2 : Int32))] []))
        refine OutW.back (fun t k => XS.iconst X0.here hx rfl (hb hby d1_16) k) ?_
        show OutW _ _ _ _ _ _ _ (s₁.setTop (mkF m 17 #[.val (.ref a1), .val (.int (3 : Int32)), .val (.int (2 : Int32))] [(.int (0 : Int32))]))
        refine OutW.retN X0 hx (t := .boolean) (z' := (0 : Int32)) Bd.returns (by simp) hlk (hb hby d1_17) ?hz (by decide) (by decide) ?_
        case hz =>
          rfl
        show Q1_3 Z a1 w0 w1 w2 w3 w4 w5 w6 w7 w8 w9 w10 w11 w12 w13 w14 w15 kk h0 n0 _ s₁.heap _
        rw [e0]
        exact ⟨by rw [negz3, if_pos c13_2, if_pos c13_4, if_neg c13_6], N0, rfl⟩
    · skip
      refine OutW.back (fun t k => XS.ifNo X0.here hx rfl (hb hby d1_13) rfl ((if0 _ _).trans (feq c13_4).1) k) ?_
      show OutW _ _ _ _ _ _ _ (s₁.setTop (mkF m 16 #[.val (.ref a1), .val (.int (3 : Int32)), .val (.int (1 : Int32))] []))
      refine OutW.back (fun t k => XS.iconst X0.here hx rfl (hb hby d1_16) k) ?_
      show OutW _ _ _ _ _ _ _ (s₁.setTop (mkF m 17 #[.val (.ref a1), .val (.int (3 : Int32)), .val (.int (1 : Int32))] [(.int (0 : Int32))]))
      refine OutW.retN X0 hx (t := .boolean) (z' := (0 : Int32)) Bd.returns (by simp) hlk (hb hby d1_17) ?hz (by decide) (by decide) ?_
      case hz =>
        rfl
      show Q1_3 Z a1 w0 w1 w2 w3 w4 w5 w6 w7 w8 w9 w10 w11 w12 w13 w14 w15 kk h0 n0 _ s₁.heap _
      rw [e0]
      exact ⟨by rw [negz3, if_pos c13_2, if_neg c13_4], N0, rfl⟩
  · skip
    refine OutW.back (fun t k => XS.ifNo X0.here hx rfl (hb hby d1_13) rfl ((if0 _ _).trans (feq c13_2).1) k) ?_
    show OutW _ _ _ _ _ _ _ (s₁.setTop (mkF m 16 #[.val (.ref a1), .val (.int (3 : Int32)), .val (.int (0 : Int32))] []))
    refine OutW.back (fun t k => XS.iconst X0.here hx rfl (hb hby d1_16) k) ?_
    show OutW _ _ _ _ _ _ _ (s₁.setTop (mkF m 17 #[.val (.ref a1), .val (.int (3 : Int32)), .val (.int (0 : Int32))] [(.int (0 : Int32))]))
    refine OutW.retN X0 hx (t := .boolean) (z' := (0 : Int32)) Bd.returns (by simp) hlk (hb hby d1_17) ?hz (by decide) (by decide) ?_
    case hz =>
      rfl
    show Q1_3 Z a1 w0 w1 w2 w3 w4 w5 w6 w7 w8 w9 w10 w11 w12 w13 w14 w15 kk h0 n0 _ s₁.heap _
    rw [e0]
    exact ⟨by rw [negz3, if_neg c13_2], N0, rfl⟩
def negz4 (w4 : Int32) (w5 : Int32) (w6 : Int32) (w7 : Int32) (w8 : Int32) (w9 : Int32) (w10 : Int32) (w11 : Int32) : Int32 := (if w4 = (0 : Int32) then (if w5 = (0 : Int32) then (if w6 = (0 : Int32) then (if w7 = (0 : Int32) then (if w8 = (0 : Int32) then (if w9 = (0 : Int32) then (if w10 = (0 : Int32) then (if w11 = (-128 : Int32) then (1 : Int32) else (0 : Int32)) else (0 : Int32)) else (0 : Int32)) else (0 : Int32)) else (0 : Int32)) else (0 : Int32)) else (0 : Int32)) else (0 : Int32))
theorem ef_1_4 (m : MethodId) (x0 : Addr) : entryFrame m #[(.ref x0), (.int (4 : Int32))] 3 = mkF m 0 #[.val (.ref x0), .val (.int (4 : Int32)), .unset] [] := by first | (simp [entryFrame, mkF, argsToLocals, Value.category]; done) | rfl
def Q1_4 (Z : State) (a1 : Addr) (w0 : Int32) (w1 : Int32) (w2 : Int32) (w3 : Int32) (w4 : Int32) (w5 : Int32) (w6 : Int32) (w7 : Int32) (w8 : Int32) (w9 : Int32) (w10 : Int32) (w11 : Int32) (w12 : Int32) (w13 : Int32) (w14 : Int32) (w15 : Int32) (kk : ClassId) (h0 : Heap) (n0 : Nat) (v : Option Value) (h : Heap) (L : List Loc) : Prop := v = some (.int (negz4 w4 w5 w6 w7 w8 w9 w10 w11)) ∧ Fr n0 L ∧ h = h0
set_option maxRecDepth 65536 in
set_option maxHeartbeats 40000000 in
theorem rm1_4 (l : Launch) (Z : State) (a0 : Array Value) (hw : ∀ d ∈ tables_1, d.before a0 Z = true) (ws : List Jvm.Cond) (a1 : Addr) (w0 : Int32) (w1 : Int32) (w2 : Int32) (w3 : Int32) (w4 : Int32) (w5 : Int32) (w6 : Int32) (w7 : Int32) (w8 : Int32) (w9 : Int32) (w10 : Int32) (w11 : Int32) (w12 : Int32) (w13 : Int32) (w14 : Int32) (w15 : Int32) (kk : ClassId) (h0 : Heap) (n0 : Nat) (Z0 : n0 ≤ h0.size) (V_a1 : Arv Z h0 a1 kk .byte (16 : Int32) [(.int w0), (.int w1), (.int w2), (.int w3), (.int w4), (.int w5), (.int w6), (.int w7), (.int w8), (.int w9), (.int w10), (.int w11), (.int w12), (.int w13), (.int w14), (.int w15)] (.int (0 : Int32))) :
    MetFree l (⟨"com/example/patchloom/patchloom/delta/SignMagnitude", "isNegativeZero", "([BI)Z"⟩ : MethodName) (head1 (Jvm.Cond.code (⟨"com/example/patchloom/patchloom/delta/SignMagnitude", "isNegativeZero", "([BI)Z"⟩ : MethodName) prog_26_method_3_code 3 (some .boolean) :: ws) ({ frames := 0, cells := 0, slots := 0, locals := 0 } : Room)) (fun a U => a = #[(.ref a1), (.int (4 : Int32))] ∧ Z.Warmed39 U.vm ∧ U.heap = h0) (fun _ _ _ _ _ => True) (fun _ U o U' => ∃ v L, o = .returned v ∧ Q1_4 Z a1 w0 w1 w2 w3 w4 w5 w6 w7 w8 w9 w10 w11 w12 w13 w14 w15 kk h0 n0 v U'.heap L ∧ FrameEnd U o U' L ({ frames := 0, cells := 0, slots := 0, locals := 0 } : Room).cells ({ frames := 0, cells := 0, slots := 0, locals := 0 } : Room).slots) := by
  refine MetFree.of_bodySF (plainFor_of_name pn_1) hisR ?_
  intro p e s m args below meth c s₁ Bd hml0 hP hK
  obtain ⟨rfl, hZ, hh⟩ := hP
  have hx := Bd.exec
  have hby := Bd.bytes
  have hlk := Bd.notSynchronized
  have hml : c.maxLocals = 3 := hml0
  have hown : s.vm.findClass "com/example/patchloom/patchloom/delta/SignMagnitude" = some m.cls := findClass_of_methodNamed Bd.named
  have hnm := (name_of_methodNamed Bd.named Bd.method).1
  have X0 : Stand p l e ({ frames := 0, cells := 0, slots := 0, locals := 0 } : Room) s m #[(.ref a1), (.int (4 : Int32))] below meth c s₁ [] 0 0 := Stand.of_body Bd
  have e0 : s₁.heap = h0 := by rw [← hh, Bd.state]; rfl
  have N0 := Fr.nil n0
  have K0 : Keep h0 h0 [] := Keep.refl h0 _
  show OutW p e below s ({ frames := 0, cells := 0, slots := 0, locals := 0 } : Room).cells ({ frames := 0, cells := 0, slots := 0, locals := 0 } : Room).slots (Q1_4 Z a1 w0 w1 w2 w3 w4 w5 w6 w7 w8 w9 w10 w11 w12 w13 w14 w15 kk h0 n0) _
  refine OutW.back (fun t k => castTop (ef_1_4 m a1) k) ?_
  show OutW _ _ _ _ _ _ _ (s₁.setTop (mkF m 0 #[.val (.ref a1), .val (.int (4 : Int32)), .unset] []))
  refine OutW.back (fun t k => XS.iconst X0.here hx rfl (hb hby d1_0) k) ?_
  show OutW _ _ _ _ _ _ _ (s₁.setTop (mkF m 1 #[.val (.ref a1), .val (.int (4 : Int32)), .unset] [(.int (0 : Int32))]))
  refine OutW.back (fun t k => XS.istoreN X0.here hx rfl (hb hby d1_1) rfl (l' := #[.val (.ref a1), .val (.int (4 : Int32)), .val (.int (0 : Int32))]) rfl k) ?_
  show OutW _ _ _ _ _ _ _ (s₁.setTop (mkF m 2 #[.val (.ref a1), .val (.int (4 : Int32)), .val (.int (0 : Int32))] []))
  refine OutW.back (fun t k => XS.iloadN X0.here hx rfl (hb hby d1_2) rfl  k) ?_
  show OutW _ _ _ _ _ _ _ (s₁.setTop (mkF m 3 #[.val (.ref a1), .val (.int (4 : Int32)), .val (.int (0 : Int32))] [(.int (0 : Int32))]))
  refine OutW.back (fun t k => XS.bipush X0.here hx rfl (hb hby d1_3) k) ?_
  show OutW _ _ _ _ _ _ _ (s₁.setTop (mkF m 5 #[.val (.ref a1), .val (.int (4 : Int32)), .val (.int (0 : Int32))] [(.int (7 : Int32)), (.int (0 : Int32))]))
  refine OutW.back (fun t k => XS.icmpNo X0.here hx rfl (hb hby d1_5) rfl (tlt (by decide : (0 : Int32) < (7 : Int32))).2.1 k) ?_
  show OutW _ _ _ _ _ _ _ (s₁.setTop (mkF m 8 #[.val (.ref a1), .val (.int (4 : Int32)), .val (.int (0 : Int32))] []))
  refine OutW.back (fun t k => XS.aloadN X0.here hx rfl (hb hby d1_8) rfl rfl  k) ?_
  show OutW _ _ _ _ _ _ _ (s₁.setTop (mkF m 9 #[.val (.ref a1), .val (.int (4 : Int32)), .val (.int (0 : Int32))] [(.ref a1)]))
  refine OutW.back (fun t k => XS.iloadN X0.here hx rfl (hb hby d1_9) rfl  k) ?_
  show OutW _ _ _ _ _ _ _ (s₁.setTop (mkF m 10 #[.val (.ref a1), .val (.int (4 : Int32)), .val (.int (0 : Int32))] [(.int (4 : Int32)), (.ref a1)]))
  refine OutW.back (fun t k => XS.iloadN X0.here hx rfl (hb hby d1_10) rfl  k) ?_
  show OutW _ _ _ _ _ _ _ (s₁.setTop (mkF m 11 #[.val (.ref a1), .val (.int (4 : Int32)), .val (.int (0 : Int32))] [(.int (0 : Int32)), (.int (4 : Int32)), (.ref a1)]))
  refine OutW.back (fun t k => XS.iadd X0.here hx rfl (hb hby d1_11) rfl k) ?_
  show OutW _ _ _ _ _ _ _ (s₁.setTop (mkF m 12 #[.val (.ref a1), .val (.int (4 : Int32)), .val (.int (0 : Int32))] [(.int ((4 : Int32) + (0 : Int32))), (.ref a1)]))
  rw [show ((4 : Int32) + (0 : Int32)) = (4 : Int32) from by decide]
  obtain ⟨cl1, Ar1, Qk1, Sz1, Nn1, Hh1, Gg1⟩ := id V_a1
  have hin1 : ¬ ((4 : Int32) < 0 ∨ cl1.slots.size ≤ ((4 : Int32)).toNatClampNeg) := inb_of Sz1 ⟨by decide, by decide⟩
  refine OutW.back (X0.baloadBytes hx (j := (4 : Int32)) (v := (.int w4)) (by rw [e0]; exact Ar1.1) (State.isArrayOf_alike hZ.alike Ar1.2.1) Ar1.2.2 hin1 (Hh1.at hin1 (by rfl)) (g := (mkF m 12 #[.val (.ref a1), .val (.int (4 : Int32)), .val (.int (0 : Int32))] [(.int (4 : Int32)), (.ref a1)])) rfl rfl (hb hby d1_12)) ?_
  show OutW _ _ _ _ _ _ _ (s₁.setTop (mkF m 13 #[.val (.ref a1), .val (.int (4 : Int32)), .val (.int (0 : Int32))] [(.int w4)]))
  by_cases c13_2 : w4 = (0 : Int32)
  · skip
    refine OutW.back (fun t k => XS.ifYes X0.here hx rfl (pc0 := 13) (pc' := 18) rfl (hb hby d1_13) rfl ((if0 _ _).trans (teq c13_2).1) (by decide) (by decide) k) ?_
    show OutW _ _ _ _ _ _ _ (s₁.setTop (mkF m 18 #[.val (.ref a1), .val (.int (4 : Int32)), .val (.int (0 : Int32))] []))
    refine OutW.back (fun t k => XS.iinc X0.here hx rfl (hb hby d1_18) rfl (l' := #[.val (.ref a1), .val (.int (4 : Int32)), .val (.int ((0 : Int32) + (1 : Int32)))]) rfl k) ?_
    show OutW _ _ _ _ _ _ _ (s₁.setTop (mkF m 21 #[.val (.ref a1), .val (.int (4 : Int32)), .val (.int ((0 : Int32) + (1 : Int32)))] []))
    rw [show ((0 : Int32) + (1 : Int32)) = (1 : Int32) from by decide]
    refine OutW.back (fun t k => XS.goto X0.here hx rfl (pc0 := 21) (pc' := 2) rfl (hb hby d1_21) (by decide) (by decide) k) ?_
    show OutW _ _ _ _ _ _ _ (s₁.setTop (mkF m 2 #[.val (.ref a1), .val (.int (4 : Int32)), .val (.int (1 : Int32))] []))
    refine OutW.back (fun t k => XS.iloadN X0.here hx rfl (hb hby d1_2) rfl  k) ?_
    show OutW _ _ _ _ _ _ _ (s₁.setTop (mkF m 3 #[.val (.ref a1), .val (.int (4 : Int32)), .val (.int (1 : Int32))] [(.int (1 : Int32))]))
    refine OutW.back (fun t k => XS.bipush X0.here hx rfl (hb hby d1_3) k) ?_
    show OutW _ _ _ _ _ _ _ (s₁.setTop (mkF m 5 #[.val (.ref a1), .val (.int (4 : Int32)), .val (.int (1 : Int32))] [(.int (7 : Int32)), (.int (1 : Int32))]))
    refine OutW.back (fun t k => XS.icmpNo X0.here hx rfl (hb hby d1_5) rfl (tlt (by decide : (1 : Int32) < (7 : Int32))).2.1 k) ?_
    show OutW _ _ _ _ _ _ _ (s₁.setTop (mkF m 8 #[.val (.ref a1), .val (.int (4 : Int32)), .val (.int (1 : Int32))] []))
    refine OutW.back (fun t k => XS.aloadN X0.here hx rfl (hb hby d1_8) rfl rfl  k) ?_
    show OutW _ _ _ _ _ _ _ (s₁.setTop (mkF m 9 #[.val (.ref a1), .val (.int (4 : Int32)), .val (.int (1 : Int32))] [(.ref a1)]))
    refine OutW.back (fun t k => XS.iloadN X0.here hx rfl (hb hby d1_9) rfl  k) ?_
    show OutW _ _ _ _ _ _ _ (s₁.setTop (mkF m 10 #[.val (.ref a1), .val (.int (4 : Int32)), .val (.int (1 : Int32))] [(.int (4 : Int32)), (.ref a1)]))
    refine OutW.back (fun t k => XS.iloadN X0.here hx rfl (hb hby d1_10) rfl  k) ?_
    show OutW _ _ _ _ _ _ _ (s₁.setTop (mkF m 11 #[.val (.ref a1), .val (.int (4 : Int32)), .val (.int (1 : Int32))] [(.int (1 : Int32)), (.int (4 : Int32)), (.ref a1)]))
    refine OutW.back (fun t k => XS.iadd X0.here hx rfl (hb hby d1_11) rfl k) ?_
    show OutW _ _ _ _ _ _ _ (s₁.setTop (mkF m 12 #[.val (.ref a1), .val (.int (4 : Int32)), .val (.int (1 : Int32))] [(.int ((4 : Int32) + (1 : Int32))), (.ref a1)]))
    rw [show ((4 : Int32) + (1 : Int32)) = (5 : Int32) from by decide]
    obtain ⟨cl3, Ar3, Qk3, Sz3, Nn3, Hh3, Gg3⟩ := id V_a1
    have hin3 : ¬ ((5 : Int32) < 0 ∨ cl3.slots.size ≤ ((5 : Int32)).toNatClampNeg) := inb_of Sz3 ⟨by decide, by decide⟩
    refine OutW.back (X0.baloadBytes hx (j := (5 : Int32)) (v := (.int w5)) (by rw [e0]; exact Ar3.1) (State.isArrayOf_alike hZ.alike Ar3.2.1) Ar3.2.2 hin3 (Hh3.at hin3 (by rfl)) (g := (mkF m 12 #[.val (.ref a1), .val (.int (4 : Int32)), .val (.int (1 : Int32))] [(.int (5 : Int32)), (.ref a1)])) rfl rfl (hb hby d1_12)) ?_
    show OutW _ _ _ _ _ _ _ (s₁.setTop (mkF m 13 #[.val (.ref a1), .val (.int (4 : Int32)), .val (.int (1 : Int32))] [(.int w5)]))
    by_cases c13_4 : w5 = (0 : Int32)
    · skip
      refine OutW.back (fun t k => XS.ifYes X0.here hx rfl (pc0 := 13) (pc' := 18) rfl (hb hby d1_13) rfl ((if0 _ _).trans (teq c13_4).1) (by decide) (by decide) k) ?_
      show OutW _ _ _ _ _ _ _ (s₁.setTop (mkF m 18 #[.val (.ref a1), .val (.int (4 : Int32)), .val (.int (1 : Int32))] []))
      refine OutW.back (fun t k => XS.iinc X0.here hx rfl (hb hby d1_18) rfl (l' := #[.val (.ref a1), .val (.int (4 : Int32)), .val (.int ((1 : Int32) + (1 : Int32)))]) rfl k) ?_
      show OutW _ _ _ _ _ _ _ (s₁.setTop (mkF m 21 #[.val (.ref a1), .val (.int (4 : Int32)), .val (.int ((1 : Int32) + (1 : Int32)))] []))
      rw [show ((1 : Int32) + (1 : Int32)) = (2 : Int32) from by decide]
      refine OutW.back (fun t k => XS.goto X0.here hx rfl (pc0 := 21) (pc' := 2) rfl (hb hby d1_21) (by decide) (by decide) k) ?_
      show OutW _ _ _ _ _ _ _ (s₁.setTop (mkF m 2 #[.val (.ref a1), .val (.int (4 : Int32)), .val (.int (2 : Int32))] []))
      refine OutW.back (fun t k => XS.iloadN X0.here hx rfl (hb hby d1_2) rfl  k) ?_
      show OutW _ _ _ _ _ _ _ (s₁.setTop (mkF m 3 #[.val (.ref a1), .val (.int (4 : Int32)), .val (.int (2 : Int32))] [(.int (2 : Int32))]))
      refine OutW.back (fun t k => XS.bipush X0.here hx rfl (hb hby d1_3) k) ?_
      show OutW _ _ _ _ _ _ _ (s₁.setTop (mkF m 5 #[.val (.ref a1), .val (.int (4 : Int32)), .val (.int (2 : Int32))] [(.int (7 : Int32)), (.int (2 : Int32))]))
      refine OutW.back (fun t k => XS.icmpNo X0.here hx rfl (hb hby d1_5) rfl (tlt (by decide : (2 : Int32) < (7 : Int32))).2.1 k) ?_
      show OutW _ _ _ _ _ _ _ (s₁.setTop (mkF m 8 #[.val (.ref a1), .val (.int (4 : Int32)), .val (.int (2 : Int32))] []))
      refine OutW.back (fun t k => XS.aloadN X0.here hx rfl (hb hby d1_8) rfl rfl  k) ?_
      show OutW _ _ _ _ _ _ _ (s₁.setTop (mkF m 9 #[.val (.ref a1), .val (.int (4 : Int32)), .val (.int (2 : Int32))] [(.ref a1)]))
      refine OutW.back (fun t k => XS.iloadN X0.here hx rfl (hb hby d1_9) rfl  k) ?_
      show OutW _ _ _ _ _ _ _ (s₁.setTop (mkF m 10 #[.val (.ref a1), .val (.int (4 : Int32)), .val (.int (2 : Int32))] [(.int (4 : Int32)), (.ref a1)]))
      refine OutW.back (fun t k => XS.iloadN X0.here hx rfl (hb hby d1_10) rfl  k) ?_
      show OutW _ _ _ _ _ _ _ (s₁.setTop (mkF m 11 #[.val (.ref a1), .val (.int (4 : Int32)), .val (.int (2 : Int32))] [(.int (2 : Int32)), (.int (4 : Int32)), (.ref a1)]))
      refine OutW.back (fun t k => XS.iadd X0.here hx rfl (hb hby d1_11) rfl k) ?_
      show OutW _ _ _ _ _ _ _ (s₁.setTop (mkF m 12 #[.val (.ref a1), .val (.int (4 : Int32)), .val (.int (2 : Int32))] [(.int ((4 : Int32) + (2 : Int32))), (.ref a1)]))
      rw [show ((4 : Int32) + (2 : Int32)) = (6 : Int32) from by decide]
      obtain ⟨cl5, Ar5, Qk5, Sz5, Nn5, Hh5, Gg5⟩ := id V_a1
      have hin5 : ¬ ((6 : Int32) < 0 ∨ cl5.slots.size ≤ ((6 : Int32)).toNatClampNeg) := inb_of Sz5 ⟨by decide, by decide⟩
      refine OutW.back (X0.baloadBytes hx (j := (6 : Int32)) (v := (.int w6)) (by rw [e0]; exact Ar5.1) (State.isArrayOf_alike hZ.alike Ar5.2.1) Ar5.2.2 hin5 (Hh5.at hin5 (by rfl)) (g := (mkF m 12 #[.val (.ref a1), .val (.int (4 : Int32)), .val (.int (2 : Int32))] [(.int (6 : Int32)), (.ref a1)])) rfl rfl (hb hby d1_12)) ?_
      show OutW _ _ _ _ _ _ _ (s₁.setTop (mkF m 13 #[.val (.ref a1), .val (.int (4 : Int32)), .val (.int (2 : Int32))] [(.int w6)]))
      by_cases c13_6 : w6 = (0 : Int32)
      · skip
        refine OutW.back (fun t k => XS.ifYes X0.here hx rfl (pc0 := 13) (pc' := 18) rfl (hb hby d1_13) rfl ((if0 _ _).trans (teq c13_6).1) (by decide) (by decide) k) ?_
        show OutW _ _ _ _ _ _ _ (s₁.setTop (mkF m 18 #[.val (.ref a1), .val (.int (4 : Int32)), .val (.int (2 : Int32))] []))
        refine OutW.back (fun t k => XS.iinc X0.here hx rfl (hb hby d1_18) rfl (l' := #[.val (.ref a1), .val (.int (4 : Int32)), .val (.int ((2 : Int32) + (1 : Int32)))]) rfl k) ?_
        show OutW _ _ _ _ _ _ _ (s₁.setTop (mkF m 21 #[.val (.ref a1), .val (.int (4 : Int32)), .val (.int ((2 : Int32) + (1 : Int32)))] []))
        rw [show ((2 : Int32) + (1 : Int32)) = (3 : Int32) from by decide]
        refine OutW.back (fun t k => XS.goto X0.here hx rfl (pc0 := 21) (pc' := 2) rfl (hb hby d1_21) (by decide) (by decide) k) ?_
        show OutW _ _ _ _ _ _ _ (s₁.setTop (mkF m 2 #[.val (.ref a1), .val (.int (4 : Int32)), .val (.int (3 : Int32))] []))
        refine OutW.back (fun t k => XS.iloadN X0.here hx rfl (hb hby d1_2) rfl  k) ?_
        show OutW _ _ _ _ _ _ _ (s₁.setTop (mkF m 3 #[.val (.ref a1), .val (.int (4 : Int32)), .val (.int (3 : Int32))] [(.int (3 : Int32))]))
        refine OutW.back (fun t k => XS.bipush X0.here hx rfl (hb hby d1_3) k) ?_
        show OutW _ _ _ _ _ _ _ (s₁.setTop (mkF m 5 #[.val (.ref a1), .val (.int (4 : Int32)), .val (.int (3 : Int32))] [(.int (7 : Int32)), (.int (3 : Int32))]))
        refine OutW.back (fun t k => XS.icmpNo X0.here hx rfl (hb hby d1_5) rfl (tlt (by decide : (3 : Int32) < (7 : Int32))).2.1 k) ?_
        show OutW _ _ _ _ _ _ _ (s₁.setTop (mkF m 8 #[.val (.ref a1), .val (.int (4 : Int32)), .val (.int (3 : Int32))] []))
        refine OutW.back (fun t k => XS.aloadN X0.here hx rfl (hb hby d1_8) rfl rfl  k) ?_
        show OutW _ _ _ _ _ _ _ (s₁.setTop (mkF m 9 #[.val (.ref a1), .val (.int (4 : Int32)), .val (.int (3 : Int32))] [(.ref a1)]))
        refine OutW.back (fun t k => XS.iloadN X0.here hx rfl (hb hby d1_9) rfl  k) ?_
        show OutW _ _ _ _ _ _ _ (s₁.setTop (mkF m 10 #[.val (.ref a1), .val (.int (4 : Int32)), .val (.int (3 : Int32))] [(.int (4 : Int32)), (.ref a1)]))
        refine OutW.back (fun t k => XS.iloadN X0.here hx rfl (hb hby d1_10) rfl  k) ?_
        show OutW _ _ _ _ _ _ _ (s₁.setTop (mkF m 11 #[.val (.ref a1), .val (.int (4 : Int32)), .val (.int (3 : Int32))] [(.int (3 : Int32)), (.int (4 : Int32)), (.ref a1)]))
        refine OutW.back (fun t k => XS.iadd X0.here hx rfl (hb hby d1_11) rfl k) ?_
        show OutW _ _ _ _ _ _ _ (s₁.setTop (mkF m 12 #[.val (.ref a1), .val (.int (4 : Int32)), .val (.int (3 : Int32))] [(.int ((4 : Int32) + (3 : Int32))), (.ref a1)]))
        rw [show ((4 : Int32) + (3 : Int32)) = (7 : Int32) from by decide]
        obtain ⟨cl7, Ar7, Qk7, Sz7, Nn7, Hh7, Gg7⟩ := id V_a1
        have hin7 : ¬ ((7 : Int32) < 0 ∨ cl7.slots.size ≤ ((7 : Int32)).toNatClampNeg) := inb_of Sz7 ⟨by decide, by decide⟩
        refine OutW.back (X0.baloadBytes hx (j := (7 : Int32)) (v := (.int w7)) (by rw [e0]; exact Ar7.1) (State.isArrayOf_alike hZ.alike Ar7.2.1) Ar7.2.2 hin7 (Hh7.at hin7 (by rfl)) (g := (mkF m 12 #[.val (.ref a1), .val (.int (4 : Int32)), .val (.int (3 : Int32))] [(.int (7 : Int32)), (.ref a1)])) rfl rfl (hb hby d1_12)) ?_
        show OutW _ _ _ _ _ _ _ (s₁.setTop (mkF m 13 #[.val (.ref a1), .val (.int (4 : Int32)), .val (.int (3 : Int32))] [(.int w7)]))
        by_cases c13_8 : w7 = (0 : Int32)
        · skip
          refine OutW.back (fun t k => XS.ifYes X0.here hx rfl (pc0 := 13) (pc' := 18) rfl (hb hby d1_13) rfl ((if0 _ _).trans (teq c13_8).1) (by decide) (by decide) k) ?_
          show OutW _ _ _ _ _ _ _ (s₁.setTop (mkF m 18 #[.val (.ref a1), .val (.int (4 : Int32)), .val (.int (3 : Int32))] []))
          refine OutW.back (fun t k => XS.iinc X0.here hx rfl (hb hby d1_18) rfl (l' := #[.val (.ref a1), .val (.int (4 : Int32)), .val (.int ((3 : Int32) + (1 : Int32)))]) rfl k) ?_
          show OutW _ _ _ _ _ _ _ (s₁.setTop (mkF m 21 #[.val (.ref a1), .val (.int (4 : Int32)), .val (.int ((3 : Int32) + (1 : Int32)))] []))
          rw [show ((3 : Int32) + (1 : Int32)) = (4 : Int32) from by decide]
          refine OutW.back (fun t k => XS.goto X0.here hx rfl (pc0 := 21) (pc' := 2) rfl (hb hby d1_21) (by decide) (by decide) k) ?_
          show OutW _ _ _ _ _ _ _ (s₁.setTop (mkF m 2 #[.val (.ref a1), .val (.int (4 : Int32)), .val (.int (4 : Int32))] []))
          refine OutW.back (fun t k => XS.iloadN X0.here hx rfl (hb hby d1_2) rfl  k) ?_
          show OutW _ _ _ _ _ _ _ (s₁.setTop (mkF m 3 #[.val (.ref a1), .val (.int (4 : Int32)), .val (.int (4 : Int32))] [(.int (4 : Int32))]))
          refine OutW.back (fun t k => XS.bipush X0.here hx rfl (hb hby d1_3) k) ?_
          show OutW _ _ _ _ _ _ _ (s₁.setTop (mkF m 5 #[.val (.ref a1), .val (.int (4 : Int32)), .val (.int (4 : Int32))] [(.int (7 : Int32)), (.int (4 : Int32))]))
          refine OutW.back (fun t k => XS.icmpNo X0.here hx rfl (hb hby d1_5) rfl (tlt (by decide : (4 : Int32) < (7 : Int32))).2.1 k) ?_
          show OutW _ _ _ _ _ _ _ (s₁.setTop (mkF m 8 #[.val (.ref a1), .val (.int (4 : Int32)), .val (.int (4 : Int32))] []))
          refine OutW.back (fun t k => XS.aloadN X0.here hx rfl (hb hby d1_8) rfl rfl  k) ?_
          show OutW _ _ _ _ _ _ _ (s₁.setTop (mkF m 9 #[.val (.ref a1), .val (.int (4 : Int32)), .val (.int (4 : Int32))] [(.ref a1)]))
          refine OutW.back (fun t k => XS.iloadN X0.here hx rfl (hb hby d1_9) rfl  k) ?_
          show OutW _ _ _ _ _ _ _ (s₁.setTop (mkF m 10 #[.val (.ref a1), .val (.int (4 : Int32)), .val (.int (4 : Int32))] [(.int (4 : Int32)), (.ref a1)]))
          refine OutW.back (fun t k => XS.iloadN X0.here hx rfl (hb hby d1_10) rfl  k) ?_
          show OutW _ _ _ _ _ _ _ (s₁.setTop (mkF m 11 #[.val (.ref a1), .val (.int (4 : Int32)), .val (.int (4 : Int32))] [(.int (4 : Int32)), (.int (4 : Int32)), (.ref a1)]))
          refine OutW.back (fun t k => XS.iadd X0.here hx rfl (hb hby d1_11) rfl k) ?_
          show OutW _ _ _ _ _ _ _ (s₁.setTop (mkF m 12 #[.val (.ref a1), .val (.int (4 : Int32)), .val (.int (4 : Int32))] [(.int ((4 : Int32) + (4 : Int32))), (.ref a1)]))
          rw [show ((4 : Int32) + (4 : Int32)) = (8 : Int32) from by decide]
          obtain ⟨cl9, Ar9, Qk9, Sz9, Nn9, Hh9, Gg9⟩ := id V_a1
          have hin9 : ¬ ((8 : Int32) < 0 ∨ cl9.slots.size ≤ ((8 : Int32)).toNatClampNeg) := inb_of Sz9 ⟨by decide, by decide⟩
          refine OutW.back (X0.baloadBytes hx (j := (8 : Int32)) (v := (.int w8)) (by rw [e0]; exact Ar9.1) (State.isArrayOf_alike hZ.alike Ar9.2.1) Ar9.2.2 hin9 (Hh9.at hin9 (by rfl)) (g := (mkF m 12 #[.val (.ref a1), .val (.int (4 : Int32)), .val (.int (4 : Int32))] [(.int (8 : Int32)), (.ref a1)])) rfl rfl (hb hby d1_12)) ?_
          show OutW _ _ _ _ _ _ _ (s₁.setTop (mkF m 13 #[.val (.ref a1), .val (.int (4 : Int32)), .val (.int (4 : Int32))] [(.int w8)]))
          by_cases c13_10 : w8 = (0 : Int32)
          · skip
            refine OutW.back (fun t k => XS.ifYes X0.here hx rfl (pc0 := 13) (pc' := 18) rfl (hb hby d1_13) rfl ((if0 _ _).trans (teq c13_10).1) (by decide) (by decide) k) ?_
            show OutW _ _ _ _ _ _ _ (s₁.setTop (mkF m 18 #[.val (.ref a1), .val (.int (4 : Int32)), .val (.int (4 : Int32))] []))
            refine OutW.back (fun t k => XS.iinc X0.here hx rfl (hb hby d1_18) rfl (l' := #[.val (.ref a1), .val (.int (4 : Int32)), .val (.int ((4 : Int32) + (1 : Int32)))]) rfl k) ?_
            show OutW _ _ _ _ _ _ _ (s₁.setTop (mkF m 21 #[.val (.ref a1), .val (.int (4 : Int32)), .val (.int ((4 : Int32) + (1 : Int32)))] []))
            rw [show ((4 : Int32) + (1 : Int32)) = (5 : Int32) from by decide]
            refine OutW.back (fun t k => XS.goto X0.here hx rfl (pc0 := 21) (pc' := 2) rfl (hb hby d1_21) (by decide) (by decide) k) ?_
            show OutW _ _ _ _ _ _ _ (s₁.setTop (mkF m 2 #[.val (.ref a1), .val (.int (4 : Int32)), .val (.int (5 : Int32))] []))
            refine OutW.back (fun t k => XS.iloadN X0.here hx rfl (hb hby d1_2) rfl  k) ?_
            show OutW _ _ _ _ _ _ _ (s₁.setTop (mkF m 3 #[.val (.ref a1), .val (.int (4 : Int32)), .val (.int (5 : Int32))] [(.int (5 : Int32))]))
            refine OutW.back (fun t k => XS.bipush X0.here hx rfl (hb hby d1_3) k) ?_
            show OutW _ _ _ _ _ _ _ (s₁.setTop (mkF m 5 #[.val (.ref a1), .val (.int (4 : Int32)), .val (.int (5 : Int32))] [(.int (7 : Int32)), (.int (5 : Int32))]))
            refine OutW.back (fun t k => XS.icmpNo X0.here hx rfl (hb hby d1_5) rfl (tlt (by decide : (5 : Int32) < (7 : Int32))).2.1 k) ?_
            show OutW _ _ _ _ _ _ _ (s₁.setTop (mkF m 8 #[.val (.ref a1), .val (.int (4 : Int32)), .val (.int (5 : Int32))] []))
            refine OutW.back (fun t k => XS.aloadN X0.here hx rfl (hb hby d1_8) rfl rfl  k) ?_
            show OutW _ _ _ _ _ _ _ (s₁.setTop (mkF m 9 #[.val (.ref a1), .val (.int (4 : Int32)), .val (.int (5 : Int32))] [(.ref a1)]))
            refine OutW.back (fun t k => XS.iloadN X0.here hx rfl (hb hby d1_9) rfl  k) ?_
            show OutW _ _ _ _ _ _ _ (s₁.setTop (mkF m 10 #[.val (.ref a1), .val (.int (4 : Int32)), .val (.int (5 : Int32))] [(.int (4 : Int32)), (.ref a1)]))
            refine OutW.back (fun t k => XS.iloadN X0.here hx rfl (hb hby d1_10) rfl  k) ?_
            show OutW _ _ _ _ _ _ _ (s₁.setTop (mkF m 11 #[.val (.ref a1), .val (.int (4 : Int32)), .val (.int (5 : Int32))] [(.int (5 : Int32)), (.int (4 : Int32)), (.ref a1)]))
            refine OutW.back (fun t k => XS.iadd X0.here hx rfl (hb hby d1_11) rfl k) ?_
            show OutW _ _ _ _ _ _ _ (s₁.setTop (mkF m 12 #[.val (.ref a1), .val (.int (4 : Int32)), .val (.int (5 : Int32))] [(.int ((4 : Int32) + (5 : Int32))), (.ref a1)]))
            rw [show ((4 : Int32) + (5 : Int32)) = (9 : Int32) from by decide]
            obtain ⟨cl11, Ar11, Qk11, Sz11, Nn11, Hh11, Gg11⟩ := id V_a1
            have hin11 : ¬ ((9 : Int32) < 0 ∨ cl11.slots.size ≤ ((9 : Int32)).toNatClampNeg) := inb_of Sz11 ⟨by decide, by decide⟩
            refine OutW.back (X0.baloadBytes hx (j := (9 : Int32)) (v := (.int w9)) (by rw [e0]; exact Ar11.1) (State.isArrayOf_alike hZ.alike Ar11.2.1) Ar11.2.2 hin11 (Hh11.at hin11 (by rfl)) (g := (mkF m 12 #[.val (.ref a1), .val (.int (4 : Int32)), .val (.int (5 : Int32))] [(.int (9 : Int32)), (.ref a1)])) rfl rfl (hb hby d1_12)) ?_
            show OutW _ _ _ _ _ _ _ (s₁.setTop (mkF m 13 #[.val (.ref a1), .val (.int (4 : Int32)), .val (.int (5 : Int32))] [(.int w9)]))
            by_cases c13_12 : w9 = (0 : Int32)
            · skip
              refine OutW.back (fun t k => XS.ifYes X0.here hx rfl (pc0 := 13) (pc' := 18) rfl (hb hby d1_13) rfl ((if0 _ _).trans (teq c13_12).1) (by decide) (by decide) k) ?_
              show OutW _ _ _ _ _ _ _ (s₁.setTop (mkF m 18 #[.val (.ref a1), .val (.int (4 : Int32)), .val (.int (5 : Int32))] []))
              refine OutW.back (fun t k => XS.iinc X0.here hx rfl (hb hby d1_18) rfl (l' := #[.val (.ref a1), .val (.int (4 : Int32)), .val (.int ((5 : Int32) + (1 : Int32)))]) rfl k) ?_
              show OutW _ _ _ _ _ _ _ (s₁.setTop (mkF m 21 #[.val (.ref a1), .val (.int (4 : Int32)), .val (.int ((5 : Int32) + (1 : Int32)))] []))
              rw [show ((5 : Int32) + (1 : Int32)) = (6 : Int32) from by decide]
              refine OutW.back (fun t k => XS.goto X0.here hx rfl (pc0 := 21) (pc' := 2) rfl (hb hby d1_21) (by decide) (by decide) k) ?_
              show OutW _ _ _ _ _ _ _ (s₁.setTop (mkF m 2 #[.val (.ref a1), .val (.int (4 : Int32)), .val (.int (6 : Int32))] []))
              refine OutW.back (fun t k => XS.iloadN X0.here hx rfl (hb hby d1_2) rfl  k) ?_
              show OutW _ _ _ _ _ _ _ (s₁.setTop (mkF m 3 #[.val (.ref a1), .val (.int (4 : Int32)), .val (.int (6 : Int32))] [(.int (6 : Int32))]))
              refine OutW.back (fun t k => XS.bipush X0.here hx rfl (hb hby d1_3) k) ?_
              show OutW _ _ _ _ _ _ _ (s₁.setTop (mkF m 5 #[.val (.ref a1), .val (.int (4 : Int32)), .val (.int (6 : Int32))] [(.int (7 : Int32)), (.int (6 : Int32))]))
              refine OutW.back (fun t k => XS.icmpNo X0.here hx rfl (hb hby d1_5) rfl (tlt (by decide : (6 : Int32) < (7 : Int32))).2.1 k) ?_
              show OutW _ _ _ _ _ _ _ (s₁.setTop (mkF m 8 #[.val (.ref a1), .val (.int (4 : Int32)), .val (.int (6 : Int32))] []))
              refine OutW.back (fun t k => XS.aloadN X0.here hx rfl (hb hby d1_8) rfl rfl  k) ?_
              show OutW _ _ _ _ _ _ _ (s₁.setTop (mkF m 9 #[.val (.ref a1), .val (.int (4 : Int32)), .val (.int (6 : Int32))] [(.ref a1)]))
              refine OutW.back (fun t k => XS.iloadN X0.here hx rfl (hb hby d1_9) rfl  k) ?_
              show OutW _ _ _ _ _ _ _ (s₁.setTop (mkF m 10 #[.val (.ref a1), .val (.int (4 : Int32)), .val (.int (6 : Int32))] [(.int (4 : Int32)), (.ref a1)]))
              refine OutW.back (fun t k => XS.iloadN X0.here hx rfl (hb hby d1_10) rfl  k) ?_
              show OutW _ _ _ _ _ _ _ (s₁.setTop (mkF m 11 #[.val (.ref a1), .val (.int (4 : Int32)), .val (.int (6 : Int32))] [(.int (6 : Int32)), (.int (4 : Int32)), (.ref a1)]))
              refine OutW.back (fun t k => XS.iadd X0.here hx rfl (hb hby d1_11) rfl k) ?_
              show OutW _ _ _ _ _ _ _ (s₁.setTop (mkF m 12 #[.val (.ref a1), .val (.int (4 : Int32)), .val (.int (6 : Int32))] [(.int ((4 : Int32) + (6 : Int32))), (.ref a1)]))
              rw [show ((4 : Int32) + (6 : Int32)) = (10 : Int32) from by decide]
              obtain ⟨cl13, Ar13, Qk13, Sz13, Nn13, Hh13, Gg13⟩ := id V_a1
              have hin13 : ¬ ((10 : Int32) < 0 ∨ cl13.slots.size ≤ ((10 : Int32)).toNatClampNeg) := inb_of Sz13 ⟨by decide, by decide⟩
              refine OutW.back (X0.baloadBytes hx (j := (10 : Int32)) (v := (.int w10)) (by rw [e0]; exact Ar13.1) (State.isArrayOf_alike hZ.alike Ar13.2.1) Ar13.2.2 hin13 (Hh13.at hin13 (by rfl)) (g := (mkF m 12 #[.val (.ref a1), .val (.int (4 : Int32)), .val (.int (6 : Int32))] [(.int (10 : Int32)), (.ref a1)])) rfl rfl (hb hby d1_12)) ?_
              show OutW _ _ _ _ _ _ _ (s₁.setTop (mkF m 13 #[.val (.ref a1), .val (.int (4 : Int32)), .val (.int (6 : Int32))] [(.int w10)]))
              by_cases c13_14 : w10 = (0 : Int32)
              · skip
                refine OutW.back (fun t k => XS.ifYes X0.here hx rfl (pc0 := 13) (pc' := 18) rfl (hb hby d1_13) rfl ((if0 _ _).trans (teq c13_14).1) (by decide) (by decide) k) ?_
                show OutW _ _ _ _ _ _ _ (s₁.setTop (mkF m 18 #[.val (.ref a1), .val (.int (4 : Int32)), .val (.int (6 : Int32))] []))
                refine OutW.back (fun t k => XS.iinc X0.here hx rfl (hb hby d1_18) rfl (l' := #[.val (.ref a1), .val (.int (4 : Int32)), .val (.int ((6 : Int32) + (1 : Int32)))]) rfl k) ?_
                show OutW _ _ _ _ _ _ _ (s₁.setTop (mkF m 21 #[.val (.ref a1), .val (.int (4 : Int32)), .val (.int ((6 : Int32) + (1 : Int32)))] []))
                rw [show ((6 : Int32) + (1 : Int32)) = (7 : Int32) from by decide]
                refine OutW.back (fun t k => XS.goto X0.here hx rfl (pc0 := 21) (pc' := 2) rfl (hb hby d1_21) (by decide) (by decide) k) ?_
                show OutW _ _ _ _ _ _ _ (s₁.setTop (mkF m 2 #[.val (.ref a1), .val (.int (4 : Int32)), .val (.int (7 : Int32))] []))
                refine OutW.back (fun t k => XS.iloadN X0.here hx rfl (hb hby d1_2) rfl  k) ?_
                show OutW _ _ _ _ _ _ _ (s₁.setTop (mkF m 3 #[.val (.ref a1), .val (.int (4 : Int32)), .val (.int (7 : Int32))] [(.int (7 : Int32))]))
                refine OutW.back (fun t k => XS.bipush X0.here hx rfl (hb hby d1_3) k) ?_
                show OutW _ _ _ _ _ _ _ (s₁.setTop (mkF m 5 #[.val (.ref a1), .val (.int (4 : Int32)), .val (.int (7 : Int32))] [(.int (7 : Int32)), (.int (7 : Int32))]))
                refine OutW.back (fun t k => XS.icmpYes X0.here hx rfl (pc0 := 5) (pc' := 24) rfl (hb hby d1_5) rfl (flt (by decide : ¬ ((7 : Int32) < (7 : Int32)))).2.1 (by decide) (by decide) k) ?_
                show OutW _ _ _ _ _ _ _ (s₁.setTop (mkF m 24 #[.val (.ref a1), .val (.int (4 : Int32)), .val (.int (7 : Int32))] []))
                refine OutW.back (fun t k => XS.aloadN X0.here hx rfl (hb hby d1_24) rfl rfl  k) ?_
                show OutW _ _ _ _ _ _ _ (s₁.setTop (mkF m 25 #[.val (.ref a1), .val (.int (4 : Int32)), .val (.int (7 : Int32))] [(.ref a1)]))
                refine OutW.back (fun t k => XS.iloadN X0.here hx rfl (hb hby d1_25) rfl  k) ?_
                show OutW _ _ _ _ _ _ _ (s₁.setTop (mkF m 26 #[.val (.ref a1), .val (.int (4 : Int32)), .val (.int (7 : Int32))] [(.int (4 : Int32)), (.ref a1)]))
                refine OutW.back (fun t k => XS.bipush X0.here hx rfl (hb hby d1_26) k) ?_
                show OutW _ _ _ _ _ _ _ (s₁.setTop (mkF m 28 #[.val (.ref a1), .val (.int (4 : Int32)), .val (.int (7 : Int32))] [(.int (8 : Int32)), (.int (4 : Int32)), (.ref a1)]))
                refine OutW.back (fun t k => XS.iadd X0.here hx rfl (hb hby d1_28) rfl k) ?_
                show OutW _ _ _ _ _ _ _ (s₁.setTop (mkF m 29 #[.val (.ref a1), .val (.int (4 : Int32)), .val (.int (7 : Int32))] [(.int ((4 : Int32) + (8 : Int32))), (.ref a1)]))
                rw [show ((4 : Int32) + (8 : Int32)) = (12 : Int32) from by decide]
                refine OutW.back (fun t k => XS.iconst X0.here hx rfl (hb hby d1_29) k) ?_
                show OutW _ _ _ _ _ _ _ (s₁.setTop (mkF m 30 #[.val (.ref a1), .val (.int (4 : Int32)), .val (.int (7 : Int32))] [(.int (1 : Int32)), (.int (12 : Int32)), (.ref a1)]))
                refine OutW.back (fun t k => XS.isub X0.here hx rfl (hb hby d1_30) rfl k) ?_
                show OutW _ _ _ _ _ _ _ (s₁.setTop (mkF m 31 #[.val (.ref a1), .val (.int (4 : Int32)), .val (.int (7 : Int32))] [(.int ((12 : Int32) - (1 : Int32))), (.ref a1)]))
                rw [show ((12 : Int32) - (1 : Int32)) = (11 : Int32) from by decide]
                obtain ⟨cl15, Ar15, Qk15, Sz15, Nn15, Hh15, Gg15⟩ := id V_a1
                have hin15 : ¬ ((11 : Int32) < 0 ∨ cl15.slots.size ≤ ((11 : Int32)).toNatClampNeg) := inb_of Sz15 ⟨by decide, by decide⟩
                refine OutW.back (X0.baloadBytes hx (j := (11 : Int32)) (v := (.int w11)) (by rw [e0]; exact Ar15.1) (State.isArrayOf_alike hZ.alike Ar15.2.1) Ar15.2.2 hin15 (Hh15.at hin15 (by rfl)) (g := (mkF m 31 #[.val (.ref a1), .val (.int (4 : Int32)), .val (.int (7 : Int32))] [(.int (11 : Int32)), (.ref a1)])) rfl rfl (hb hby d1_31)) ?_
                show OutW _ _ _ _ _ _ _ (s₁.setTop (mkF m 32 #[.val (.ref a1), .val (.int (4 : Int32)), .val (.int (7 : Int32))] [(.int w11)]))
                refine OutW.back (fun t k => XS.bipush X0.here hx rfl (hb hby d1_32) k) ?_
                show OutW _ _ _ _ _ _ _ (s₁.setTop (mkF m 34 #[.val (.ref a1), .val (.int (4 : Int32)), .val (.int (7 : Int32))] [(.int (-128 : Int32)), (.int w11)]))
                by_cases c34_16 : w11 = (-128 : Int32)
                · skip
                  refine OutW.back (fun t k => XS.icmpNo X0.here hx rfl (hb hby d1_34) rfl (teq c34_16).2 k) ?_
                  show OutW _ _ _ _ _ _ _ (s₁.setTop (mkF m 37 #[.val (.ref a1), .val (.int (4 : Int32)), .val (.int (7 : Int32))] []))
                  refine OutW.back (fun t k => XS.iconst X0.here hx rfl (hb hby d1_37) k) ?_
                  show OutW _ _ _ _ _ _ _ (s₁.setTop (mkF m 38 #[.val (.ref a1), .val (.int (4 : Int32)), .val (.int (7 : Int32))] [(.int (1 : Int32))]))
                  refine OutW.back (fun t k => XS.goto X0.here hx rfl (pc0 := 38) (pc' := 42) rfl (hb hby d1_38) (by decide) (by decide) k) ?_
                  show OutW _ _ _ _ _ _ _ (s₁.setTop (mkF m 42 #[.val (.ref a1), .val (.int (4 : Int32)), .val (.int (7 : Int32))] [(.int (1 : Int32))]))
                  refine OutW.retN X0 hx (t := .boolean) (z' := (1 : Int32)) Bd.returns (by simp) hlk (hb hby d1_42) ?hz (by decide) (by decide) ?_
                  case hz =>
                    rfl
                  show Q1_4 Z a1 w0 w1 w2 w3 w4 w5 w6 w7 w8 w9 w10 w11 w12 w13 w14 w15 kk h0 n0 _ s₁.heap _
                  rw [e0]
                  exact ⟨by rw [negz4, if_pos c13_2, if_pos c13_4, if_pos c13_6, if_pos c13_8, if_pos c13_10, if_pos c13_12, if_pos c13_14, if_pos c34_16], N0, rfl⟩
                · skip
                  refine OutW.back (fun t k => XS.icmpYes X0.here hx rfl (pc0 := 34) (pc' := 41) rfl (hb hby d1_34) rfl (feq c34_16).2 (by decide) (by decide) k) ?_
                  show OutW _ _ _ _ _ _ _ (s₁.setTop (mkF m 41 #[.val (.ref a1), .val (.int (4 : Int32)), .val (.int (7 : Int32))] []))
                  refine OutW.back (fun t k => XS.iconst X0.here hx rfl (hb hby d1_41) k) ?_
                  show OutW _ _ _ _ _ _ _ (s₁.setTop (mkF m 42 #[.val (.ref a1), .val (.int (4 : Int32)), .val (.int (7 : Int32))] [(.int (0 : Int32))]))
                  refine OutW.retN X0 hx (t := .boolean) (z' := (0 : Int32)) Bd.returns (by simp) hlk (hb hby d1_42) ?hz (by decide) (by decide) ?_
                  case hz =>
                    rfl
                  show Q1_4 Z a1 w0 w1 w2 w3 w4 w5 w6 w7 w8 w9 w10 w11 w12 w13 w14 w15 kk h0 n0 _ s₁.heap _
                  rw [e0]
                  exact ⟨by rw [negz4, if_pos c13_2, if_pos c13_4, if_pos c13_6, if_pos c13_8, if_pos c13_10, if_pos c13_12, if_pos c13_14, if_neg c34_16], N0, rfl⟩
              · skip
                refine OutW.back (fun t k => XS.ifNo X0.here hx rfl (hb hby d1_13) rfl ((if0 _ _).trans (feq c13_14).1) k) ?_
                show OutW _ _ _ _ _ _ _ (s₁.setTop (mkF m 16 #[.val (.ref a1), .val (.int (4 : Int32)), .val (.int (6 : Int32))] []))
                refine OutW.back (fun t k => XS.iconst X0.here hx rfl (hb hby d1_16) k) ?_
                show OutW _ _ _ _ _ _ _ (s₁.setTop (mkF m 17 #[.val (.ref a1), .val (.int (4 : Int32)), .val (.int (6 : Int32))] [(.int (0 : Int32))]))
                refine OutW.retN X0 hx (t := .boolean) (z' := (0 : Int32)) Bd.returns (by simp) hlk (hb hby d1_17) ?hz (by decide) (by decide) ?_
                case hz =>
                  rfl
                show Q1_4 Z a1 w0 w1 w2 w3 w4 w5 w6 w7 w8 w9 w10 w11 w12 w13 w14 w15 kk h0 n0 _ s₁.heap _
                rw [e0]
                exact ⟨by rw [negz4, if_pos c13_2, if_pos c13_4, if_pos c13_6, if_pos c13_8, if_pos c13_10, if_pos c13_12, if_neg c13_14], N0, rfl⟩
            · skip
              refine OutW.back (fun t k => XS.ifNo X0.here hx rfl (hb hby d1_13) rfl ((if0 _ _).trans (feq c13_12).1) k) ?_
              show OutW _ _ _ _ _ _ _ (s₁.setTop (mkF m 16 #[.val (.ref a1), .val (.int (4 : Int32)), .val (.int (5 : Int32))] []))
              refine OutW.back (fun t k => XS.iconst X0.here hx rfl (hb hby d1_16) k) ?_
              show OutW _ _ _ _ _ _ _ (s₁.setTop (mkF m 17 #[.val (.ref a1), .val (.int (4 : Int32)), .val (.int (5 : Int32))] [(.int (0 : Int32))]))
              refine OutW.retN X0 hx (t := .boolean) (z' := (0 : Int32)) Bd.returns (by simp) hlk (hb hby d1_17) ?hz (by decide) (by decide) ?_
              case hz =>
                rfl
              show Q1_4 Z a1 w0 w1 w2 w3 w4 w5 w6 w7 w8 w9 w10 w11 w12 w13 w14 w15 kk h0 n0 _ s₁.heap _
              rw [e0]
              exact ⟨by rw [negz4, if_pos c13_2, if_pos c13_4, if_pos c13_6, if_pos c13_8, if_pos c13_10, if_neg c13_12], N0, rfl⟩
          · skip
            refine OutW.back (fun t k => XS.ifNo X0.here hx rfl (hb hby d1_13) rfl ((if0 _ _).trans (feq c13_10).1) k) ?_
            show OutW _ _ _ _ _ _ _ (s₁.setTop (mkF m 16 #[.val (.ref a1), .val (.int (4 : Int32)), .val (.int (4 : Int32))] []))
            refine OutW.back (fun t k => XS.iconst X0.here hx rfl (hb hby d1_16) k) ?_
            show OutW _ _ _ _ _ _ _ (s₁.setTop (mkF m 17 #[.val (.ref a1), .val (.int (4 : Int32)), .val (.int (4 : Int32))] [(.int (0 : Int32))]))
            refine OutW.retN X0 hx (t := .boolean) (z' := (0 : Int32)) Bd.returns (by simp) hlk (hb hby d1_17) ?hz (by decide) (by decide) ?_
            case hz =>
              rfl
            show Q1_4 Z a1 w0 w1 w2 w3 w4 w5 w6 w7 w8 w9 w10 w11 w12 w13 w14 w15 kk h0 n0 _ s₁.heap _
            rw [e0]
            exact ⟨by rw [negz4, if_pos c13_2, if_pos c13_4, if_pos c13_6, if_pos c13_8, if_neg c13_10], N0, rfl⟩
        · skip
          refine OutW.back (fun t k => XS.ifNo X0.here hx rfl (hb hby d1_13) rfl ((if0 _ _).trans (feq c13_8).1) k) ?_
          show OutW _ _ _ _ _ _ _ (s₁.setTop (mkF m 16 #[.val (.ref a1), .val (.int (4 : Int32)), .val (.int (3 : Int32))] []))
          refine OutW.back (fun t k => XS.iconst X0.here hx rfl (hb hby d1_16) k) ?_
          show OutW _ _ _ _ _ _ _ (s₁.setTop (mkF m 17 #[.val (.ref a1), .val (.int (4 : Int32)), .val (.int (3 : Int32))] [(.int (0 : Int32))]))
          refine OutW.retN X0 hx (t := .boolean) (z' := (0 : Int32)) Bd.returns (by simp) hlk (hb hby d1_17) ?hz (by decide) (by decide) ?_
          case hz =>
            rfl
          show Q1_4 Z a1 w0 w1 w2 w3 w4 w5 w6 w7 w8 w9 w10 w11 w12 w13 w14 w15 kk h0 n0 _ s₁.heap _
          rw [e0]
          exact ⟨by rw [negz4, if_pos c13_2, if_pos c13_4, if_pos c13_6, if_neg c13_8], N0, rfl⟩
      · skip
        refine OutW.back (fun t k => XS.ifNo X0.here hx rfl (hb hby d1_13) rfl ((if0 _ _).trans (feq c13_6).1) k) ?_
        show OutW _ _ _ _ _ _ _ (s₁.setTop (mkF m 16 #[.val (.ref a1), .val (.int (4 : Int32)), .val (.int (2 : Int32))] []))
        refine OutW.back (fun t k => XS.iconst X0.here hx rfl (hb hby d1_16) k) ?_
        show OutW _ _ _ _ _ _ _ (s₁.setTop (mkF m 17 #[.val (.ref a1), .val (.int (4 : Int32)), .val (.int (2 : Int32))] [(.int (0 : Int32))]))
        refine OutW.retN X0 hx (t := .boolean) (z' := (0 : Int32)) Bd.returns (by simp) hlk (hb hby d1_17) ?hz (by decide) (by decide) ?_
        case hz =>
          rfl
        show Q1_4 Z a1 w0 w1 w2 w3 w4 w5 w6 w7 w8 w9 w10 w11 w12 w13 w14 w15 kk h0 n0 _ s₁.heap _
        rw [e0]
        exact ⟨by rw [negz4, if_pos c13_2, if_pos c13_4, if_neg c13_6], N0, rfl⟩
    · skip
      refine OutW.back (fun t k => XS.ifNo X0.here hx rfl (hb hby d1_13) rfl ((if0 _ _).trans (feq c13_4).1) k) ?_
      show OutW _ _ _ _ _ _ _ (s₁.setTop (mkF m 16 #[.val (.ref a1), .val (.int (4 : Int32)), .val (.int (1 : Int32))] []))
      refine OutW.back (fun t k => XS.iconst X0.here hx rfl (hb hby d1_16) k) ?_
      show OutW _ _ _ _ _ _ _ (s₁.setTop (mkF m 17 #[.val (.ref a1), .val (.int (4 : Int32)), .val (.int (1 : Int32))] [(.int (0 : Int32))]))
      refine OutW.retN X0 hx (t := .boolean) (z' := (0 : Int32)) Bd.returns (by simp) hlk (hb hby d1_17) ?hz (by decide) (by decide) ?_
      case hz =>
        rfl
      show Q1_4 Z a1 w0 w1 w2 w3 w4 w5 w6 w7 w8 w9 w10 w11 w12 w13 w14 w15 kk h0 n0 _ s₁.heap _
      rw [e0]
      exact ⟨by rw [negz4, if_pos c13_2, if_neg c13_4], N0, rfl⟩
  · skip
    refine OutW.back (fun t k => XS.ifNo X0.here hx rfl (hb hby d1_13) rfl ((if0 _ _).trans (feq c13_2).1) k) ?_
    show OutW _ _ _ _ _ _ _ (s₁.setTop (mkF m 16 #[.val (.ref a1), .val (.int (4 : Int32)), .val (.int (0 : Int32))] []))
    refine OutW.back (fun t k => XS.iconst X0.here hx rfl (hb hby d1_16) k) ?_
    show OutW _ _ _ _ _ _ _ (s₁.setTop (mkF m 17 #[.val (.ref a1), .val (.int (4 : Int32)), .val (.int (0 : Int32))] [(.int (0 : Int32))]))
    refine OutW.retN X0 hx (t := .boolean) (z' := (0 : Int32)) Bd.returns (by simp) hlk (hb hby d1_17) ?hz (by decide) (by decide) ?_
    case hz =>
      rfl
    show Q1_4 Z a1 w0 w1 w2 w3 w4 w5 w6 w7 w8 w9 w10 w11 w12 w13 w14 w15 kk h0 n0 _ s₁.heap _
    rw [e0]
    exact ⟨by rw [negz4, if_neg c13_2], N0, rfl⟩
def negz5 (w5 : Int32) (w6 : Int32) (w7 : Int32) (w8 : Int32) (w9 : Int32) (w10 : Int32) (w11 : Int32) (w12 : Int32) : Int32 := (if w5 = (0 : Int32) then (if w6 = (0 : Int32) then (if w7 = (0 : Int32) then (if w8 = (0 : Int32) then (if w9 = (0 : Int32) then (if w10 = (0 : Int32) then (if w11 = (0 : Int32) then (if w12 = (-128 : Int32) then (1 : Int32) else (0 : Int32)) else (0 : Int32)) else (0 : Int32)) else (0 : Int32)) else (0 : Int32)) else (0 : Int32)) else (0 : Int32)) else (0 : Int32))
theorem ef_1_5 (m : MethodId) (x0 : Addr) : entryFrame m #[(.ref x0), (.int (5 : Int32))] 3 = mkF m 0 #[.val (.ref x0), .val (.int (5 : Int32)), .unset] [] := by first | (simp [entryFrame, mkF, argsToLocals, Value.category]; done) | rfl
def Q1_5 (Z : State) (a1 : Addr) (w0 : Int32) (w1 : Int32) (w2 : Int32) (w3 : Int32) (w4 : Int32) (w5 : Int32) (w6 : Int32) (w7 : Int32) (w8 : Int32) (w9 : Int32) (w10 : Int32) (w11 : Int32) (w12 : Int32) (w13 : Int32) (w14 : Int32) (w15 : Int32) (kk : ClassId) (h0 : Heap) (n0 : Nat) (v : Option Value) (h : Heap) (L : List Loc) : Prop := v = some (.int (negz5 w5 w6 w7 w8 w9 w10 w11 w12)) ∧ Fr n0 L ∧ h = h0
set_option maxRecDepth 65536 in
set_option maxHeartbeats 40000000 in
theorem rm1_5 (l : Launch) (Z : State) (a0 : Array Value) (hw : ∀ d ∈ tables_1, d.before a0 Z = true) (ws : List Jvm.Cond) (a1 : Addr) (w0 : Int32) (w1 : Int32) (w2 : Int32) (w3 : Int32) (w4 : Int32) (w5 : Int32) (w6 : Int32) (w7 : Int32) (w8 : Int32) (w9 : Int32) (w10 : Int32) (w11 : Int32) (w12 : Int32) (w13 : Int32) (w14 : Int32) (w15 : Int32) (kk : ClassId) (h0 : Heap) (n0 : Nat) (Z0 : n0 ≤ h0.size) (V_a1 : Arv Z h0 a1 kk .byte (16 : Int32) [(.int w0), (.int w1), (.int w2), (.int w3), (.int w4), (.int w5), (.int w6), (.int w7), (.int w8), (.int w9), (.int w10), (.int w11), (.int w12), (.int w13), (.int w14), (.int w15)] (.int (0 : Int32))) :
    MetFree l (⟨"com/example/patchloom/patchloom/delta/SignMagnitude", "isNegativeZero", "([BI)Z"⟩ : MethodName) (head1 (Jvm.Cond.code (⟨"com/example/patchloom/patchloom/delta/SignMagnitude", "isNegativeZero", "([BI)Z"⟩ : MethodName) prog_26_method_3_code 3 (some .boolean) :: ws) ({ frames := 0, cells := 0, slots := 0, locals := 0 } : Room)) (fun a U => a = #[(.ref a1), (.int (5 : Int32))] ∧ Z.Warmed39 U.vm ∧ U.heap = h0) (fun _ _ _ _ _ => True) (fun _ U o U' => ∃ v L, o = .returned v ∧ Q1_5 Z a1 w0 w1 w2 w3 w4 w5 w6 w7 w8 w9 w10 w11 w12 w13 w14 w15 kk h0 n0 v U'.heap L ∧ FrameEnd U o U' L ({ frames := 0, cells := 0, slots := 0, locals := 0 } : Room).cells ({ frames := 0, cells := 0, slots := 0, locals := 0 } : Room).slots) := by
  refine MetFree.of_bodySF (plainFor_of_name pn_1) hisR ?_
  intro p e s m args below meth c s₁ Bd hml0 hP hK
  obtain ⟨rfl, hZ, hh⟩ := hP
  have hx := Bd.exec
  have hby := Bd.bytes
  have hlk := Bd.notSynchronized
  have hml : c.maxLocals = 3 := hml0
  have hown : s.vm.findClass "com/example/patchloom/patchloom/delta/SignMagnitude" = some m.cls := findClass_of_methodNamed Bd.named
  have hnm := (name_of_methodNamed Bd.named Bd.method).1
  have X0 : Stand p l e ({ frames := 0, cells := 0, slots := 0, locals := 0 } : Room) s m #[(.ref a1), (.int (5 : Int32))] below meth c s₁ [] 0 0 := Stand.of_body Bd
  have e0 : s₁.heap = h0 := by rw [← hh, Bd.state]; rfl
  have N0 := Fr.nil n0
  have K0 : Keep h0 h0 [] := Keep.refl h0 _
  show OutW p e below s ({ frames := 0, cells := 0, slots := 0, locals := 0 } : Room).cells ({ frames := 0, cells := 0, slots := 0, locals := 0 } : Room).slots (Q1_5 Z a1 w0 w1 w2 w3 w4 w5 w6 w7 w8 w9 w10 w11 w12 w13 w14 w15 kk h0 n0) _
  refine OutW.back (fun t k => castTop (ef_1_5 m a1) k) ?_
  show OutW _ _ _ _ _ _ _ (s₁.setTop (mkF m 0 #[.val (.ref a1), .val (.int (5 : Int32)), .unset] []))
  refine OutW.back (fun t k => XS.iconst X0.here hx rfl (hb hby d1_0) k) ?_
  show OutW _ _ _ _ _ _ _ (s₁.setTop (mkF m 1 #[.val (.ref a1), .val (.int (5 : Int32)), .unset] [(.int (0 : Int32))]))
  refine OutW.back (fun t k => XS.istoreN X0.here hx rfl (hb hby d1_1) rfl (l' := #[.val (.ref a1), .val (.int (5 : Int32)), .val (.int (0 : Int32))]) rfl k) ?_
  show OutW _ _ _ _ _ _ _ (s₁.setTop (mkF m 2 #[.val (.ref a1), .val (.int (5 : Int32)), .val (.int (0 : Int32))] []))
  refine OutW.back (fun t k => XS.iloadN X0.here hx rfl (hb hby d1_2) rfl  k) ?_
  show OutW _ _ _ _ _ _ _ (s₁.setTop (mkF m 3 #[.val (.ref a1), .val (.int (5 : Int32)), .val (.int (0 : Int32))] [(.int (0 : Int32))]))
  refine OutW.back (fun t k => XS.bipush X0.here hx rfl (hb hby d1_3) k) ?_
  show OutW _ _ _ _ _ _ _ (s₁.setTop (mkF m 5 #[.val (.ref a1), .val (.int (5 : Int32)), .val (.int (0 : Int32))] [(.int (7 : Int32)), (.int (0 : Int32))]))
  refine OutW.back (fun t k => XS.icmpNo X0.here hx rfl (hb hby d1_5) rfl (tlt (by decide : (0 : Int32) < (7 : Int32))).2.1 k) ?_
  show OutW _ _ _ _ _ _ _ (s₁.setTop (mkF m 8 #[.val (.ref a1), .val (.int (5 : Int32)), .val (.int (0 : Int32))] []))
  refine OutW.back (fun t k => XS.aloadN X0.here hx rfl (hb hby d1_8) rfl rfl  k) ?_
  show OutW _ _ _ _ _ _ _ (s₁.setTop (mkF m 9 #[.val (.ref a1), .val (.int (5 : Int32)), .val (.int (0 : Int32))] [(.ref a1)]))
  refine OutW.back (fun t k => XS.iloadN X0.here hx rfl (hb hby d1_9) rfl  k) ?_
  show OutW _ _ _ _ _ _ _ (s₁.setTop (mkF m 10 #[.val (.ref a1), .val (.int (5 : Int32)), .val (.int (0 : Int32))] [(.int (5 : Int32)), (.ref a1)]))
  refine OutW.back (fun t k => XS.iloadN X0.here hx rfl (hb hby d1_10) rfl  k) ?_
  show OutW _ _ _ _ _ _ _ (s₁.setTop (mkF m 11 #[.val (.ref a1), .val (.int (5 : Int32)), .val (.int (0 : Int32))] [(.int (0 : Int32)), (.int (5 : Int32)), (.ref a1)]))
  refine OutW.back (fun t k => XS.iadd X0.here hx rfl (hb hby d1_11) rfl k) ?_
  show OutW _ _ _ _ _ _ _ (s₁.setTop (mkF m 12 #[.val (.ref a1), .val (.int (5 : Int32)), .val (.int (0 : Int32))] [(.int ((5 : Int32) + (0 : Int32))), (.ref a1)]))
  rw [show ((5 : Int32) + (0 : Int32)) = (5 : Int32) from by decide]
  obtain ⟨cl1, Ar1, Qk1, Sz1, Nn1, Hh1, Gg1⟩ := id V_a1
  have hin1 : ¬ ((5 : Int32) < 0 ∨ cl1.slots.size ≤ ((5 : Int32)).toNatClampNeg) := inb_of Sz1 ⟨by decide, by decide⟩
  refine OutW.back (X0.baloadBytes hx (j := (5 : Int32)) (v := (.int w5)) (by rw [e0]; exact Ar1.1) (State.isArrayOf_alike hZ.alike Ar1.2.1) Ar1.2.2 hin1 (Hh1.at hin1 (by rfl)) (g := (mkF m 12 #[.val (.ref a1), .val (.int (5 : Int32)), .val (.int (0 : Int32))] [(.int (5 : Int32)), (.ref a1)])) rfl rfl (hb hby d1_12)) ?_
  show OutW _ _ _ _ _ _ _ (s₁.setTop (mkF m 13 #[.val (.ref a1), .val (.int (5 : Int32)), .val (.int (0 : Int32))] [(.int w5)]))
  by_cases c13_2 : w5 = (0 : Int32)
  · skip
    refine OutW.back (fun t k => XS.ifYes X0.here hx rfl (pc0 := 13) (pc' := 18) rfl (hb hby d1_13) rfl ((if0 _ _).trans (teq c13_2).1) (by decide) (by decide) k) ?_
    show OutW _ _ _ _ _ _ _ (s₁.setTop (mkF m 18 #[.val (.ref a1), .val (.int (5 : Int32)), .val (.int (0 : Int32))] []))
    refine OutW.back (fun t k => XS.iinc X0.here hx rfl (hb hby d1_18) rfl (l' := #[.val (.ref a1), .val (.int (5 : Int32)), .val (.int ((0 : Int32) + (1 : Int32)))]) rfl k) ?_
    show OutW _ _ _ _ _ _ _ (s₁.setTop (mkF m 21 #[.val (.ref a1), .val (.int (5 : Int32)), .val (.int ((0 : Int32) + (1 : Int32)))] []))
    rw [show ((0 : Int32) + (1 : Int32)) = (1 : Int32) from by decide]
    refine OutW.back (fun t k => XS.goto X0.here hx rfl (pc0 := 21) (pc' := 2) rfl (hb hby d1_21) (by decide) (by decide) k) ?_
    show OutW _ _ _ _ _ _ _ (s₁.setTop (mkF m 2 #[.val (.ref a1), .val (.int (5 : Int32)), .val (.int (1 : Int32))] []))
    refine OutW.back (fun t k => XS.iloadN X0.here hx rfl (hb hby d1_2) rfl  k) ?_
    show OutW _ _ _ _ _ _ _ (s₁.setTop (mkF m 3 #[.val (.ref a1), .val (.int (5 : Int32)), .val (.int (1 : Int32))] [(.int (1 : Int32))]))
    refine OutW.back (fun t k => XS.bipush X0.here hx rfl (hb hby d1_3) k) ?_
    show OutW _ _ _ _ _ _ _ (s₁.setTop (mkF m 5 #[.val (.ref a1), .val (.int (5 : Int32)), .val (.int (1 : Int32))] [(.int (7 : Int32)), (.int (1 : Int32))]))
    refine OutW.back (fun t k => XS.icmpNo X0.here hx rfl (hb hby d1_5) rfl (tlt (by decide : (1 : Int32) < (7 : Int32))).2.1 k) ?_
    show OutW _ _ _ _ _ _ _ (s₁.setTop (mkF m 8 #[.val (.ref a1), .val (.int (5 : Int32)), .val (.int (1 : Int32))] []))
    refine OutW.back (fun t k => XS.aloadN X0.here hx rfl (hb hby d1_8) rfl rfl  k) ?_
    show OutW _ _ _ _ _ _ _ (s₁.setTop (mkF m 9 #[.val (.ref a1), .val (.int (5 : Int32)), .val (.int (1 : Int32))] [(.ref a1)]))
    refine OutW.back (fun t k => XS.iloadN X0.here hx rfl (hb hby d1_9) rfl  k) ?_
    show OutW _ _ _ _ _ _ _ (s₁.setTop (mkF m 10 #[.val (.ref a1), .val (.int (5 : Int32)), .val (.int (1 : Int32))] [(.int (5 : Int32)), (.ref a1)]))
    refine OutW.back (fun t k => XS.iloadN X0.here hx rfl (hb hby d1_10) rfl  k) ?_
    show OutW _ _ _ _ _ _ _ (s₁.setTop (mkF m 11 #[.val (.ref a1), .val (.int (5 : Int32)), .val (.int (1 : Int32))] [(.int (1 : Int32)), (.int (5 : Int32)), (.ref a1)]))
    refine OutW.back (fun t k => XS.iadd X0.here hx rfl (hb hby d1_11) rfl k) ?_
    show OutW _ _ _ _ _ _ _ (s₁.setTop (mkF m 12 #[.val (.ref a1), .val (.int (5 : Int32)), .val (.int (1 : Int32))] [(.int ((5 : Int32) + (1 : Int32))), (.ref a1)]))
    rw [show ((5 : Int32) + (1 : Int32)) = (6 : Int32) from by decide]
    obtain ⟨cl3, Ar3, Qk3, Sz3, Nn3, Hh3, Gg3⟩ := id V_a1
    have hin3 : ¬ ((6 : Int32) < 0 ∨ cl3.slots.size ≤ ((6 : Int32)).toNatClampNeg) := inb_of Sz3 ⟨by decide, by decide⟩
    refine OutW.back (X0.baloadBytes hx (j := (6 : Int32)) (v := (.int w6)) (by rw [e0]; exact Ar3.1) (State.isArrayOf_alike hZ.alike Ar3.2.1) Ar3.2.2 hin3 (Hh3.at hin3 (by rfl)) (g := (mkF m 12 #[.val (.ref a1), .val (.int (5 : Int32)), .val (.int (1 : Int32))] [(.int (6 : Int32)), (.ref a1)])) rfl rfl (hb hby d1_12)) ?_
    show OutW _ _ _ _ _ _ _ (s₁.setTop (mkF m 13 #[.val (.ref a1), .val (.int (5 : Int32)), .val (.int (1 : Int32))] [(.int w6)]))
    by_cases c13_4 : w6 = (0 : Int32)
    · skip
      refine OutW.back (fun t k => XS.ifYes X0.here hx rfl (pc0 := 13) (pc' := 18) rfl (hb hby d1_13) rfl ((if0 _ _).trans (teq c13_4).1) (by decide) (by decide) k) ?_
      show OutW _ _ _ _ _ _ _ (s₁.setTop (mkF m 18 #[.val (.ref a1), .val (.int (5 : Int32)), .val (.int (1 : Int32))] []))
      refine OutW.back (fun t k => XS.iinc X0.here hx rfl (hb hby d1_18) rfl (l' := #[.val (.ref a1), .val (.int (5 : Int32)), .val (.int ((1 : Int32) + (1 : Int32)))]) rfl k) ?_
      show OutW _ _ _ _ _ _ _ (s₁.setTop (mkF m 21 #[.val (.ref a1), .val (.int (5 : Int32)), .val (.int ((1 : Int32) + (1 : Int32)))] []))
      rw [show ((1 : Int32) + (1 : Int32)) = (2 : Int32) from by decide]
      refine OutW.back (fun t k => XS.goto X0.here hx rfl (pc0 := 21) (pc' := 2) rfl (hb hby d1_21) (by decide) (by decide) k) ?_
      show OutW _ _ _ _ _ _ _ (s₁.setTop (mkF m 2 #[.val (.ref a1), .val (.int (5 : Int32)), .val (.int (2 : Int32))] []))
      refine OutW.back (fun t k => XS.iloadN X0.here hx rfl (hb hby d1_2) rfl  k) ?_
      show OutW _ _ _ _ _ _ _ (s₁.setTop (mkF m 3 #[.val (.ref a1), .val (.int (5 : Int32)), .val (.int (2 : Int32))] [(.int (2 : Int32))]))
      refine OutW.back (fun t k => XS.bipush X0.here hx rfl (hb hby d1_3) k) ?_
      show OutW _ _ _ _ _ _ _ (s₁.setTop (mkF m 5 #[.val (.ref a1), .val (.int (5 : Int32)), .val (.int (2 : Int32))] [(.int (7 : Int32)), (.int (2 : Int32))]))
      refine OutW.back (fun t k => XS.icmpNo X0.here hx rfl (hb hby d1_5) rfl (tlt (by decide : (2 : Int32) < (7 : Int32))).2.1 k) ?_
      show OutW _ _ _ _ _ _ _ (s₁.setTop (mkF m 8 #[.val (.ref a1), .val (.int (5 : Int32)), .val (.int (2 : Int32))] []))
      refine OutW.back (fun t k => XS.aloadN X0.here hx rfl (hb hby d1_8) rfl rfl  k) ?_
      show OutW _ _ _ _ _ _ _ (s₁.setTop (mkF m 9 #[.val (.ref a1), .val (.int (5 : Int32)), .val (.int (2 : Int32))] [(.ref a1)]))
      refine OutW.back (fun t k => XS.iloadN X0.here hx rfl (hb hby d1_9) rfl  k) ?_
      show OutW _ _ _ _ _ _ _ (s₁.setTop (mkF m 10 #[.val (.ref a1), .val (.int (5 : Int32)), .val (.int (2 : Int32))] [(.int (5 : Int32)), (.ref a1)]))
      refine OutW.back (fun t k => XS.iloadN X0.here hx rfl (hb hby d1_10) rfl  k) ?_
      show OutW _ _ _ _ _ _ _ (s₁.setTop (mkF m 11 #[.val (.ref a1), .val (.int (5 : Int32)), .val (.int (2 : Int32))] [(.int (2 : Int32)), (.int (5 : Int32)), (.ref a1)]))
      refine OutW.back (fun t k => XS.iadd X0.here hx rfl (hb hby d1_11) rfl k) ?_
      show OutW _ _ _ _ _ _ _ (s₁.setTop (mkF m 12 #[.val (.ref a1), .val (.int (5 : Int32)), .val (.int (2 : Int32))] [(.int ((5 : Int32) + (2 : Int32))), (.ref a1)]))
      rw [show ((5 : Int32) + (2 : Int32)) = (7 : Int32) from by decide]
      obtain ⟨cl5, Ar5, Qk5, Sz5, Nn5, Hh5, Gg5⟩ := id V_a1
      have hin5 : ¬ ((7 : Int32) < 0 ∨ cl5.slots.size ≤ ((7 : Int32)).toNatClampNeg) := inb_of Sz5 ⟨by decide, by decide⟩
      refine OutW.back (X0.baloadBytes hx (j := (7 : Int32)) (v := (.int w7)) (by rw [e0]; exact Ar5.1) (State.isArrayOf_alike hZ.alike Ar5.2.1) Ar5.2.2 hin5 (Hh5.at hin5 (by rfl)) (g := (mkF m 12 #[.val (.ref a1), .val (.int (5 : Int32)), .val (.int (2 : Int32))] [(.int (7 : Int32)), (.ref a1)])) rfl rfl (hb hby d1_12)) ?_
      show OutW _ _ _ _ _ _ _ (s₁.setTop (mkF m 13 #[.val (.ref a1), .val (.int (5 : Int32)), .val (.int (2 : Int32))] [(.int w7)]))
      by_cases c13_6 : w7 = (0 : Int32)
      · skip
        refine OutW.back (fun t k => XS.ifYes X0.here hx rfl (pc0 := 13) (pc' := 18) rfl (hb hby d1_13) rfl ((if0 _ _).trans (teq c13_6).1) (by decide) (by decide) k) ?_
        show OutW _ _ _ _ _ _ _ (s₁.setTop (mkF m 18 #[.val (.ref a1), .val (.int (5 : Int32)), .val (.int (2 : Int32))] []))
        refine OutW.back (fun t k => XS.iinc X0.here hx rfl (hb hby d1_18) rfl (l' := #[.val (.ref a1), .val (.int (5 : Int32)), .val (.int ((2 : Int32) + (1 : Int32)))]) rfl k) ?_
        show OutW _ _ _ _ _ _ _ (s₁.setTop (mkF m 21 #[.val (.ref a1), .val (.int (5 : Int32)), .val (.int ((2 : Int32) + (1 : Int32)))] []))
        rw [show ((2 : Int32) + (1 : Int32)) = (3 : Int32) from by decide]
        refine OutW.back (fun t k => XS.goto X0.here hx rfl (pc0 := 21) (pc' := 2) rfl (hb hby d1_21) (by decide) (by decide) k) ?_
        show OutW _ _ _ _ _ _ _ (s₁.setTop (mkF m 2 #[.val (.ref a1), .val (.int (5 : Int32)), .val (.int (3 : Int32))] []))
        refine OutW.back (fun t k => XS.iloadN X0.here hx rfl (hb hby d1_2) rfl  k) ?_
        show OutW _ _ _ _ _ _ _ (s₁.setTop (mkF m 3 #[.val (.ref a1), .val (.int (5 : Int32)), .val (.int (3 : Int32))] [(.int (3 : Int32))]))
        refine OutW.back (fun t k => XS.bipush X0.here hx rfl (hb hby d1_3) k) ?_
        show OutW _ _ _ _ _ _ _ (s₁.setTop (mkF m 5 #[.val (.ref a1), .val (.int (5 : Int32)), .val (.int (3 : Int32))] [(.int (7 : Int32)), (.int (3 : Int32))]))
        refine OutW.back (fun t k => XS.icmpNo X0.here hx rfl (hb hby d1_5) rfl (tlt (by decide : (3 : Int32) < (7 : Int32))).2.1 k) ?_
        show OutW _ _ _ _ _ _ _ (s₁.setTop (mkF m 8 #[.val (.ref a1), .val (.int (5 : Int32)), .val (.int (3 : Int32))] []))
        refine OutW.back (fun t k => XS.aloadN X0.here hx rfl (hb hby d1_8) rfl rfl  k) ?_
        show OutW _ _ _ _ _ _ _ (s₁.setTop (mkF m 9 #[.val (.ref a1), .val (.int (5 : Int32)), .val (.int (3 : Int32))] [(.ref a1)]))
        refine OutW.back (fun t k => XS.iloadN X0.here hx rfl (hb hby d1_9) rfl  k) ?_
        show OutW _ _ _ _ _ _ _ (s₁.setTop (mkF m 10 #[.val (.ref a1), .val (.int (5 : Int32)), .val (.int (3 : Int32))] [(.int (5 : Int32)), (.ref a1)]))
        refine OutW.back (fun t k => XS.iloadN X0.here hx rfl (hb hby d1_10) rfl  k) ?_
        show OutW _ _ _ _ _ _ _ (s₁.setTop (mkF m 11 #[.val (.ref a1), .val (.int (5 : Int32)), .val (.int (3 : Int32))] [(.int (3 : Int32)), (.int (5 : Int32)), (.ref a1)]))
        refine OutW.back (fun t k => XS.iadd X0.here hx rfl (hb hby d1_11) rfl k) ?_
        show OutW _ _ _ _ _ _ _ (s₁.setTop (mkF m 12 #[.val (.ref a1), .val (.int (5 : Int32)), .val (.int (3 : Int32))] [(.int ((5 : Int32) + (3 : Int32))), (.ref a1)]))
        rw [show ((5 : Int32) + (3 : Int32)) = (8 : Int32) from by decide]
        obtain ⟨cl7, Ar7, Qk7, Sz7, Nn7, Hh7, Gg7⟩ := id V_a1
        have hin7 : ¬ ((8 : Int32) < 0 ∨ cl7.slots.size ≤ ((8 : Int32)).toNatClampNeg) := inb_of Sz7 ⟨by decide, by decide⟩
        refine OutW.back (X0.baloadBytes hx (j := (8 : Int32)) (v := (.int w8)) (by rw [e0]; exact Ar7.1) (State.isArrayOf_alike hZ.alike Ar7.2.1) Ar7.2.2 hin7 (Hh7.at hin7 (by rfl)) (g := (mkF m 12 #[.val (.ref a1), .val (.int (5 : Int32)), .val (.int (3 : Int32))] [(.int (8 : Int32)), (.ref a1)])) rfl rfl (hb hby d1_12)) ?_
        show OutW _ _ _ _ _ _ _ (s₁.setTop (mkF m 13 #[.val (.ref a1), .val (.int (5 : Int32)), .val (.int (3 : Int32))] [(.int w8)]))
        by_cases c13_8 : w8 = (0 : Int32)
        · skip
          refine OutW.back (fun t k => XS.ifYes X0.here hx rfl (pc0 := 13) (pc' := 18) rfl (hb hby d1_13) rfl ((if0 _ _).trans (teq c13_8).1) (by decide) (by decide) k) ?_
          show OutW _ _ _ _ _ _ _ (s₁.setTop (mkF m 18 #[.val (.ref a1), .val (.int (5 : Int32)), .val (.int (3 : Int32))] []))
          refine OutW.back (fun t k => XS.iinc X0.here hx rfl (hb hby d1_18) rfl (l' := #[.val (.ref a1), .val (.int (5 : Int32)), .val (.int ((3 : Int32) + (1 : Int32)))]) rfl k) ?_
          show OutW _ _ _ _ _ _ _ (s₁.setTop (mkF m 21 #[.val (.ref a1), .val (.int (5 : Int32)), .val (.int ((3 : Int32) + (1 : Int32)))] []))
          rw [show ((3 : Int32) + (1 : Int32)) = (4 : Int32) from by decide]
          refine OutW.back (fun t k => XS.goto X0.here hx rfl (pc0 := 21) (pc' := 2) rfl (hb hby d1_21) (by decide) (by decide) k) ?_
          show OutW _ _ _ _ _ _ _ (s₁.setTop (mkF m 2 #[.val (.ref a1), .val (.int (5 : Int32)), .val (.int (4 : Int32))] []))
          refine OutW.back (fun t k => XS.iloadN X0.here hx rfl (hb hby d1_2) rfl  k) ?_
          show OutW _ _ _ _ _ _ _ (s₁.setTop (mkF m 3 #[.val (.ref a1), .val (.int (5 : Int32)), .val (.int (4 : Int32))] [(.int (4 : Int32))]))
          refine OutW.back (fun t k => XS.bipush X0.here hx rfl (hb hby d1_3) k) ?_
          show OutW _ _ _ _ _ _ _ (s₁.setTop (mkF m 5 #[.val (.ref a1), .val (.int (5 : Int32)), .val (.int (4 : Int32))] [(.int (7 : Int32)), (.int (4 : Int32))]))
          refine OutW.back (fun t k => XS.icmpNo X0.here hx rfl (hb hby d1_5) rfl (tlt (by decide : (4 : Int32) < (7 : Int32))).2.1 k) ?_
          show OutW _ _ _ _ _ _ _ (s₁.setTop (mkF m 8 #[.val (.ref a1), .val (.int (5 : Int32)), .val (.int (4 : Int32))] []))
          refine OutW.back (fun t k => XS.aloadN X0.here hx rfl (hb hby d1_8) rfl rfl  k) ?_
          show OutW _ _ _ _ _ _ _ (s₁.setTop (mkF m 9 #[.val (.ref a1), .val (.int (5 : Int32)), .val (.int (4 : Int32))] [(.ref a1)]))
          refine OutW.back (fun t k => XS.iloadN X0.here hx rfl (hb hby d1_9) rfl  k) ?_
          show OutW _ _ _ _ _ _ _ (s₁.setTop (mkF m 10 #[.val (.ref a1), .val (.int (5 : Int32)), .val (.int (4 : Int32))] [(.int (5 : Int32)), (.ref a1)]))
          refine OutW.back (fun t k => XS.iloadN X0.here hx rfl (hb hby d1_10) rfl  k) ?_
          show OutW _ _ _ _ _ _ _ (s₁.setTop (mkF m 11 #[.val (.ref a1), .val (.int (5 : Int32)), .val (.int (4 : Int32))] [(.int (4 : Int32)), (.int (5 : Int32)), (.ref a1)]))
          refine OutW.back (fun t k => XS.iadd X0.here hx rfl (hb hby d1_11) rfl k) ?_
          show OutW _ _ _ _ _ _ _ (s₁.setTop (mkF m 12 #[.val (.ref a1), .val (.int (5 : Int32)), .val (.int (4 : Int32))] [(.int ((5 : Int32) + (4 : Int32))), (.ref a1)]))
          rw [show ((5 : Int32) + (4 : Int32)) = (9 : Int32) from by decide]
          obtain ⟨cl9, Ar9, Qk9, Sz9, Nn9, Hh9, Gg9⟩ := id V_a1
          have hin9 : ¬ ((9 : Int32) < 0 ∨ cl9.slots.size ≤ ((9 : Int32)).toNatClampNeg) := inb_of Sz9 ⟨by decide, by decide⟩
          refine OutW.back (X0.baloadBytes hx (j := (9 : Int32)) (v := (.int w9)) (by rw [e0]; exact Ar9.1) (State.isArrayOf_alike hZ.alike Ar9.2.1) Ar9.2.2 hin9 (Hh9.at hin9 (by rfl)) (g := (mkF m 12 #[.val (.ref a1), .val (.int (5 : Int32)), .val (.int (4 : Int32))] [(.int (9 : Int32)), (.ref a1)])) rfl rfl (hb hby d1_12)) ?_
          show OutW _ _ _ _ _ _ _ (s₁.setTop (mkF m 13 #[.val (.ref a1), .val (.int (5 : Int32)), .val (.int (4 : Int32))] [(.int w9)]))
          by_cases c13_10 : w9 = (0 : Int32)
          · skip
            refine OutW.back (fun t k => XS.ifYes X0.here hx rfl (pc0 := 13) (pc' := 18) rfl (hb hby d1_13) rfl ((if0 _ _).trans (teq c13_10).1) (by decide) (by decide) k) ?_
            show OutW _ _ _ _ _ _ _ (s₁.setTop (mkF m 18 #[.val (.ref a1), .val (.int (5 : Int32)), .val (.int (4 : Int32))] []))
            refine OutW.back (fun t k => XS.iinc X0.here hx rfl (hb hby d1_18) rfl (l' := #[.val (.ref a1), .val (.int (5 : Int32)), .val (.int ((4 : Int32) + (1 : Int32)))]) rfl k) ?_
            show OutW _ _ _ _ _ _ _ (s₁.setTop (mkF m 21 #[.val (.ref a1), .val (.int (5 : Int32)), .val (.int ((4 : Int32) + (1 : Int32)))] []))
            rw [show ((4 : Int32) + (1 : Int32)) = (5 : Int32) from by decide]
            refine OutW.back (fun t k => XS.goto X0.here hx rfl (pc0 := 21) (pc' := 2) rfl (hb hby d1_21) (by decide) (by decide) k) ?_
            show OutW _ _ _ _ _ _ _ (s₁.setTop (mkF m 2 #[.val (.ref a1), .val (.int (5 : Int32)), .val (.int (5 : Int32))] []))
            refine OutW.back (fun t k => XS.iloadN X0.here hx rfl (hb hby d1_2) rfl  k) ?_
            show OutW _ _ _ _ _ _ _ (s₁.setTop (mkF m 3 #[.val (.ref a1), .val (.int (5 : Int32)), .val (.int (5 : Int32))] [(.int (5 : Int32))]))
            refine OutW.back (fun t k => XS.bipush X0.here hx rfl (hb hby d1_3) k) ?_
            show OutW _ _ _ _ _ _ _ (s₁.setTop (mkF m 5 #[.val (.ref a1), .val (.int (5 : Int32)), .val (.int (5 : Int32))] [(.int (7 : Int32)), (.int (5 : Int32))]))
            refine OutW.back (fun t k => XS.icmpNo X0.here hx rfl (hb hby d1_5) rfl (tlt (by decide : (5 : Int32) < (7 : Int32))).2.1 k) ?_
            show OutW _ _ _ _ _ _ _ (s₁.setTop (mkF m 8 #[.val (.ref a1), .val (.int (5 : Int32)), .val (.int (5 : Int32))] []))
            refine OutW.back (fun t k => XS.aloadN X0.here hx rfl (hb hby d1_8) rfl rfl  k) ?_
            show OutW _ _ _ _ _ _ _ (s₁.setTop (mkF m 9 #[.val (.ref a1), .val (.int (5 : Int32)), .val (.int (5 : Int32))] [(.ref a1)]))
            refine OutW.back (fun t k => XS.iloadN X0.here hx rfl (hb hby d1_9) rfl  k) ?_
            show OutW _ _ _ _ _ _ _ (s₁.setTop (mkF m 10 #[.val (.ref a1), .val (.int (5 : Int32)), .val (.int (5 : Int32))] [(.int (5 : Int32)), (.ref a1)]))
            refine OutW.back (fun t k => XS.iloadN X0.here hx rfl (hb hby d1_10) rfl  k) ?_
            show OutW _ _ _ _ _ _ _ (s₁.setTop (mkF m 11 #[.val (.ref a1), .val (.int (5 : Int32)), .val (.int (5 : Int32))] [(.int (5 : Int32)), (.int (5 : Int32)), (.ref a1)]))
            refine OutW.back (fun t k => XS.iadd X0.here hx rfl (hb hby d1_11) rfl k) ?_
            show OutW _ _ _ _ _ _ _ (s₁.setTop (mkF m 12 #[.val (.ref a1), .val (.int (5 : Int32)), .val (.int (5 : Int32))] [(.int ((5 : Int32) + (5 : Int32))), (.ref a1)]))
            rw [show ((5 : Int32) + (5 : Int32)) = (10 : Int32) from by decide]
            obtain ⟨cl11, Ar11, Qk11, Sz11, Nn11, Hh11, Gg11⟩ := id V_a1
            have hin11 : ¬ ((10 : Int32) < 0 ∨ cl11.slots.size ≤ ((10 : Int32)).toNatClampNeg) := inb_of Sz11 ⟨by decide, by decide⟩
            refine OutW.back (X0.baloadBytes hx (j := (10 : Int32)) (v := (.int w10)) (by rw [e0]; exact Ar11.1) (State.isArrayOf_alike hZ.alike Ar11.2.1) Ar11.2.2 hin11 (Hh11.at hin11 (by rfl)) (g := (mkF m 12 #[.val (.ref a1), .val (.int (5 : Int32)), .val (.int (5 : Int32))] [(.int (10 : Int32)), (.ref a1)])) rfl rfl (hb hby d1_12)) ?_
            show OutW _ _ _ _ _ _ _ (s₁.setTop (mkF m 13 #[.val (.ref a1), .val (.int (5 : Int32)), .val (.int (5 : Int32))] [(.int w10)]))
            by_cases c13_12 : w10 = (0 : Int32)
            · skip
              refine OutW.back (fun t k => XS.ifYes X0.here hx rfl (pc0 := 13) (pc' := 18) rfl (hb hby d1_13) rfl ((if0 _ _).trans (teq c13_12).1) (by decide) (by decide) k) ?_
              show OutW _ _ _ _ _ _ _ (s₁.setTop (mkF m 18 #[.val (.ref a1), .val (.int (5 : Int32)), .val (.int (5 : Int32))] []))
              refine OutW.back (fun t k => XS.iinc X0.here hx rfl (hb hby d1_18) rfl (l' := #[.val (.ref a1), .val (.int (5 : Int32)), .val (.int ((5 : Int32) + (1 : Int32)))]) rfl k) ?_
              show OutW _ _ _ _ _ _ _ (s₁.setTop (mkF m 21 #[.val (.ref a1), .val (.int (5 : Int32)), .val (.int ((5 : Int32) + (1 : Int32)))] []))
              rw [show ((5 : Int32) + (1 : Int32)) = (6 : Int32) from by decide]
              refine OutW.back (fun t k => XS.goto X0.here hx rfl (pc0 := 21) (pc' := 2) rfl (hb hby d1_21) (by decide) (by decide) k) ?_
              show OutW _ _ _ _ _ _ _ (s₁.setTop (mkF m 2 #[.val (.ref a1), .val (.int (5 : Int32)), .val (.int (6 : Int32))] []))
              refine OutW.back (fun t k => XS.iloadN X0.here hx rfl (hb hby d1_2) rfl  k) ?_
              show OutW _ _ _ _ _ _ _ (s₁.setTop (mkF m 3 #[.val (.ref a1), .val (.int (5 : Int32)), .val (.int (6 : Int32))] [(.int (6 : Int32))]))
              refine OutW.back (fun t k => XS.bipush X0.here hx rfl (hb hby d1_3) k) ?_
              show OutW _ _ _ _ _ _ _ (s₁.setTop (mkF m 5 #[.val (.ref a1), .val (.int (5 : Int32)), .val (.int (6 : Int32))] [(.int (7 : Int32)), (.int (6 : Int32))]))
              refine OutW.back (fun t k => XS.icmpNo X0.here hx rfl (hb hby d1_5) rfl (tlt (by decide : (6 : Int32) < (7 : Int32))).2.1 k) ?_
              show OutW _ _ _ _ _ _ _ (s₁.setTop (mkF m 8 #[.val (.ref a1), .val (.int (5 : Int32)), .val (.int (6 : Int32))] []))
              refine OutW.back (fun t k => XS.aloadN X0.here hx rfl (hb hby d1_8) rfl rfl  k) ?_
              show OutW _ _ _ _ _ _ _ (s₁.setTop (mkF m 9 #[.val (.ref a1), .val (.int (5 : Int32)), .val (.int (6 : Int32))] [(.ref a1)]))
              refine OutW.back (fun t k => XS.iloadN X0.here hx rfl (hb hby d1_9) rfl  k) ?_
              show OutW _ _ _ _ _ _ _ (s₁.setTop (mkF m 10 #[.val (.ref a1), .val (.int (5 : Int32)), .val (.int (6 : Int32))] [(.int (5 : Int32)), (.ref a1)]))
              refine OutW.back (fun t k => XS.iloadN X0.here hx rfl (hb hby d1_10) rfl  k) ?_
              show OutW _ _ _ _ _ _ _ (s₁.setTop (mkF m 11 #[.val (.ref a1), .val (.int (5 : Int32)), .val (.int (6 : Int32))] [(.int (6 : Int32)), (.int (5 : Int32)), (.ref a1)]))
              refine OutW.back (fun t k => XS.iadd X0.here hx rfl (hb hby d1_11) rfl k) ?_
              show OutW _ _ _ _ _ _ _ (s₁.setTop (mkF m 12 #[.val (.ref a1), .val (.int (5 : Int32)), .val (.int (6 : Int32))] [(.int ((5 : Int32) + (6 : Int32))), (.ref a1)]))
              rw [show ((5 : Int32) + (6 : Int32)) = (11 : Int32) from by decide]
              obtain ⟨cl13, Ar13, Qk13, Sz13, Nn13, Hh13, Gg13⟩ := id V_a1
              have hin13 : ¬ ((11 : Int32) < 0 ∨ cl13.slots.size ≤ ((11 : Int32)).toNatClampNeg) := inb_of Sz13 ⟨by decide, by decide⟩
              refine OutW.back (X0.baloadBytes hx (j := (11 : Int32)) (v := (.int w11)) (by rw [e0]; exact Ar13.1) (State.isArrayOf_alike hZ.alike Ar13.2.1) Ar13.2.2 hin13 (Hh13.at hin13 (by rfl)) (g := (mkF m 12 #[.val (.ref a1), .val (.int (5 : Int32)), .val (.int (6 : Int32))] [(.int (11 : Int32)), (.ref a1)])) rfl rfl (hb hby d1_12)) ?_
              show OutW _ _ _ _ _ _ _ (s₁.setTop (mkF m 13 #[.val (.ref a1), .val (.int (5 : Int32)), .val (.int (6 : Int32))] [(.int w11)]))
              by_cases c13_14 : w11 = (0 : Int32)
              · skip
                refine OutW.back (fun t k => XS.ifYes X0.here hx rfl (pc0 := 13) (pc' := 18) rfl (hb hby d1_13) rfl ((if0 _ _).trans (teq c13_14).1) (by decide) (by decide) k) ?_
                show OutW _ _ _ _ _ _ _ (s₁.setTop (mkF m 18 #[.val (.ref a1), .val (.int (5 : Int32)), .val (.int (6 : Int32))] []))
                refine OutW.back (fun t k => XS.iinc X0.here hx rfl (hb hby d1_18) rfl (l' := #[.val (.ref a1), .val (.int (5 : Int32)), .val (.int ((6 : Int32) + (1 : Int32)))]) rfl k) ?_
                show OutW _ _ _ _ _ _ _ (s₁.setTop (mkF m 21 #[.val (.ref a1), .val (.int (5 : Int32)), .val (.int ((6 : Int32) + (1 : Int32)))] []))
                rw [show ((6 : Int32) + (1 : Int32)) = (7 : Int32) from by decide]
                refine OutW.back (fun t k => XS.goto X0.here hx rfl (pc0 := 21) (pc' := 2) rfl (hb hby d1_21) (by decide) (by decide) k) ?_
                show OutW _ _ _ _ _ _ _ (s₁.setTop (mkF m 2 #[.val (.ref a1), .val (.int (5 : Int32)), .val (.int (7 : Int32))] []))
                refine OutW.back (fun t k => XS.iloadN X0.here hx rfl (hb hby d1_2) rfl  k) ?_
                show OutW _ _ _ _ _ _ _ (s₁.setTop (mkF m 3 #[.val (.ref a1), .val (.int (5 : Int32)), .val (.int (7 : Int32))] [(.int (7 : Int32))]))
                refine OutW.back (fun t k => XS.bipush X0.here hx rfl (hb hby d1_3) k) ?_
                show OutW _ _ _ _ _ _ _ (s₁.setTop (mkF m 5 #[.val (.ref a1), .val (.int (5 : Int32)), .val (.int (7 : Int32))] [(.int (7 : Int32)), (.int (7 : Int32))]))
                refine OutW.back (fun t k => XS.icmpYes X0.here hx rfl (pc0 := 5) (pc' := 24) rfl (hb hby d1_5) rfl (flt (by decide : ¬ ((7 : Int32) < (7 : Int32)))).2.1 (by decide) (by decide) k) ?_
                show OutW _ _ _ _ _ _ _ (s₁.setTop (mkF m 24 #[.val (.ref a1), .val (.int (5 : Int32)), .val (.int (7 : Int32))] []))
                refine OutW.back (fun t k => XS.aloadN X0.here hx rfl (hb hby d1_24) rfl rfl  k) ?_
                show OutW _ _ _ _ _ _ _ (s₁.setTop (mkF m 25 #[.val (.ref a1), .val (.int (5 : Int32)), .val (.int (7 : Int32))] [(.ref a1)]))
                refine OutW.back (fun t k => XS.iloadN X0.here hx rfl (hb hby d1_25) rfl  k) ?_
                show OutW _ _ _ _ _ _ _ (s₁.setTop (mkF m 26 #[.val (.ref a1), .val (.int (5 : Int32)), .val (.int (7 : Int32))] [(.int (5 : Int32)), (.ref a1)]))
                refine OutW.back (fun t k => XS.bipush X0.here hx rfl (hb hby d1_26) k) ?_
                show OutW _ _ _ _ _ _ _ (s₁.setTop (mkF m 28 #[.val (.ref a1), .val (.int (5 : Int32)), .val (.int (7 : Int32))] [(.int (8 : Int32)), (.int (5 : Int32)), (.ref a1)]))
                refine OutW.back (fun t k => XS.iadd X0.here hx rfl (hb hby d1_28) rfl k) ?_
                show OutW _ _ _ _ _ _ _ (s₁.setTop (mkF m 29 #[.val (.ref a1), .val (.int (5 : Int32)), .val (.int (7 : Int32))] [(.int ((5 : Int32) + (8 : Int32))), (.ref a1)]))
                rw [show ((5 : Int32) + (8 : Int32)) = (13 : Int32) from by decide]
                refine OutW.back (fun t k => XS.iconst X0.here hx rfl (hb hby d1_29) k) ?_
                show OutW _ _ _ _ _ _ _ (s₁.setTop (mkF m 30 #[.val (.ref a1), .val (.int (5 : Int32)), .val (.int (7 : Int32))] [(.int (1 : Int32)), (.int (13 : Int32)), (.ref a1)]))
                refine OutW.back (fun t k => XS.isub X0.here hx rfl (hb hby d1_30) rfl k) ?_
                show OutW _ _ _ _ _ _ _ (s₁.setTop (mkF m 31 #[.val (.ref a1), .val (.int (5 : Int32)), .val (.int (7 : Int32))] [(.int ((13 : Int32) - (1 : Int32))), (.ref a1)]))
                rw [show ((13 : Int32) - (1 : Int32)) = (12 : Int32) from by decide]
                obtain ⟨cl15, Ar15, Qk15, Sz15, Nn15, Hh15, Gg15⟩ := id V_a1
                have hin15 : ¬ ((12 : Int32) < 0 ∨ cl15.slots.size ≤ ((12 : Int32)).toNatClampNeg) := inb_of Sz15 ⟨by decide, by decide⟩
                refine OutW.back (X0.baloadBytes hx (j := (12 : Int32)) (v := (.int w12)) (by rw [e0]; exact Ar15.1) (State.isArrayOf_alike hZ.alike Ar15.2.1) Ar15.2.2 hin15 (Hh15.at hin15 (by rfl)) (g := (mkF m 31 #[.val (.ref a1), .val (.int (5 : Int32)), .val (.int (7 : Int32))] [(.int (12 : Int32)), (.ref a1)])) rfl rfl (hb hby d1_31)) ?_
                show OutW _ _ _ _ _ _ _ (s₁.setTop (mkF m 32 #[.val (.ref a1), .val (.int (5 : Int32)), .val (.int (7 : Int32))] [(.int w12)]))
                refine OutW.back (fun t k => XS.bipush X0.here hx rfl (hb hby d1_32) k) ?_
                show OutW _ _ _ _ _ _ _ (s₁.setTop (mkF m 34 #[.val (.ref a1), .val (.int (5 : Int32)), .val (.int (7 : Int32))] [(.int (-128 : Int32)), (.int w12)]))
                by_cases c34_16 : w12 = (-128 : Int32)
                · skip
                  refine OutW.back (fun t k => XS.icmpNo X0.here hx rfl (hb hby d1_34) rfl (teq c34_16).2 k) ?_
                  show OutW _ _ _ _ _ _ _ (s₁.setTop (mkF m 37 #[.val (.ref a1), .val (.int (5 : Int32)), .val (.int (7 : Int32))] []))
                  refine OutW.back (fun t k => XS.iconst X0.here hx rfl (hb hby d1_37) k) ?_
                  show OutW _ _ _ _ _ _ _ (s₁.setTop (mkF m 38 #[.val (.ref a1), .val (.int (5 : Int32)), .val (.int (7 : Int32))] [(.int (1 : Int32))]))
                  refine OutW.back (fun t k => XS.goto X0.here hx rfl (pc0 := 38) (pc' := 42) rfl (hb hby d1_38) (by decide) (by decide) k) ?_
                  show OutW _ _ _ _ _ _ _ (s₁.setTop (mkF m 42 #[.val (.ref a1), .val (.int (5 : Int32)), .val (.int (7 : Int32))] [(.int (1 : Int32))]))
                  refine OutW.retN X0 hx (t := .boolean) (z' := (1 : Int32)) Bd.returns (by simp) hlk (hb hby d1_42) ?hz (by decide) (by decide) ?_
                  case hz =>
                    rfl
                  show Q1_5 Z a1 w0 w1 w2 w3 w4 w5 w6 w7 w8 w9 w10 w11 w12 w13 w14 w15 kk h0 n0 _ s₁.heap _
                  rw [e0]
                  exact ⟨by rw [negz5, if_pos c13_2, if_pos c13_4, if_pos c13_6, if_pos c13_8, if_pos c13_10, if_pos c13_12, if_pos c13_14, if_pos c34_16], N0, rfl⟩
                · skip
                  refine OutW.back (fun t k => XS.icmpYes X0.here hx rfl (pc0 := 34) (pc' := 41) rfl (hb hby d1_34) rfl (feq c34_16).2 (by decide) (by decide) k) ?_
                  show OutW _ _ _ _ _ _ _ (s₁.setTop (mkF m 41 #[.val (.ref a1), .val (.int (5 : Int32)), .val (.int (7 : Int32))] []))
                  refine OutW.back (fun t k => XS.iconst X0.here hx rfl (hb hby d1_41) k) ?_
                  show OutW _ _ _ _ _ _ _ (s₁.setTop (mkF m 42 #[.val (.ref a1), .val (.int (5 : Int32)), .val (.int (7 : Int32))] [(.int (0 : Int32))]))
                  refine OutW.retN X0 hx (t := .boolean) (z' := (0 : Int32)) Bd.returns (by simp) hlk (hb hby d1_42) ?hz (by decide) (by decide) ?_
                  case hz =>
                    rfl
                  show Q1_5 Z a1 w0 w1 w2 w3 w4 w5 w6 w7 w8 w9 w10 w11 w12 w13 w14 w15 kk h0 n0 _ s₁.heap _
                  rw [e0]
                  exact ⟨by rw [negz5, if_pos c13_2, if_pos c13_4, if_pos c13_6, if_pos c13_8, if_pos c13_10, if_pos c13_12, if_pos c13_14, if_neg c34_16], N0, rfl⟩
              · skip
                refine OutW.back (fun t k => XS.ifNo X0.here hx rfl (hb hby d1_13) rfl ((if0 _ _).trans (feq c13_14).1) k) ?_
                show OutW _ _ _ _ _ _ _ (s₁.setTop (mkF m 16 #[.val (.ref a1), .val (.int (5 : Int32)), .val (.int (6 : Int32))] []))
                refine OutW.back (fun t k => XS.iconst X0.here hx rfl (hb hby d1_16) k) ?_
                show OutW _ _ _ _ _ _ _ (s₁.setTop (mkF m 17 #[.val (.ref a1), .val (.int (5 : Int32)), .val (.int (6 : Int32))] [(.int (0 : Int32))]))
                refine OutW.retN X0 hx (t := .boolean) (z' := (0 : Int32)) Bd.returns (by simp) hlk (hb hby d1_17) ?hz (by decide) (by decide) ?_
                case hz =>
                  rfl
                show Q1_5 Z a1 w0 w1 w2 w3 w4 w5 w6 w7 w8 w9 w10 w11 w12 w13 w14 w15 kk h0 n0 _ s₁.heap _
                rw [e0]
                exact ⟨by rw [negz5, if_pos c13_2, if_pos c13_4, if_pos c13_6, if_pos c13_8, if_pos c13_10, if_pos c13_12, if_neg c13_14], N0, rfl⟩
            · skip
              refine OutW.back (fun t k => XS.ifNo X0.here hx rfl (hb hby d1_13) rfl ((if0 _ _).trans (feq c13_12).1) k) ?_
              show OutW _ _ _ _ _ _ _ (s₁.setTop (mkF m 16 #[.val (.ref a1), .val (.int (5 : Int32)), .val (.int (5 : Int32))] []))
              refine OutW.back (fun t k => XS.iconst X0.here hx rfl (hb hby d1_16) k) ?_
              show OutW _ _ _ _ _ _ _ (s₁.setTop (mkF m 17 #[.val (.ref a1), .val (.int (5 : Int32)), .val (.int (5 : Int32))] [(.int (0 : Int32))]))
              refine OutW.retN X0 hx (t := .boolean) (z' := (0 : Int32)) Bd.returns (by simp) hlk (hb hby d1_17) ?hz (by decide) (by decide) ?_
              case hz =>
                rfl
              show Q1_5 Z a1 w0 w1 w2 w3 w4 w5 w6 w7 w8 w9 w10 w11 w12 w13 w14 w15 kk h0 n0 _ s₁.heap _
              rw [e0]
              exact ⟨by rw [negz5, if_pos c13_2, if_pos c13_4, if_pos c13_6, if_pos c13_8, if_pos c13_10, if_neg c13_12], N0, rfl⟩
          · skip
            refine OutW.back (fun t k => XS.ifNo X0.here hx rfl (hb hby d1_13) rfl ((if0 _ _).trans (feq c13_10).1) k) ?_
            show OutW _ _ _ _ _ _ _ (s₁.setTop (mkF m 16 #[.val (.ref a1), .val (.int (5 : Int32)), .val (.int (4 : Int32))] []))
            refine OutW.back (fun t k => XS.iconst X0.here hx rfl (hb hby d1_16) k) ?_
            show OutW _ _ _ _ _ _ _ (s₁.setTop (mkF m 17 #[.val (.ref a1), .val (.int (5 : Int32)), .val (.int (4 : Int32))] [(.int (0 : Int32))]))
            refine OutW.retN X0 hx (t := .boolean) (z' := (0 : Int32)) Bd.returns (by simp) hlk (hb hby d1_17) ?hz (by decide) (by decide) ?_
            case hz =>
              rfl
            show Q1_5 Z a1 w0 w1 w2 w3 w4 w5 w6 w7 w8 w9 w10 w11 w12 w13 w14 w15 kk h0 n0 _ s₁.heap _
            rw [e0]
            exact ⟨by rw [negz5, if_pos c13_2, if_pos c13_4, if_pos c13_6, if_pos c13_8, if_neg c13_10], N0, rfl⟩
        · skip
          refine OutW.back (fun t k => XS.ifNo X0.here hx rfl (hb hby d1_13) rfl ((if0 _ _).trans (feq c13_8).1) k) ?_
          show OutW _ _ _ _ _ _ _ (s₁.setTop (mkF m 16 #[.val (.ref a1), .val (.int (5 : Int32)), .val (.int (3 : Int32))] []))
          refine OutW.back (fun t k => XS.iconst X0.here hx rfl (hb hby d1_16) k) ?_
          show OutW _ _ _ _ _ _ _ (s₁.setTop (mkF m 17 #[.val (.ref a1), .val (.int (5 : Int32)), .val (.int (3 : Int32))] [(.int (0 : Int32))]))
          refine OutW.retN X0 hx (t := .boolean) (z' := (0 : Int32)) Bd.returns (by simp) hlk (hb hby d1_17) ?hz (by decide) (by decide) ?_
          case hz =>
            rfl
          show Q1_5 Z a1 w0 w1 w2 w3 w4 w5 w6 w7 w8 w9 w10 w11 w12 w13 w14 w15 kk h0 n0 _ s₁.heap _
          rw [e0]
          exact ⟨by rw [negz5, if_pos c13_2, if_pos c13_4, if_pos c13_6, if_neg c13_8], N0, rfl⟩
      · skip
        refine OutW.back (fun t k => XS.ifNo X0.here hx rfl (hb hby d1_13) rfl ((if0 _ _).trans (feq c13_6).1) k) ?_
        show OutW _ _ _ _ _ _ _ (s₁.setTop (mkF m 16 #[.val (.ref a1), .val (.int (5 : Int32)), .val (.int (2 : Int32))] []))
        refine OutW.back (fun t k => XS.iconst X0.here hx rfl (hb hby d1_16) k) ?_
        show OutW _ _ _ _ _ _ _ (s₁.setTop (mkF m 17 #[.val (.ref a1), .val (.int (5 : Int32)), .val (.int (2 : Int32))] [(.int (0 : Int32))]))
        refine OutW.retN X0 hx (t := .boolean) (z' := (0 : Int32)) Bd.returns (by simp) hlk (hb hby d1_17) ?hz (by decide) (by decide) ?_
        case hz =>
          rfl
        show Q1_5 Z a1 w0 w1 w2 w3 w4 w5 w6 w7 w8 w9 w10 w11 w12 w13 w14 w15 kk h0 n0 _ s₁.heap _
        rw [e0]
        exact ⟨by rw [negz5, if_pos c13_2, if_pos c13_4, if_neg c13_6], N0, rfl⟩
    · skip
      refine OutW.back (fun t k => XS.ifNo X0.here hx rfl (hb hby d1_13) rfl ((if0 _ _).trans (feq c13_4).1) k) ?_
      show OutW _ _ _ _ _ _ _ (s₁.setTop (mkF m 16 #[.val (.ref a1), .val (.int (5 : Int32)), .val (.int (1 : Int32))] []))
      refine OutW.back (fun t k => XS.iconst X0.here hx rfl (hb hby d1_16) k) ?_
      show OutW _ _ _ _ _ _ _ (s₁.setTop (mkF m 17 #[.val (.ref a1), .val (.int (5 : Int32)), .val (.int (1 : Int32))] [(.int (0 : Int32))]))
      refine OutW.retN X0 hx (t := .boolean) (z' := (0 : Int32)) Bd.returns (by simp) hlk (hb hby d1_17) ?hz (by decide) (by decide) ?_
      case hz =>
        rfl
      show Q1_5 Z a1 w0 w1 w2 w3 w4 w5 w6 w7 w8 w9 w10 w11 w12 w13 w14 w15 kk h0 n0 _ s₁.heap _
      rw [e0]
      exact ⟨by rw [negz5, if_pos c13_2, if_neg c13_4], N0, rfl⟩
  · skip
    refine OutW.back (fun t k => XS.ifNo X0.here hx rfl (hb hby d1_13) rfl ((if0 _ _).trans (feq c13_2).1) k) ?_
    show OutW _ _ _ _ _ _ _ (s₁.setTop (mkF m 16 #[.val (.ref a1), .val (.int (5 : Int32)), .val (.int (0 : Int32))] []))
    refine OutW.back (fun t k => XS.iconst X0.here hx rfl (hb hby d1_16) k) ?_
    show OutW _ _ _ _ _ _ _ (s₁.setTop (mkF m 17 #[.val (.ref a1), .val (.int (5 : Int32)), .val (.int (0 : Int32))] [(.int (0 : Int32))]))
    refine OutW.retN X0 hx (t := .boolean) (z' := (0 : Int32)) Bd.returns (by simp) hlk (hb hby d1_17) ?hz (by decide) (by decide) ?_
    case hz =>
      rfl
    show Q1_5 Z a1 w0 w1 w2 w3 w4 w5 w6 w7 w8 w9 w10 w11 w12 w13 w14 w15 kk h0 n0 _ s₁.heap _
    rw [e0]
    exact ⟨by rw [negz5, if_neg c13_2], N0, rfl⟩
def negz6 (w6 : Int32) (w7 : Int32) (w8 : Int32) (w9 : Int32) (w10 : Int32) (w11 : Int32) (w12 : Int32) (w13 : Int32) : Int32 := (if w6 = (0 : Int32) then (if w7 = (0 : Int32) then (if w8 = (0 : Int32) then (if w9 = (0 : Int32) then (if w10 = (0 : Int32) then (if w11 = (0 : Int32) then (if w12 = (0 : Int32) then (if w13 = (-128 : Int32) then (1 : Int32) else (0 : Int32)) else (0 : Int32)) else (0 : Int32)) else (0 : Int32)) else (0 : Int32)) else (0 : Int32)) else (0 : Int32)) else (0 : Int32))
theorem ef_1_6 (m : MethodId) (x0 : Addr) : entryFrame m #[(.ref x0), (.int (6 : Int32))] 3 = mkF m 0 #[.val (.ref x0), .val (.int (6 : Int32)), .unset] [] := by first | (simp [entryFrame, mkF, argsToLocals, Value.category]; done) | rfl
def Q1_6 (Z : State) (a1 : Addr) (w0 : Int32) (w1 : Int32) (w2 : Int32) (w3 : Int32) (w4 : Int32) (w5 : Int32) (w6 : Int32) (w7 : Int32) (w8 : Int32) (w9 : Int32) (w10 : Int32) (w11 : Int32) (w12 : Int32) (w13 : Int32) (w14 : Int32) (w15 : Int32) (kk : ClassId) (h0 : Heap) (n0 : Nat) (v : Option Value) (h : Heap) (L : List Loc) : Prop := v = some (.int (negz6 w6 w7 w8 w9 w10 w11 w12 w13)) ∧ Fr n0 L ∧ h = h0
set_option maxRecDepth 65536 in
set_option maxHeartbeats 40000000 in
theorem rm1_6 (l : Launch) (Z : State) (a0 : Array Value) (hw : ∀ d ∈ tables_1, d.before a0 Z = true) (ws : List Jvm.Cond) (a1 : Addr) (w0 : Int32) (w1 : Int32) (w2 : Int32) (w3 : Int32) (w4 : Int32) (w5 : Int32) (w6 : Int32) (w7 : Int32) (w8 : Int32) (w9 : Int32) (w10 : Int32) (w11 : Int32) (w12 : Int32) (w13 : Int32) (w14 : Int32) (w15 : Int32) (kk : ClassId) (h0 : Heap) (n0 : Nat) (Z0 : n0 ≤ h0.size) (V_a1 : Arv Z h0 a1 kk .byte (16 : Int32) [(.int w0), (.int w1), (.int w2), (.int w3), (.int w4), (.int w5), (.int w6), (.int w7), (.int w8), (.int w9), (.int w10), (.int w11), (.int w12), (.int w13), (.int w14), (.int w15)] (.int (0 : Int32))) :
    MetFree l (⟨"com/example/patchloom/patchloom/delta/SignMagnitude", "isNegativeZero", "([BI)Z"⟩ : MethodName) (head1 (Jvm.Cond.code (⟨"com/example/patchloom/patchloom/delta/SignMagnitude", "isNegativeZero", "([BI)Z"⟩ : MethodName) prog_26_method_3_code 3 (some .boolean) :: ws) ({ frames := 0, cells := 0, slots := 0, locals := 0 } : Room)) (fun a U => a = #[(.ref a1), (.int (6 : Int32))] ∧ Z.Warmed39 U.vm ∧ U.heap = h0) (fun _ _ _ _ _ => True) (fun _ U o U' => ∃ v L, o = .returned v ∧ Q1_6 Z a1 w0 w1 w2 w3 w4 w5 w6 w7 w8 w9 w10 w11 w12 w13 w14 w15 kk h0 n0 v U'.heap L ∧ FrameEnd U o U' L ({ frames := 0, cells := 0, slots := 0, locals := 0 } : Room).cells ({ frames := 0, cells := 0, slots := 0, locals := 0 } : Room).slots) := by
  refine MetFree.of_bodySF (plainFor_of_name pn_1) hisR ?_
  intro p e s m args below meth c s₁ Bd hml0 hP hK
  obtain ⟨rfl, hZ, hh⟩ := hP
  have hx := Bd.exec
  have hby := Bd.bytes
  have hlk := Bd.notSynchronized
  have hml : c.maxLocals = 3 := hml0
  have hown : s.vm.findClass "com/example/patchloom/patchloom/delta/SignMagnitude" = some m.cls := findClass_of_methodNamed Bd.named
  have hnm := (name_of_methodNamed Bd.named Bd.method).1
  have X0 : Stand p l e ({ frames := 0, cells := 0, slots := 0, locals := 0 } : Room) s m #[(.ref a1), (.int (6 : Int32))] below meth c s₁ [] 0 0 := Stand.of_body Bd
  have e0 : s₁.heap = h0 := by rw [← hh, Bd.state]; rfl
  have N0 := Fr.nil n0
  have K0 : Keep h0 h0 [] := Keep.refl h0 _
  show OutW p e below s ({ frames := 0, cells := 0, slots := 0, locals := 0 } : Room).cells ({ frames := 0, cells := 0, slots := 0, locals := 0 } : Room).slots (Q1_6 Z a1 w0 w1 w2 w3 w4 w5 w6 w7 w8 w9 w10 w11 w12 w13 w14 w15 kk h0 n0) _
  refine OutW.back (fun t k => castTop (ef_1_6 m a1) k) ?_
  show OutW _ _ _ _ _ _ _ (s₁.setTop (mkF m 0 #[.val (.ref a1), .val (.int (6 : Int32)), .unset] []))
  refine OutW.back (fun t k => XS.iconst X0.here hx rfl (hb hby d1_0) k) ?_
  show OutW _ _ _ _ _ _ _ (s₁.setTop (mkF m 1 #[.val (.ref a1), .val (.int (6 : Int32)), .unset] [(.int (0 : Int32))]))
  refine OutW.back (fun t k => XS.istoreN X0.here hx rfl (hb hby d1_1) rfl (l' := #[.val (.ref a1), .val (.int (6 : Int32)), .val (.int (0 : Int32))]) rfl k) ?_
  show OutW _ _ _ _ _ _ _ (s₁.setTop (mkF m 2 #[.val (.ref a1), .val (.int (6 : Int32)), .val (.int (0 : Int32))] []))
  refine OutW.back (fun t k => XS.iloadN X0.here hx rfl (hb hby d1_2) rfl  k) ?_
  show OutW _ _ _ _ _ _ _ (s₁.setTop (mkF m 3 #[.val (.ref a1), .val (.int (6 : Int32)), .val (.int (0 : Int32))] [(.int (0 : Int32))]))
  refine OutW.back (fun t k => XS.bipush X0.here hx rfl (hb hby d1_3) k) ?_
  show OutW _ _ _ _ _ _ _ (s₁.setTop (mkF m 5 #[.val (.ref a1), .val (.int (6 : Int32)), .val (.int (0 : Int32))] [(.int (7 : Int32)), (.int (0 : Int32))]))
  refine OutW.back (fun t k => XS.icmpNo X0.here hx rfl (hb hby d1_5) rfl (tlt (by decide : (0 : Int32) < (7 : Int32))).2.1 k) ?_
  show OutW _ _ _ _ _ _ _ (s₁.setTop (mkF m 8 #[.val (.ref a1), .val (.int (6 : Int32)), .val (.int (0 : Int32))] []))
  refine OutW.back (fun t k => XS.aloadN X0.here hx rfl (hb hby d1_8) rfl rfl  k) ?_
  show OutW _ _ _ _ _ _ _ (s₁.setTop (mkF m 9 #[.val (.ref a1), .val (.int (6 : Int32)), .val (.int (0 : Int32))] [(.ref a1)]))
  refine OutW.back (fun t k => XS.iloadN X0.here hx rfl (hb hby d1_9) rfl  k) ?_
  show OutW _ _ _ _ _ _ _ (s₁.setTop (mkF m 10 #[.val (.ref a1), .val (.int (6 : Int32)), .val (.int (0 : Int32))] [(.int (6 : Int32)), (.ref a1)]))
  refine OutW.back (fun t k => XS.iloadN X0.here hx rfl (hb hby d1_10) rfl  k) ?_
  show OutW _ _ _ _ _ _ _ (s₁.setTop (mkF m 11 #[.val (.ref a1), .val (.int (6 : Int32)), .val (.int (0 : Int32))] [(.int (0 : Int32)), (.int (6 : Int32)), (.ref a1)]))
  refine OutW.back (fun t k => XS.iadd X0.here hx rfl (hb hby d1_11) rfl k) ?_
  show OutW _ _ _ _ _ _ _ (s₁.setTop (mkF m 12 #[.val (.ref a1), .val (.int (6 : Int32)), .val (.int (0 : Int32))] [(.int ((6 : Int32) + (0 : Int32))), (.ref a1)]))
  rw [show ((6 : Int32) + (0 : Int32)) = (6 : Int32) from by decide]
  obtain ⟨cl1, Ar1, Qk1, Sz1, Nn1, Hh1, Gg1⟩ := id V_a1
  have hin1 : ¬ ((6 : Int32) < 0 ∨ cl1.slots.size ≤ ((6 : Int32)).toNatClampNeg) := inb_of Sz1 ⟨by decide, by decide⟩
  refine OutW.back (X0.baloadBytes hx (j := (6 : Int32)) (v := (.int w6)) (by rw [e0]; exact Ar1.1) (State.isArrayOf_alike hZ.alike Ar1.2.1) Ar1.2.2 hin1 (Hh1.at hin1 (by rfl)) (g := (mkF m 12 #[.val (.ref a1), .val (.int (6 : Int32)), .val (.int (0 : Int32))] [(.int (6 : Int32)), (.ref a1)])) rfl rfl (hb hby d1_12)) ?_
  show OutW _ _ _ _ _ _ _ (s₁.setTop (mkF m 13 #[.val (.ref a1), .val (.int (6 : Int32)), .val (.int (0 : Int32))] [(.int w6)]))
  by_cases c13_2 : w6 = (0 : Int32)
  · skip
    refine OutW.back (fun t k => XS.ifYes X0.here hx rfl (pc0 := 13) (pc' := 18) rfl (hb hby d1_13) rfl ((if0 _ _).trans (teq c13_2).1) (by decide) (by decide) k) ?_
    show OutW _ _ _ _ _ _ _ (s₁.setTop (mkF m 18 #[.val (.ref a1), .val (.int (6 : Int32)), .val (.int (0 : Int32))] []))
    refine OutW.back (fun t k => XS.iinc X0.here hx rfl (hb hby d1_18) rfl (l' := #[.val (.ref a1), .val (.int (6 : Int32)), .val (.int ((0 : Int32) + (1 : Int32)))]) rfl k) ?_
    show OutW _ _ _ _ _ _ _ (s₁.setTop (mkF m 21 #[.val (.ref a1), .val (.int (6 : Int32)), .val (.int ((0 : Int32) + (1 : Int32)))] []))
    rw [show ((0 : Int32) + (1 : Int32)) = (1 : Int32) from by decide]
    refine OutW.back (fun t k => XS.goto X0.here hx rfl (pc0 := 21) (pc' := 2) rfl (hb hby d1_21) (by decide) (by decide) k) ?_
    show OutW _ _ _ _ _ _ _ (s₁.setTop (mkF m 2 #[.val (.ref a1), .val (.int (6 : Int32)), .val (.int (1 : Int32))] []))
    refine OutW.back (fun t k => XS.iloadN X0.here hx rfl (hb hby d1_2) rfl  k) ?_
    show OutW _ _ _ _ _ _ _ (s₁.setTop (mkF m 3 #[.val (.ref a1), .val (.int (6 : Int32)), .val (.int (1 : Int32))] [(.int (1 : Int32))]))
    refine OutW.back (fun t k => XS.bipush X0.here hx rfl (hb hby d1_3) k) ?_
    show OutW _ _ _ _ _ _ _ (s₁.setTop (mkF m 5 #[.val (.ref a1), .val (.int (6 : Int32)), .val (.int (1 : Int32))] [(.int (7 : Int32)), (.int (1 : Int32))]))
    refine OutW.back (fun t k => XS.icmpNo X0.here hx rfl (hb hby d1_5) rfl (tlt (by decide : (1 : Int32) < (7 : Int32))).2.1 k) ?_
    show OutW _ _ _ _ _ _ _ (s₁.setTop (mkF m 8 #[.val (.ref a1), .val (.int (6 : Int32)), .val (.int (1 : Int32))] []))
    refine OutW.back (fun t k => XS.aloadN X0.here hx rfl (hb hby d1_8) rfl rfl  k) ?_
    show OutW _ _ _ _ _ _ _ (s₁.setTop (mkF m 9 #[.val (.ref a1), .val (.int (6 : Int32)), .val (.int (1 : Int32))] [(.ref a1)]))
    refine OutW.back (fun t k => XS.iloadN X0.here hx rfl (hb hby d1_9) rfl  k) ?_
    show OutW _ _ _ _ _ _ _ (s₁.setTop (mkF m 10 #[.val (.ref a1), .val (.int (6 : Int32)), .val (.int (1 : Int32))] [(.int (6 : Int32)), (.ref a1)]))
    refine OutW.back (fun t k => XS.iloadN X0.here hx rfl (hb hby d1_10) rfl  k) ?_
    show OutW _ _ _ _ _ _ _ (s₁.setTop (mkF m 11 #[.val (.ref a1), .val (.int (6 : Int32)), .val (.int (1 : Int32))] [(.int (1 : Int32)), (.int (6 : Int32)), (.ref a1)]))
    refine OutW.back (fun t k => XS.iadd X0.here hx rfl (hb hby d1_11) rfl k) ?_
    show OutW _ _ _ _ _ _ _ (s₁.setTop (mkF m 12 #[.val (.ref a1), .val (.int (6 : Int32)), .val (.int (1 : Int32))] [(.int ((6 : Int32) + (1 : Int32))), (.ref a1)]))
    rw [show ((6 : Int32) + (1 : Int32)) = (7 : Int32) from by decide]
    obtain ⟨cl3, Ar3, Qk3, Sz3, Nn3, Hh3, Gg3⟩ := id V_a1
    have hin3 : ¬ ((7 : Int32) < 0 ∨ cl3.slots.size ≤ ((7 : Int32)).toNatClampNeg) := inb_of Sz3 ⟨by decide, by decide⟩
    refine OutW.back (X0.baloadBytes hx (j := (7 : Int32)) (v := (.int w7)) (by rw [e0]; exact Ar3.1) (State.isArrayOf_alike hZ.alike Ar3.2.1) Ar3.2.2 hin3 (Hh3.at hin3 (by rfl)) (g := (mkF m 12 #[.val (.ref a1), .val (.int (6 : Int32)), .val (.int (1 : Int32))] [(.int (7 : Int32)), (.ref a1)])) rfl rfl (hb hby d1_12)) ?_
    show OutW _ _ _ _ _ _ _ (s₁.setTop (mkF m 13 #[.val (.ref a1), .val (.int (6 : Int32)), .val (.int (1 : Int32))] [(.int w7)]))
    by_cases c13_4 : w7 = (0 : Int32)
    · skip
      refine OutW.back (fun t k => XS.ifYes X0.here hx rfl (pc0 := 13) (pc' := 18) rfl (hb hby d1_13) rfl ((if0 _ _).trans (teq c13_4).1) (by decide) (by decide) k) ?_
      show OutW _ _ _ _ _ _ _ (s₁.setTop (mkF m 18 #[.val (.ref a1), .val (.int (6 : Int32)), .val (.int (1 : Int32))] []))
      refine OutW.back (fun t k => XS.iinc X0.here hx rfl (hb hby d1_18) rfl (l' := #[.val (.ref a1), .val (.int (6 : Int32)), .val (.int ((1 : Int32) + (1 : Int32)))]) rfl k) ?_
      show OutW _ _ _ _ _ _ _ (s₁.setTop (mkF m 21 #[.val (.ref a1), .val (.int (6 : Int32)), .val (.int ((1 : Int32) + (1 : Int32)))] []))
      rw [show ((1 : Int32) + (1 : Int32)) = (2 : Int32) from by decide]
      refine OutW.back (fun t k => XS.goto X0.here hx rfl (pc0 := 21) (pc' := 2) rfl (hb hby d1_21) (by decide) (by decide) k) ?_
      show OutW _ _ _ _ _ _ _ (s₁.setTop (mkF m 2 #[.val (.ref a1), .val (.int (6 : Int32)), .val (.int (2 : Int32))] []))
      refine OutW.back (fun t k => XS.iloadN X0.here hx rfl (hb hby d1_2) rfl  k) ?_
      show OutW _ _ _ _ _ _ _ (s₁.setTop (mkF m 3 #[.val (.ref a1), .val (.int (6 : Int32)), .val (.int (2 : Int32))] [(.int (2 : Int32))]))
      refine OutW.back (fun t k => XS.bipush X0.here hx rfl (hb hby d1_3) k) ?_
      show OutW _ _ _ _ _ _ _ (s₁.setTop (mkF m 5 #[.val (.ref a1), .val (.int (6 : Int32)), .val (.int (2 : Int32))] [(.int (7 : Int32)), (.int (2 : Int32))]))
      refine OutW.back (fun t k => XS.icmpNo X0.here hx rfl (hb hby d1_5) rfl (tlt (by decide : (2 : Int32) < (7 : Int32))).2.1 k) ?_
      show OutW _ _ _ _ _ _ _ (s₁.setTop (mkF m 8 #[.val (.ref a1), .val (.int (6 : Int32)), .val (.int (2 : Int32))] []))
      refine OutW.back (fun t k => XS.aloadN X0.here hx rfl (hb hby d1_8) rfl rfl  k) ?_
      show OutW _ _ _ _ _ _ _ (s₁.setTop (mkF m 9 #[.val (.ref a1), .val (.int (6 : Int32)), .val (.int (2 : Int32))] [(.ref a1)]))
      refine OutW.back (fun t k => XS.iloadN X0.here hx rfl (hb hby d1_9) rfl  k) ?_
      show OutW _ _ _ _ _ _ _ (s₁.setTop (mkF m 10 #[.val (.ref a1), .val (.int (6 : Int32)), .val (.int (2 : Int32))] [(.int (6 : Int32)), (.ref a1)]))
      refine OutW.back (fun t k => XS.iloadN X0.here hx rfl (hb hby d1_10) rfl  k) ?_
      show OutW _ _ _ _ _ _ _ (s₁.setTop (mkF m 11 #[.val (.ref a1), .val (.int (6 : Int32)), .val (.int (2 : Int32))] [(.int (2 : Int32)), (.int (6 : Int32)), (.ref a1)]))
      refine OutW.back (fun t k => XS.iadd X0.here hx rfl (hb hby d1_11) rfl k) ?_
      show OutW _ _ _ _ _ _ _ (s₁.setTop (mkF m 12 #[.val (.ref a1), .val (.int (6 : Int32)), .val (.int (2 : Int32))] [(.int ((6 : Int32) + (2 : Int32))), (.ref a1)]))
      rw [show ((6 : Int32) + (2 : Int32)) = (8 : Int32) from by decide]
      obtain ⟨cl5, Ar5, Qk5, Sz5, Nn5, Hh5, Gg5⟩ := id V_a1
      have hin5 : ¬ ((8 : Int32) < 0 ∨ cl5.slots.size ≤ ((8 : Int32)).toNatClampNeg) := inb_of Sz5 ⟨by decide, by decide⟩
      refine OutW.back (X0.baloadBytes hx (j := (8 : Int32)) (v := (.int w8)) (by rw [e0]; exact Ar5.1) (State.isArrayOf_alike hZ.alike Ar5.2.1) Ar5.2.2 hin5 (Hh5.at hin5 (by rfl)) (g := (mkF m 12 #[.val (.ref a1), .val (.int (6 : Int32)), .val (.int (2 : Int32))] [(.int (8 : Int32)), (.ref a1)])) rfl rfl (hb hby d1_12)) ?_
      show OutW _ _ _ _ _ _ _ (s₁.setTop (mkF m 13 #[.val (.ref a1), .val (.int (6 : Int32)), .val (.int (2 : Int32))] [(.int w8)]))
      by_cases c13_6 : w8 = (0 : Int32)
      · skip
        refine OutW.back (fun t k => XS.ifYes X0.here hx rfl (pc0 := 13) (pc' := 18) rfl (hb hby d1_13) rfl ((if0 _ _).trans (teq c13_6).1) (by decide) (by decide) k) ?_
        show OutW _ _ _ _ _ _ _ (s₁.setTop (mkF m 18 #[.val (.ref a1), .val (.int (6 : Int32)), .val (.int (2 : Int32))] []))
        refine OutW.back (fun t k => XS.iinc X0.here hx rfl (hb hby d1_18) rfl (l' := #[.val (.ref a1), .val (.int (6 : Int32)), .val (.int ((2 : Int32) + (1 : Int32)))]) rfl k) ?_
        show OutW _ _ _ _ _ _ _ (s₁.setTop (mkF m 21 #[.val (.ref a1), .val (.int (6 : Int32)), .val (.int ((2 : Int32) + (1 : Int32)))] []))
        rw [show ((2 : Int32) + (1 : Int32)) = (3 : Int32) from by decide]
        refine OutW.back (fun t k => XS.goto X0.here hx rfl (pc0 := 21) (pc' := 2) rfl (hb hby d1_21) (by decide) (by decide) k) ?_
        show OutW _ _ _ _ _ _ _ (s₁.setTop (mkF m 2 #[.val (.ref a1), .val (.int (6 : Int32)), .val (.int (3 : Int32))] []))
        refine OutW.back (fun t k => XS.iloadN X0.here hx rfl (hb hby d1_2) rfl  k) ?_
        show OutW _ _ _ _ _ _ _ (s₁.setTop (mkF m 3 #[.val (.ref a1), .val (.int (6 : Int32)), .val (.int (3 : Int32))] [(.int (3 : Int32))]))
        refine OutW.back (fun t k => XS.bipush X0.here hx rfl (hb hby d1_3) k) ?_
        show OutW _ _ _ _ _ _ _ (s₁.setTop (mkF m 5 #[.val (.ref a1), .val (.int (6 : Int32)), .val (.int (3 : Int32))] [(.int (7 : Int32)), (.int (3 : Int32))]))
        refine OutW.back (fun t k => XS.icmpNo X0.here hx rfl (hb hby d1_5) rfl (tlt (by decide : (3 : Int32) < (7 : Int32))).2.1 k) ?_
        show OutW _ _ _ _ _ _ _ (s₁.setTop (mkF m 8 #[.val (.ref a1), .val (.int (6 : Int32)), .val (.int (3 : Int32))] []))
        refine OutW.back (fun t k => XS.aloadN X0.here hx rfl (hb hby d1_8) rfl rfl  k) ?_
        show OutW _ _ _ _ _ _ _ (s₁.setTop (mkF m 9 #[.val (.ref a1), .val (.int (6 : Int32)), .val (.int (3 : Int32))] [(.ref a1)]))
        refine OutW.back (fun t k => XS.iloadN X0.here hx rfl (hb hby d1_9) rfl  k) ?_
        show OutW _ _ _ _ _ _ _ (s₁.setTop (mkF m 10 #[.val (.ref a1), .val (.int (6 : Int32)), .val (.int (3 : Int32))] [(.int (6 : Int32)), (.ref a1)]))
        refine OutW.back (fun t k => XS.iloadN X0.here hx rfl (hb hby d1_10) rfl  k) ?_
        show OutW _ _ _ _ _ _ _ (s₁.setTop (mkF m 11 #[.val (.ref a1), .val (.int (6 : Int32)), .val (.int (3 : Int32))] [(.int (3 : Int32)), (.int (6 : Int32)), (.ref a1)]))
        refine OutW.back (fun t k => XS.iadd X0.here hx rfl (hb hby d1_11) rfl k) ?_
        show OutW _ _ _ _ _ _ _ (s₁.setTop (mkF m 12 #[.val (.ref a1), .val (.int (6 : Int32)), .val (.int (3 : Int32))] [(.int ((6 : Int32) + (3 : Int32))), (.ref a1)]))
        rw [show ((6 : Int32) + (3 : Int32)) = (9 : Int32) from by decide]
        obtain ⟨cl7, Ar7, Qk7, Sz7, Nn7, Hh7, Gg7⟩ := id V_a1
        have hin7 : ¬ ((9 : Int32) < 0 ∨ cl7.slots.size ≤ ((9 : Int32)).toNatClampNeg) := inb_of Sz7 ⟨by decide, by decide⟩
        refine OutW.back (X0.baloadBytes hx (j := (9 : Int32)) (v := (.int w9)) (by rw [e0]; exact Ar7.1) (State.isArrayOf_alike hZ.alike Ar7.2.1) Ar7.2.2 hin7 (Hh7.at hin7 (by rfl)) (g := (mkF m 12 #[.val (.ref a1), .val (.int (6 : Int32)), .val (.int (3 : Int32))] [(.int (9 : Int32)), (.ref a1)])) rfl rfl (hb hby d1_12)) ?_
        show OutW _ _ _ _ _ _ _ (s₁.setTop (mkF m 13 #[.val (.ref a1), .val (.int (6 : Int32)), .val (.int (3 : Int32))] [(.int w9)]))
        by_cases c13_8 : w9 = (0 : Int32)
        · skip
          refine OutW.back (fun t k => XS.ifYes X0.here hx rfl (pc0 := 13) (pc' := 18) rfl (hb hby d1_13) rfl ((if0 _ _).trans (teq c13_8).1) (by decide) (by decide) k) ?_
          show OutW _ _ _ _ _ _ _ (s₁.setTop (mkF m 18 #[.val (.ref a1), .val (.int (6 : Int32)), .val (.int (3 : Int32))] []))
          refine OutW.back (fun t k => XS.iinc X0.here hx rfl (hb hby d1_18) rfl (l' := #[.val (.ref a1), .val (.int (6 : Int32)), .val (.int ((3 : Int32) + (1 : Int32)))]) rfl k) ?_
          show OutW _ _ _ _ _ _ _ (s₁.setTop (mkF m 21 #[.val (.ref a1), .val (.int (6 : Int32)), .val (.int ((3 : Int32) + (1 : Int32)))] []))
          rw [show ((3 : Int32) + (1 : Int32)) = (4 : Int32) from by decide]
          refine OutW.back (fun t k => XS.goto X0.here hx rfl (pc0 := 21) (pc' := 2) rfl (hb hby d1_21) (by decide) (by decide) k) ?_
          show OutW _ _ _ _ _ _ _ (s₁.setTop (mkF m 2 #[.val (.ref a1), .val (.int (6 : Int32)), .val (.int (4 : Int32))] []))
          refine OutW.back (fun t k => XS.iloadN X0.here hx rfl (hb hby d1_2) rfl  k) ?_
          show OutW _ _ _ _ _ _ _ (s₁.setTop (mkF m 3 #[.val (.ref a1), .val (.int (6 : Int32)), .val (.int (4 : Int32))] [(.int (4 : Int32))]))
          refine OutW.back (fun t k => XS.bipush X0.here hx rfl (hb hby d1_3) k) ?_
          show OutW _ _ _ _ _ _ _ (s₁.setTop (mkF m 5 #[.val (.ref a1), .val (.int (6 : Int32)), .val (.int (4 : Int32))] [(.int (7 : Int32)), (.int (4 : Int32))]))
          refine OutW.back (fun t k => XS.icmpNo X0.here hx rfl (hb hby d1_5) rfl (tlt (by decide : (4 : Int32) < (7 : Int32))).2.1 k) ?_
          show OutW _ _ _ _ _ _ _ (s₁.setTop (mkF m 8 #[.val (.ref a1), .val (.int (6 : Int32)), .val (.int (4 : Int32))] []))
          refine OutW.back (fun t k => XS.aloadN X0.here hx rfl (hb hby d1_8) rfl rfl  k) ?_
          show OutW _ _ _ _ _ _ _ (s₁.setTop (mkF m 9 #[.val (.ref a1), .val (.int (6 : Int32)), .val (.int (4 : Int32))] [(.ref a1)]))
          refine OutW.back (fun t k => XS.iloadN X0.here hx rfl (hb hby d1_9) rfl  k) ?_
          show OutW _ _ _ _ _ _ _ (s₁.setTop (mkF m 10 #[.val (.ref a1), .val (.int (6 : Int32)), .val (.int (4 : Int32))] [(.int (6 : Int32)), (.ref a1)]))
          refine OutW.back (fun t k => XS.iloadN X0.here hx rfl (hb hby d1_10) rfl  k) ?_
          show OutW _ _ _ _ _ _ _ (s₁.setTop (mkF m 11 #[.val (.ref a1), .val (.int (6 : Int32)), .val (.int (4 : Int32))] [(.int (4 : Int32)), (.int (6 : Int32)), (.ref a1)]))
          refine OutW.back (fun t k => XS.iadd X0.here hx rfl (hb hby d1_11) rfl k) ?_
          show OutW _ _ _ _ _ _ _ (s₁.setTop (mkF m 12 #[.val (.ref a1), .val (.int (6 : Int32)), .val (.int (4 : Int32))] [(.int ((6 : Int32) + (4 : Int32))), (.ref a1)]))
          rw [show ((6 : Int32) + (4 : Int32)) = (10 : Int32) from by decide]
          obtain ⟨cl9, Ar9, Qk9, Sz9, Nn9, Hh9, Gg9⟩ := id V_a1
          have hin9 : ¬ ((10 : Int32) < 0 ∨ cl9.slots.size ≤ ((10 : Int32)).toNatClampNeg) := inb_of Sz9 ⟨by decide, by decide⟩
          refine OutW.back (X0.baloadBytes hx (j := (10 : Int32)) (v := (.int w10)) (by rw [e0]; exact Ar9.1) (State.isArrayOf_alike hZ.alike Ar9.2.1) Ar9.2.2 hin9 (Hh9.at hin9 (by rfl)) (g := (mkF m 12 #[.val (.ref a1), .val (.int (6 : Int32)), .val (.int (4 : Int32))] [(.int (10 : Int32)), (.ref a1)])) rfl rfl (hb hby d1_12)) ?_
          show OutW _ _ _ _ _ _ _ (s₁.setTop (mkF m 13 #[.val (.ref a1), .val (.int (6 : Int32)), .val (.int (4 : Int32))] [(.int w10)]))
          by_cases c13_10 : w10 = (0 : Int32)
          · skip
            refine OutW.back (fun t k => XS.ifYes X0.here hx rfl (pc0 := 13) (pc' := 18) rfl (hb hby d1_13) rfl ((if0 _ _).trans (teq c13_10).1) (by decide) (by decide) k) ?_
            show OutW _ _ _ _ _ _ _ (s₁.setTop (mkF m 18 #[.val (.ref a1), .val (.int (6 : Int32)), .val (.int (4 : Int32))] []))
            refine OutW.back (fun t k => XS.iinc X0.here hx rfl (hb hby d1_18) rfl (l' := #[.val (.ref a1), .val (.int (6 : Int32)), .val (.int ((4 : Int32) + (1 : Int32)))]) rfl k) ?_
            show OutW _ _ _ _ _ _ _ (s₁.setTop (mkF m 21 #[.val (.ref a1), .val (.int (6 : Int32)), .val (.int ((4 : Int32) + (1 : Int32)))] []))
            rw [show ((4 : Int32) + (1 : Int32)) = (5 : Int32) from by decide]
            refine OutW.back (fun t k => XS.goto X0.here hx rfl (pc0 := 21) (pc' := 2) rfl (hb hby d1_21) (by decide) (by decide) k) ?_
            show OutW _ _ _ _ _ _ _ (s₁.setTop (mkF m 2 #[.val (.ref a1), .val (.int (6 : Int32)), .val (.int (5 : Int32))] []))
            refine OutW.back (fun t k => XS.iloadN X0.here hx rfl (hb hby d1_2) rfl  k) ?_
            show OutW _ _ _ _ _ _ _ (s₁.setTop (mkF m 3 #[.val (.ref a1), .val (.int (6 : Int32)), .val (.int (5 : Int32))] [(.int (5 : Int32))]))
            refine OutW.back (fun t k => XS.bipush X0.here hx rfl (hb hby d1_3) k) ?_
            show OutW _ _ _ _ _ _ _ (s₁.setTop (mkF m 5 #[.val (.ref a1), .val (.int (6 : Int32)), .val (.int (5 : Int32))] [(.int (7 : Int32)), (.int (5 : Int32))]))
            refine OutW.back (fun t k => XS.icmpNo X0.here hx rfl (hb hby d1_5) rfl (tlt (by decide : (5 : Int32) < (7 : Int32))).2.1 k) ?_
            show OutW _ _ _ _ _ _ _ (s₁.setTop (mkF m 8 #[.val (.ref a1), .val (.int (6 : Int32)), .val (.int (5 : Int32))] []))
            refine OutW.back (fun t k => XS.aloadN X0.here hx rfl (hb hby d1_8) rfl rfl  k) ?_
            show OutW _ _ _ _ _ _ _ (s₁.setTop (mkF m 9 #[.val (.ref a1), .val (.int (6 : Int32)), .val (.int (5 : Int32))] [(.ref a1)]))
            refine OutW.back (fun t k => XS.iloadN X0.here hx rfl (hb hby d1_9) rfl  k) ?_
            show OutW _ _ _ _ _ _ _ (s₁.setTop (mkF m 10 #[.val (.ref a1), .val (.int (6 : Int32)), .val (.int (5 : Int32))] [(.int (6 : Int32)), (.ref a1)]))
            refine OutW.back (fun t k => XS.iloadN X0.here hx rfl (hb hby d1_10) rfl  k) ?_
            show OutW _ _ _ _ _ _ _ (s₁.setTop (mkF m 11 #[.val (.ref a1), .val (.int (6 : Int32)), .val (.int (5 : Int32))] [(.int (5 : Int32)), (.int (6 : Int32)), (.ref a1)]))
            refine OutW.back (fun t k => XS.iadd X0.here hx rfl (hb hby d1_11) rfl k) ?_
            show OutW _ _ _ _ _ _ _ (s₁.setTop (mkF m 12 #[.val (.ref a1), .val (.int (6 : Int32)), .val (.int (5 : Int32))] [(.int ((6 : Int32) + (5 : Int32))), (.ref a1)]))
            rw [show ((6 : Int32) + (5 : Int32)) = (11 : Int32) from by decide]
            obtain ⟨cl11, Ar11, Qk11, Sz11, Nn11, Hh11, Gg11⟩ := id V_a1
            have hin11 : ¬ ((11 : Int32) < 0 ∨ cl11.slots.size ≤ ((11 : Int32)).toNatClampNeg) := inb_of Sz11 ⟨by decide, by decide⟩
            refine OutW.back (X0.baloadBytes hx (j := (11 : Int32)) (v := (.int w11)) (by rw [e0]; exact Ar11.1) (State.isArrayOf_alike hZ.alike Ar11.2.1) Ar11.2.2 hin11 (Hh11.at hin11 (by rfl)) (g := (mkF m 12 #[.val (.ref a1), .val (.int (6 : Int32)), .val (.int (5 : Int32))] [(.int (11 : Int32)), (.ref a1)])) rfl rfl (hb hby d1_12)) ?_
            show OutW _ _ _ _ _ _ _ (s₁.setTop (mkF m 13 #[.val (.ref a1), .val (.int (6 : Int32)), .val (.int (5 : Int32))] [(.int w11)]))
            by_cases c13_12 : w11 = (0 : Int32)
            · skip
              refine OutW.back (fun t k => XS.ifYes X0.here hx rfl (pc0 := 13) (pc' := 18) rfl (hb hby d1_13) rfl ((if0 _ _).trans (teq c13_12).1) (by decide) (by decide) k) ?_
              show OutW _ _ _ _ _ _ _ (s₁.setTop (mkF m 18 #[.val (.ref a1), .val (.int (6 : Int32)), .val (.int (5 : Int32))] []))
              refine OutW.back (fun t k => XS.iinc X0.here hx rfl (hb hby d1_18) rfl (l' := #[.val (.ref a1), .val (.int (6 : Int32)), .val (.int ((5 : Int32) + (1 : Int32)))]) rfl k) ?_
              show OutW _ _ _ _ _ _ _ (s₁.setTop (mkF m 21 #[.val (.ref a1), .val (.int (6 : Int32)), .val (.int ((5 : Int32) + (1 : Int32)))] []))
              rw [show ((5 : Int32) + (1 : Int32)) = (6 : Int32) from by decide]
              refine OutW.back (fun t k => XS.goto X0.here hx rfl (pc0 := 21) (pc' := 2) rfl (hb hby d1_21) (by decide) (by decide) k) ?_
              show OutW _ _ _ _ _ _ _ (s₁.setTop (mkF m 2 #[.val (.ref a1), .val (.int (6 : Int32)), .val (.int (6 : Int32))] []))
              refine OutW.back (fun t k => XS.iloadN X0.here hx rfl (hb hby d1_2) rfl  k) ?_
              show OutW _ _ _ _ _ _ _ (s₁.setTop (mkF m 3 #[.val (.ref a1), .val (.int (6 : Int32)), .val (.int (6 : Int32))] [(.int (6 : Int32))]))
              refine OutW.back (fun t k => XS.bipush X0.here hx rfl (hb hby d1_3) k) ?_
              show OutW _ _ _ _ _ _ _ (s₁.setTop (mkF m 5 #[.val (.ref a1), .val (.int (6 : Int32)), .val (.int (6 : Int32))] [(.int (7 : Int32)), (.int (6 : Int32))]))
              refine OutW.back (fun t k => XS.icmpNo X0.here hx rfl (hb hby d1_5) rfl (tlt (by decide : (6 : Int32) < (7 : Int32))).2.1 k) ?_
              show OutW _ _ _ _ _ _ _ (s₁.setTop (mkF m 8 #[.val (.ref a1), .val (.int (6 : Int32)), .val (.int (6 : Int32))] []))
              refine OutW.back (fun t k => XS.aloadN X0.here hx rfl (hb hby d1_8) rfl rfl  k) ?_
              show OutW _ _ _ _ _ _ _ (s₁.setTop (mkF m 9 #[.val (.ref a1), .val (.int (6 : Int32)), .val (.int (6 : Int32))] [(.ref a1)]))
              refine OutW.back (fun t k => XS.iloadN X0.here hx rfl (hb hby d1_9) rfl  k) ?_
              show OutW _ _ _ _ _ _ _ (s₁.setTop (mkF m 10 #[.val (.ref a1), .val (.int (6 : Int32)), .val (.int (6 : Int32))] [(.int (6 : Int32)), (.ref a1)]))
              refine OutW.back (fun t k => XS.iloadN X0.here hx rfl (hb hby d1_10) rfl  k) ?_
              show OutW _ _ _ _ _ _ _ (s₁.setTop (mkF m 11 #[.val (.ref a1), .val (.int (6 : Int32)), .val (.int (6 : Int32))] [(.int (6 : Int32)), (.int (6 : Int32)), (.ref a1)]))
              refine OutW.back (fun t k => XS.iadd X0.here hx rfl (hb hby d1_11) rfl k) ?_
              show OutW _ _ _ _ _ _ _ (s₁.setTop (mkF m 12 #[.val (.ref a1), .val (.int (6 : Int32)), .val (.int (6 : Int32))] [(.int ((6 : Int32) + (6 : Int32))), (.ref a1)]))
              rw [show ((6 : Int32) + (6 : Int32)) = (12 : Int32) from by decide]
              obtain ⟨cl13, Ar13, Qk13, Sz13, Nn13, Hh13, Gg13⟩ := id V_a1
              have hin13 : ¬ ((12 : Int32) < 0 ∨ cl13.slots.size ≤ ((12 : Int32)).toNatClampNeg) := inb_of Sz13 ⟨by decide, by decide⟩
              refine OutW.back (X0.baloadBytes hx (j := (12 : Int32)) (v := (.int w12)) (by rw [e0]; exact Ar13.1) (State.isArrayOf_alike hZ.alike Ar13.2.1) Ar13.2.2 hin13 (Hh13.at hin13 (by rfl)) (g := (mkF m 12 #[.val (.ref a1), .val (.int (6 : Int32)), .val (.int (6 : Int32))] [(.int (12 : Int32)), (.ref a1)])) rfl rfl (hb hby d1_12)) ?_
              show OutW _ _ _ _ _ _ _ (s₁.setTop (mkF m 13 #[.val (.ref a1), .val (.int (6 : Int32)), .val (.int (6 : Int32))] [(.int w12)]))
              by_cases c13_14 : w12 = (0 : Int32)
              · skip
                refine OutW.back (fun t k => XS.ifYes X0.here hx rfl (pc0 := 13) (pc' := 18) rfl (hb hby d1_13) rfl ((if0 _ _).trans (teq c13_14).1) (by decide) (by decide) k) ?_
                show OutW _ _ _ _ _ _ _ (s₁.setTop (mkF m 18 #[.val (.ref a1), .val (.int (6 : Int32)), .val (.int (6 : Int32))] []))
                refine OutW.back (fun t k => XS.iinc X0.here hx rfl (hb hby d1_18) rfl (l' := #[.val (.ref a1), .val (.int (6 : Int32)), .val (.int ((6 : Int32) + (1 : Int32)))]) rfl k) ?_
                show OutW _ _ _ _ _ _ _ (s₁.setTop (mkF m 21 #[.val (.ref a1), .val (.int (6 : Int32)), .val (.int ((6 : Int32) + (1 : Int32)))] []))
                rw [show ((6 : Int32) + (1 : Int32)) = (7 : Int32) from by decide]
                refine OutW.back (fun t k => XS.goto X0.here hx rfl (pc0 := 21) (pc' := 2) rfl (hb hby d1_21) (by decide) (by decide) k) ?_
                show OutW _ _ _ _ _ _ _ (s₁.setTop (mkF m 2 #[.val (.ref a1), .val (.int (6 : Int32)), .val (.int (7 : Int32))] []))
                refine OutW.back (fun t k => XS.iloadN X0.here hx rfl (hb hby d1_2) rfl  k) ?_
                show OutW _ _ _ _ _ _ _ (s₁.setTop (mkF m 3 #[.val (.ref a1), .val (.int (6 : Int32)), .val (.int (7 : Int32))] [(.int (7 : Int32))]))
                refine OutW.back (fun t k => XS.bipush X0.here hx rfl (hb hby d1_3) k) ?_
                show OutW _ _ _ _ _ _ _ (s₁.setTop (mkF m 5 #[.val (.ref a1), .val (.int (6 : Int32)), .val (.int (7 : Int32))] [(.int (7 : Int32)), (.int (7 : Int32))]))
                refine OutW.back (fun t k => XS.icmpYes X0.here hx rfl (pc0 := 5) (pc' := 24) rfl (hb hby d1_5) rfl (flt (by decide : ¬ ((7 : Int32) < (7 : Int32)))).2.1 (by decide) (by decide) k) ?_
                show OutW _ _ _ _ _ _ _ (s₁.setTop (mkF m 24 #[.val (.ref a1), .val (.int (6 : Int32)), .val (.int (7 : Int32))] []))
                refine OutW.back (fun t k => XS.aloadN X0.here hx rfl (hb hby d1_24) rfl rfl  k) ?_
                show OutW _ _ _ _ _ _ _ (s₁.setTop (mkF m 25 #[.val (.ref a1), .val (.int (6 : Int32)), .val (.int (7 : Int32))] [(.ref a1)]))
                refine OutW.back (fun t k => XS.iloadN X0.here hx rfl (hb hby d1_25) rfl  k) ?_
                show OutW _ _ _ _ _ _ _ (s₁.setTop (mkF m 26 #[.val (.ref a1), .val (.int (6 : Int32)), .val (.int (7 : Int32))] [(.int (6 : Int32)), (.ref a1)]))
                refine OutW.back (fun t k => XS.bipush X0.here hx rfl (hb hby d1_26) k) ?_
                show OutW _ _ _ _ _ _ _ (s₁.setTop (mkF m 28 #[.val (.ref a1), .val (.int (6 : Int32)), .val (.int (7 : Int32))] [(.int (8 : Int32)), (.int (6 : Int32)), (.ref a1)]))
                refine OutW.back (fun t k => XS.iadd X0.here hx rfl (hb hby d1_28) rfl k) ?_
                show OutW _ _ _ _ _ _ _ (s₁.setTop (mkF m 29 #[.val (.ref a1), .val (.int (6 : Int32)), .val (.int (7 : Int32))] [(.int ((6 : Int32) + (8 : Int32))), (.ref a1)]))
                rw [show ((6 : Int32) + (8 : Int32)) = (14 : Int32) from by decide]
                refine OutW.back (fun t k => XS.iconst X0.here hx rfl (hb hby d1_29) k) ?_
                show OutW _ _ _ _ _ _ _ (s₁.setTop (mkF m 30 #[.val (.ref a1), .val (.int (6 : Int32)), .val (.int (7 : Int32))] [(.int (1 : Int32)), (.int (14 : Int32)), (.ref a1)]))
                refine OutW.back (fun t k => XS.isub X0.here hx rfl (hb hby d1_30) rfl k) ?_
                show OutW _ _ _ _ _ _ _ (s₁.setTop (mkF m 31 #[.val (.ref a1), .val (.int (6 : Int32)), .val (.int (7 : Int32))] [(.int ((14 : Int32) - (1 : Int32))), (.ref a1)]))
                rw [show ((14 : Int32) - (1 : Int32)) = (13 : Int32) from by decide]
                obtain ⟨cl15, Ar15, Qk15, Sz15, Nn15, Hh15, Gg15⟩ := id V_a1
                have hin15 : ¬ ((13 : Int32) < 0 ∨ cl15.slots.size ≤ ((13 : Int32)).toNatClampNeg) := inb_of Sz15 ⟨by decide, by decide⟩
                refine OutW.back (X0.baloadBytes hx (j := (13 : Int32)) (v := (.int w13)) (by rw [e0]; exact Ar15.1) (State.isArrayOf_alike hZ.alike Ar15.2.1) Ar15.2.2 hin15 (Hh15.at hin15 (by rfl)) (g := (mkF m 31 #[.val (.ref a1), .val (.int (6 : Int32)), .val (.int (7 : Int32))] [(.int (13 : Int32)), (.ref a1)])) rfl rfl (hb hby d1_31)) ?_
                show OutW _ _ _ _ _ _ _ (s₁.setTop (mkF m 32 #[.val (.ref a1), .val (.int (6 : Int32)), .val (.int (7 : Int32))] [(.int w13)]))
                refine OutW.back (fun t k => XS.bipush X0.here hx rfl (hb hby d1_32) k) ?_
                show OutW _ _ _ _ _ _ _ (s₁.setTop (mkF m 34 #[.val (.ref a1), .val (.int (6 : Int32)), .val (.int (7 : Int32))] [(.int (-128 : Int32)), (.int w13)]))
                by_cases c34_16 : w13 = (-128 : Int32)
                · skip
                  refine OutW.back (fun t k => XS.icmpNo X0.here hx rfl (hb hby d1_34) rfl (teq c34_16).2 k) ?_
                  show OutW _ _ _ _ _ _ _ (s₁.setTop (mkF m 37 #[.val (.ref a1), .val (.int (6 : Int32)), .val (.int (7 : Int32))] []))
                  refine OutW.back (fun t k => XS.iconst X0.here hx rfl (hb hby d1_37) k) ?_
                  show OutW _ _ _ _ _ _ _ (s₁.setTop (mkF m 38 #[.val (.ref a1), .val (.int (6 : Int32)), .val (.int (7 : Int32))] [(.int (1 : Int32))]))
                  refine OutW.back (fun t k => XS.goto X0.here hx rfl (pc0 := 38) (pc' := 42) rfl (hb hby d1_38) (by decide) (by decide) k) ?_
                  show OutW _ _ _ _ _ _ _ (s₁.setTop (mkF m 42 #[.val (.ref a1), .val (.int (6 : Int32)), .val (.int (7 : Int32))] [(.int (1 : Int32))]))
                  refine OutW.retN X0 hx (t := .boolean) (z' := (1 : Int32)) Bd.returns (by simp) hlk (hb hby d1_42) ?hz (by decide) (by decide) ?_
                  case hz =>
                    rfl
                  show Q1_6 Z a1 w0 w1 w2 w3 w4 w5 w6 w7 w8 w9 w10 w11 w12 w13 w14 w15 kk h0 n0 _ s₁.heap _
                  rw [e0]
                  exact ⟨by rw [negz6, if_pos c13_2, if_pos c13_4, if_pos c13_6, if_pos c13_8, if_pos c13_10, if_pos c13_12, if_pos c13_14, if_pos c34_16], N0, rfl⟩
                · skip
                  refine OutW.back (fun t k => XS.icmpYes X0.here hx rfl (pc0 := 34) (pc' := 41) rfl (hb hby d1_34) rfl (feq c34_16).2 (by decide) (by decide) k) ?_
                  show OutW _ _ _ _ _ _ _ (s₁.setTop (mkF m 41 #[.val (.ref a1), .val (.int (6 : Int32)), .val (.int (7 : Int32))] []))
                  refine OutW.back (fun t k => XS.iconst X0.here hx rfl (hb hby d1_41) k) ?_
                  show OutW _ _ _ _ _ _ _ (s₁.setTop (mkF m 42 #[.val (.ref a1), .val (.int (6 : Int32)), .val (.int (7 : Int32))] [(.int (0 : Int32))]))
                  refine OutW.retN X0 hx (t := .boolean) (z' := (0 : Int32)) Bd.returns (by simp) hlk (hb hby d1_42) ?hz (by decide) (by decide) ?_
                  case hz =>
                    rfl
                  show Q1_6 Z a1 w0 w1 w2 w3 w4 w5 w6 w7 w8 w9 w10 w11 w12 w13 w14 w15 kk h0 n0 _ s₁.heap _
                  rw [e0]
                  exact ⟨by rw [negz6, if_pos c13_2, if_pos c13_4, if_pos c13_6, if_pos c13_8, if_pos c13_10, if_pos c13_12, if_pos c13_14, if_neg c34_16], N0, rfl⟩
              · skip
                refine OutW.back (fun t k => XS.ifNo X0.here hx rfl (hb hby d1_13) rfl ((if0 _ _).trans (feq c13_14).1) k) ?_
                show OutW _ _ _ _ _ _ _ (s₁.setTop (mkF m 16 #[.val (.ref a1), .val (.int (6 : Int32)), .val (.int (6 : Int32))] []))
                refine OutW.back (fun t k => XS.iconst X0.here hx rfl (hb hby d1_16) k) ?_
                show OutW _ _ _ _ _ _ _ (s₁.setTop (mkF m 17 #[.val (.ref a1), .val (.int (6 : Int32)), .val (.int (6 : Int32))] [(.int (0 : Int32))]))
                refine OutW.retN X0 hx (t := .boolean) (z' := (0 : Int32)) Bd.returns (by simp) hlk (hb hby d1_17) ?hz (by decide) (by decide) ?_
                case hz =>
                  rfl
                show Q1_6 Z a1 w0 w1 w2 w3 w4 w5 w6 w7 w8 w9 w10 w11 w12 w13 w14 w15 kk h0 n0 _ s₁.heap _
                rw [e0]
                exact ⟨by rw [negz6, if_pos c13_2, if_pos c13_4, if_pos c13_6, if_pos c13_8, if_pos c13_10, if_pos c13_12, if_neg c13_14], N0, rfl⟩
            · skip
              refine OutW.back (fun t k => XS.ifNo X0.here hx rfl (hb hby d1_13) rfl ((if0 _ _).trans (feq c13_12).1) k) ?_
              show OutW _ _ _ _ _ _ _ (s₁.setTop (mkF m 16 #[.val (.ref a1), .val (.int (6 : Int32)), .val (.int (5 : Int32))] []))
              refine OutW.back (fun t k => XS.iconst X0.here hx rfl (hb hby d1_16) k) ?_
              show OutW _ _ _ _ _ _ _ (s₁.setTop (mkF m 17 #[.val (.ref a1), .val (.int (6 : Int32)), .val (.int (5 : Int32))] [(.int (0 : Int32))]))
              refine OutW.retN X0 hx (t := .boolean) (z' := (0 : Int32)) Bd.returns (by simp) hlk (hb hby d1_17) ?hz (by decide) (by decide) ?_
              case hz =>
                rfl
              show Q1_6 Z a1 w0 w1 w2 w3 w4 w5 w6 w7 w8 w9 w10 w11 w12 w13 w14 w15 kk h0 n0 _ s₁.heap _
              rw [e0]
              exact ⟨by rw [negz6, if_pos c13_2, if_pos c13_4, if_pos c13_6, if_pos c13_8, if_pos c13_10, if_neg c13_12], N0, rfl⟩
          · skip
            refine OutW.back (fun t k => XS.ifNo X0.here hx rfl (hb hby d1_13) rfl ((if0 _ _).trans (feq c13_10).1) k) ?_
            show OutW _ _ _ _ _ _ _ (s₁.setTop (mkF m 16 #[.val (.ref a1), .val (.int (6 : Int32)), .val (.int (4 : Int32))] []))
            refine OutW.back (fun t k => XS.iconst X0.here hx rfl (hb hby d1_16) k) ?_
            show OutW _ _ _ _ _ _ _ (s₁.setTop (mkF m 17 #[.val (.ref a1), .val (.int (6 : Int32)), .val (.int (4 : Int32))] [(.int (0 : Int32))]))
            refine OutW.retN X0 hx (t := .boolean) (z' := (0 : Int32)) Bd.returns (by simp) hlk (hb hby d1_17) ?hz (by decide) (by decide) ?_
            case hz =>
              rfl
            show Q1_6 Z a1 w0 w1 w2 w3 w4 w5 w6 w7 w8 w9 w10 w11 w12 w13 w14 w15 kk h0 n0 _ s₁.heap _
            rw [e0]
            exact ⟨by rw [negz6, if_pos c13_2, if_pos c13_4, if_pos c13_6, if_pos c13_8, if_neg c13_10], N0, rfl⟩
        · skip
          refine OutW.back (fun t k => XS.ifNo X0.here hx rfl (hb hby d1_13) rfl ((if0 _ _).trans (feq c13_8).1) k) ?_
          show OutW _ _ _ _ _ _ _ (s₁.setTop (mkF m 16 #[.val (.ref a1), .val (.int (6 : Int32)), .val (.int (3 : Int32))] []))
          refine OutW.back (fun t k => XS.iconst X0.here hx rfl (hb hby d1_16) k) ?_
          show OutW _ _ _ _ _ _ _ (s₁.setTop (mkF m 17 #[.val (.ref a1), .val (.int (6 : Int32)), .val (.int (3 : Int32))] [(.int (0 : Int32))]))
          refine OutW.retN X0 hx (t := .boolean) (z' := (0 : Int32)) Bd.returns (by simp) hlk (hb hby d1_17) ?hz (by decide) (by decide) ?_
          case hz =>
            rfl
          show Q1_6 Z a1 w0 w1 w2 w3 w4 w5 w6 w7 w8 w9 w10 w11 w12 w13 w14 w15 kk h0 n0 _ s₁.heap _
          rw [e0]
          exact ⟨by rw [negz6, if_pos c13_2, if_pos c13_4, if_pos c13_6, if_neg c13_8], N0, rfl⟩
      · skip
        refine OutW.back (fun t k => XS.ifNo X0.here hx rfl (hb hby d1_13) rfl ((if0 _ _).trans (feq c13_6).1) k) ?_
        show OutW _ _ _ _ _ _ _ (s₁.setTop (mkF m 16 #[.val (.ref a1), .val (.int (6 : Int32)), .val (.int (2 : Int32))] []))
        refine OutW.back (fun t k => XS.iconst X0.here hx rfl (hb hby d1_16) k) ?_
        show OutW _ _ _ _ _ _ _ (s₁.setTop (mkF m 17 #[.val (.ref a1), .val (.int (6 : Int32)), .val (.int (2 : Int32))] [(.int (0 : Int32))]))
        refine OutW.retN X0 hx (t := .boolean) (z' := (0 : Int32)) Bd.returns (by simp) hlk (hb hby d1_17) ?hz (by decide) (by decide) ?_
        case hz =>
          rfl
        show Q1_6 Z a1 w0 w1 w2 w3 w4 w5 w6 w7 w8 w9 w10 w11 w12 w13 w14 w15 kk h0 n0 _ s₁.heap _
        rw [e0]
        exact ⟨by rw [negz6, if_pos c13_2, if_pos c13_4, if_neg c13_6], N0, rfl⟩
    · skip
      refine OutW.back (fun t k => XS.ifNo X0.here hx rfl (hb hby d1_13) rfl ((if0 _ _).trans (feq c13_4).1) k) ?_
      show OutW _ _ _ _ _ _ _ (s₁.setTop (mkF m 16 #[.val (.ref a1), .val (.int (6 : Int32)), .val (.int (1 : Int32))] []))
      refine OutW.back (fun t k => XS.iconst X0.here hx rfl (hb hby d1_16) k) ?_
      show OutW _ _ _ _ _ _ _ (s₁.setTop (mkF m 17 #[.val (.ref a1), .val (.int (6 : Int32)), .val (.int (1 : Int32))] [(.int (0 : Int32))]))
      refine OutW.retN X0 hx (t := .boolean) (z' := (0 : Int32)) Bd.returns (by simp) hlk (hb hby d1_17) ?hz (by decide) (by decide) ?_
      case hz =>
        rfl
      show Q1_6 Z a1 w0 w1 w2 w3 w4 w5 w6 w7 w8 w9 w10 w11 w12 w13 w14 w15 kk h0 n0 _ s₁.heap _
      rw [e0]
      exact ⟨by rw [negz6, if_pos c13_2, if_neg c13_4], N0, rfl⟩
  · skip
    refine OutW.back (fun t k => XS.ifNo X0.here hx rfl (hb hby d1_13) rfl ((if0 _ _).trans (feq c13_2).1) k) ?_
    show OutW _ _ _ _ _ _ _ (s₁.setTop (mkF m 16 #[.val (.ref a1), .val (.int (6 : Int32)), .val (.int (0 : Int32))] []))
    refine OutW.back (fun t k => XS.iconst X0.here hx rfl (hb hby d1_16) k) ?_
    show OutW _ _ _ _ _ _ _ (s₁.setTop (mkF m 17 #[.val (.ref a1), .val (.int (6 : Int32)), .val (.int (0 : Int32))] [(.int (0 : Int32))]))
    refine OutW.retN X0 hx (t := .boolean) (z' := (0 : Int32)) Bd.returns (by simp) hlk (hb hby d1_17) ?hz (by decide) (by decide) ?_
    case hz =>
      rfl
    show Q1_6 Z a1 w0 w1 w2 w3 w4 w5 w6 w7 w8 w9 w10 w11 w12 w13 w14 w15 kk h0 n0 _ s₁.heap _
    rw [e0]
    exact ⟨by rw [negz6, if_neg c13_2], N0, rfl⟩
def negz7 (w7 : Int32) (w8 : Int32) (w9 : Int32) (w10 : Int32) (w11 : Int32) (w12 : Int32) (w13 : Int32) (w14 : Int32) : Int32 := (if w7 = (0 : Int32) then (if w8 = (0 : Int32) then (if w9 = (0 : Int32) then (if w10 = (0 : Int32) then (if w11 = (0 : Int32) then (if w12 = (0 : Int32) then (if w13 = (0 : Int32) then (if w14 = (-128 : Int32) then (1 : Int32) else (0 : Int32)) else (0 : Int32)) else (0 : Int32)) else (0 : Int32)) else (0 : Int32)) else (0 : Int32)) else (0 : Int32)) else (0 : Int32))
theorem ef_1_7 (m : MethodId) (x0 : Addr) : entryFrame m #[(.ref x0), (.int (7 : Int32))] 3 = mkF m 0 #[.val (.ref x0), .val (.int (7 : Int32)), .unset] [] := by first | (simp [entryFrame, mkF, argsToLocals, Value.category]; done) | rfl
def Q1_7 (Z : State) (a1 : Addr) (w0 : Int32) (w1 : Int32) (w2 : Int32) (w3 : Int32) (w4 : Int32) (w5 : Int32) (w6 : Int32) (w7 : Int32) (w8 : Int32) (w9 : Int32) (w10 : Int32) (w11 : Int32) (w12 : Int32) (w13 : Int32) (w14 : Int32) (w15 : Int32) (kk : ClassId) (h0 : Heap) (n0 : Nat) (v : Option Value) (h : Heap) (L : List Loc) : Prop := v = some (.int (negz7 w7 w8 w9 w10 w11 w12 w13 w14)) ∧ Fr n0 L ∧ h = h0
set_option maxRecDepth 65536 in
set_option maxHeartbeats 40000000 in
theorem rm1_7 (l : Launch) (Z : State) (a0 : Array Value) (hw : ∀ d ∈ tables_1, d.before a0 Z = true) (ws : List Jvm.Cond) (a1 : Addr) (w0 : Int32) (w1 : Int32) (w2 : Int32) (w3 : Int32) (w4 : Int32) (w5 : Int32) (w6 : Int32) (w7 : Int32) (w8 : Int32) (w9 : Int32) (w10 : Int32) (w11 : Int32) (w12 : Int32) (w13 : Int32) (w14 : Int32) (w15 : Int32) (kk : ClassId) (h0 : Heap) (n0 : Nat) (Z0 : n0 ≤ h0.size) (V_a1 : Arv Z h0 a1 kk .byte (16 : Int32) [(.int w0), (.int w1), (.int w2), (.int w3), (.int w4), (.int w5), (.int w6), (.int w7), (.int w8), (.int w9), (.int w10), (.int w11), (.int w12), (.int w13), (.int w14), (.int w15)] (.int (0 : Int32))) :
    MetFree l (⟨"com/example/patchloom/patchloom/delta/SignMagnitude", "isNegativeZero", "([BI)Z"⟩ : MethodName) (head1 (Jvm.Cond.code (⟨"com/example/patchloom/patchloom/delta/SignMagnitude", "isNegativeZero", "([BI)Z"⟩ : MethodName) prog_26_method_3_code 3 (some .boolean) :: ws) ({ frames := 0, cells := 0, slots := 0, locals := 0 } : Room)) (fun a U => a = #[(.ref a1), (.int (7 : Int32))] ∧ Z.Warmed39 U.vm ∧ U.heap = h0) (fun _ _ _ _ _ => True) (fun _ U o U' => ∃ v L, o = .returned v ∧ Q1_7 Z a1 w0 w1 w2 w3 w4 w5 w6 w7 w8 w9 w10 w11 w12 w13 w14 w15 kk h0 n0 v U'.heap L ∧ FrameEnd U o U' L ({ frames := 0, cells := 0, slots := 0, locals := 0 } : Room).cells ({ frames := 0, cells := 0, slots := 0, locals := 0 } : Room).slots) := by
  refine MetFree.of_bodySF (plainFor_of_name pn_1) hisR ?_
  intro p e s m args below meth c s₁ Bd hml0 hP hK
  obtain ⟨rfl, hZ, hh⟩ := hP
  have hx := Bd.exec
  have hby := Bd.bytes
  have hlk := Bd.notSynchronized
  have hml : c.maxLocals = 3 := hml0
  have hown : s.vm.findClass "com/example/patchloom/patchloom/delta/SignMagnitude" = some m.cls := findClass_of_methodNamed Bd.named
  have hnm := (name_of_methodNamed Bd.named Bd.method).1
  have X0 : Stand p l e ({ frames := 0, cells := 0, slots := 0, locals := 0 } : Room) s m #[(.ref a1), (.int (7 : Int32))] below meth c s₁ [] 0 0 := Stand.of_body Bd
  have e0 : s₁.heap = h0 := by rw [← hh, Bd.state]; rfl
  have N0 := Fr.nil n0
  have K0 : Keep h0 h0 [] := Keep.refl h0 _
  show OutW p e below s ({ frames := 0, cells := 0, slots := 0, locals := 0 } : Room).cells ({ frames := 0, cells := 0, slots := 0, locals := 0 } : Room).slots (Q1_7 Z a1 w0 w1 w2 w3 w4 w5 w6 w7 w8 w9 w10 w11 w12 w13 w14 w15 kk h0 n0) _
  refine OutW.back (fun t k => castTop (ef_1_7 m a1) k) ?_
  show OutW _ _ _ _ _ _ _ (s₁.setTop (mkF m 0 #[.val (.ref a1), .val (.int (7 : Int32)), .unset] []))
  refine OutW.back (fun t k => XS.iconst X0.here hx rfl (hb hby d1_0) k) ?_
  show OutW _ _ _ _ _ _ _ (s₁.setTop (mkF m 1 #[.val (.ref a1), .val (.int (7 : Int32)), .unset] [(.int (0 : Int32))]))
  refine OutW.back (fun t k => XS.istoreN X0.here hx rfl (hb hby d1_1) rfl (l' := #[.val (.ref a1), .val (.int (7 : Int32)), .val (.int (0 : Int32))]) rfl k) ?_
  show OutW _ _ _ _ _ _ _ (s₁.setTop (mkF m 2 #[.val (.ref a1), .val (.int (7 : Int32)), .val (.int (0 : Int32))] []))
  refine OutW.back (fun t k => XS.iloadN X0.here hx rfl (hb hby d1_2) rfl  k) ?_
  show OutW _ _ _ _ _ _ _ (s₁.setTop (mkF m 3 #[.val (.ref a1), .val (.int (7 : Int32)), .val (.int (0 : Int32))] [(.int (0 : Int32))]))
  refine OutW.back (fun t k => XS.bipush X0.here hx rfl (hb hby d1_3) k) ?_
  show OutW _ _ _ _ _ _ _ (s₁.setTop (mkF m 5 #[.val (.ref a1), .val (.int (7 : Int32)), .val (.int (0 : Int32))] [(.int (7 : Int32)), (.int (0 : Int32))]))
  refine OutW.back (fun t k => XS.icmpNo X0.here hx rfl (hb hby d1_5) rfl (tlt (by decide : (0 : Int32) < (7 : Int32))).2.1 k) ?_
  show OutW _ _ _ _ _ _ _ (s₁.setTop (mkF m 8 #[.val (.ref a1), .val (.int (7 : Int32)), .val (.int (0 : Int32))] []))
  refine OutW.back (fun t k => XS.aloadN X0.here hx rfl (hb hby d1_8) rfl rfl  k) ?_
  show OutW _ _ _ _ _ _ _ (s₁.setTop (mkF m 9 #[.val (.ref a1), .val (.int (7 : Int32)), .val (.int (0 : Int32))] [(.ref a1)]))
  refine OutW.back (fun t k => XS.iloadN X0.here hx rfl (hb hby d1_9) rfl  k) ?_
  show OutW _ _ _ _ _ _ _ (s₁.setTop (mkF m 10 #[.val (.ref a1), .val (.int (7 : Int32)), .val (.int (0 : Int32))] [(.int (7 : Int32)), (.ref a1)]))
  refine OutW.back (fun t k => XS.iloadN X0.here hx rfl (hb hby d1_10) rfl  k) ?_
  show OutW _ _ _ _ _ _ _ (s₁.setTop (mkF m 11 #[.val (.ref a1), .val (.int (7 : Int32)), .val (.int (0 : Int32))] [(.int (0 : Int32)), (.int (7 : Int32)), (.ref a1)]))
  refine OutW.back (fun t k => XS.iadd X0.here hx rfl (hb hby d1_11) rfl k) ?_
  show OutW _ _ _ _ _ _ _ (s₁.setTop (mkF m 12 #[.val (.ref a1), .val (.int (7 : Int32)), .val (.int (0 : Int32))] [(.int ((7 : Int32) + (0 : Int32))), (.ref a1)]))
  rw [show ((7 : Int32) + (0 : Int32)) = (7 : Int32) from by decide]
  obtain ⟨cl1, Ar1, Qk1, Sz1, Nn1, Hh1, Gg1⟩ := id V_a1
  have hin1 : ¬ ((7 : Int32) < 0 ∨ cl1.slots.size ≤ ((7 : Int32)).toNatClampNeg) := inb_of Sz1 ⟨by decide, by decide⟩
  refine OutW.back (X0.baloadBytes hx (j := (7 : Int32)) (v := (.int w7)) (by rw [e0]; exact Ar1.1) (State.isArrayOf_alike hZ.alike Ar1.2.1) Ar1.2.2 hin1 (Hh1.at hin1 (by rfl)) (g := (mkF m 12 #[.val (.ref a1), .val (.int (7 : Int32)), .val (.int (0 : Int32))] [(.int (7 : Int32)), (.ref a1)])) rfl rfl (hb hby d1_12)) ?_
  show OutW _ _ _ _ _ _ _ (s₁.setTop (mkF m 13 #[.val (.ref a1), .val (.int (7 : Int32)), .val (.int (0 : Int32))] [(.int w7)]))
  by_cases c13_2 : w7 = (0 : Int32)
  · skip
    refine OutW.back (fun t k => XS.ifYes X0.here hx rfl (pc0 := 13) (pc' := 18) rfl (hb hby d1_13) rfl ((if0 _ _).trans (teq c13_2).1) (by decide) (by decide) k) ?_
    show OutW _ _ _ _ _ _ _ (s₁.setTop (mkF m 18 #[.val (.ref a1), .val (.int (7 : Int32)), .val (.int (0 : Int32))] []))
    refine OutW.back (fun t k => XS.iinc X0.here hx rfl (hb hby d1_18) rfl (l' := #[.val (.ref a1), .val (.int (7 : Int32)), .val (.int ((0 : Int32) + (1 : Int32)))]) rfl k) ?_
    show OutW _ _ _ _ _ _ _ (s₁.setTop (mkF m 21 #[.val (.ref a1), .val (.int (7 : Int32)), .val (.int ((0 : Int32) + (1 : Int32)))] []))
    rw [show ((0 : Int32) + (1 : Int32)) = (1 : Int32) from by decide]
    refine OutW.back (fun t k => XS.goto X0.here hx rfl (pc0 := 21) (pc' := 2) rfl (hb hby d1_21) (by decide) (by decide) k) ?_
    show OutW _ _ _ _ _ _ _ (s₁.setTop (mkF m 2 #[.val (.ref a1), .val (.int (7 : Int32)), .val (.int (1 : Int32))] []))
    refine OutW.back (fun t k => XS.iloadN X0.here hx rfl (hb hby d1_2) rfl  k) ?_
    show OutW _ _ _ _ _ _ _ (s₁.setTop (mkF m 3 #[.val (.ref a1), .val (.int (7 : Int32)), .val (.int (1 : Int32))] [(.int (1 : Int32))]))
    refine OutW.back (fun t k => XS.bipush X0.here hx rfl (hb hby d1_3) k) ?_
    show OutW _ _ _ _ _ _ _ (s₁.setTop (mkF m 5 #[.val (.ref a1), .val (.int (7 : Int32)), .val (.int (1 : Int32))] [(.int (7 : Int32)), (.int (1 : Int32))]))
    refine OutW.back (fun t k => XS.icmpNo X0.here hx rfl (hb hby d1_5) rfl (tlt (by decide : (1 : Int32) < (7 : Int32))).2.1 k) ?_
    show OutW _ _ _ _ _ _ _ (s₁.setTop (mkF m 8 #[.val (.ref a1), .val (.int (7 : Int32)), .val (.int (1 : Int32))] []))
    refine OutW.back (fun t k => XS.aloadN X0.here hx rfl (hb hby d1_8) rfl rfl  k) ?_
    show OutW _ _ _ _ _ _ _ (s₁.setTop (mkF m 9 #[.val (.ref a1), .val (.int (7 : Int32)), .val (.int (1 : Int32))] [(.ref a1)]))
    refine OutW.back (fun t k => XS.iloadN X0.here hx rfl (hb hby d1_9) rfl  k) ?_
    show OutW _ _ _ _ _ _ _ (s₁.setTop (mkF m 10 #[.val (.ref a1), .val (.int (7 : Int32)), .val (.int (1 : Int32))] [(.int (7 : Int32)), (.ref a1)]))
    refine OutW.back (fun t k => XS.iloadN X0.here hx rfl (hb hby d1_10) rfl  k) ?_
    show OutW _ _ _ _ _ _ _ (s₁.setTop (mkF m 11 #[.val (.ref a1), .val (.int (7 : Int32)), .val (.int (1 : Int32))] [(.int (1 : Int32)), (.int (7 : Int32)), (.ref a1)]))
    refine OutW.back (fun t k => XS.iadd X0.here hx rfl (hb hby d1_11) rfl k) ?_
    show OutW _ _ _ _ _ _ _ (s₁.setTop (mkF m 12 #[.val (.ref a1), .val (.int (7 : Int32)), .val (.int (1 : Int32))] [(.int ((7 : Int32) + (1 : Int32))), (.ref a1)]))
    rw [show ((7 : Int32) + (1 : Int32)) = (8 : Int32) from by decide]
    obtain ⟨cl3, Ar3, Qk3, Sz3, Nn3, Hh3, Gg3⟩ := id V_a1
    have hin3 : ¬ ((8 : Int32) < 0 ∨ cl3.slots.size ≤ ((8 : Int32)).toNatClampNeg) := inb_of Sz3 ⟨by decide, by decide⟩
    refine OutW.back (X0.baloadBytes hx (j := (8 : Int32)) (v := (.int w8)) (by rw [e0]; exact Ar3.1) (State.isArrayOf_alike hZ.alike Ar3.2.1) Ar3.2.2 hin3 (Hh3.at hin3 (by rfl)) (g := (mkF m 12 #[.val (.ref a1), .val (.int (7 : Int32)), .val (.int (1 : Int32))] [(.int (8 : Int32)), (.ref a1)])) rfl rfl (hb hby d1_12)) ?_
    show OutW _ _ _ _ _ _ _ (s₁.setTop (mkF m 13 #[.val (.ref a1), .val (.int (7 : Int32)), .val (.int (1 : Int32))] [(.int w8)]))
    by_cases c13_4 : w8 = (0 : Int32)
    · skip
      refine OutW.back (fun t k => XS.ifYes X0.here hx rfl (pc0 := 13) (pc' := 18) rfl (hb hby d1_13) rfl ((if0 _ _).trans (teq c13_4).1) (by decide) (by decide) k) ?_
      show OutW _ _ _ _ _ _ _ (s₁.setTop (mkF m 18 #[.val (.ref a1), .val (.int (7 : Int32)), .val (.int (1 : Int32))] []))
      refine OutW.back (fun t k => XS.iinc X0.here hx rfl (hb hby d1_18) rfl (l' := #[.val (.ref a1), .val (.int (7 : Int32)), .val (.int ((1 : Int32) + (1 : Int32)))]) rfl k) ?_
      show OutW _ _ _ _ _ _ _ (s₁.setTop (mkF m 21 #[.val (.ref a1), .val (.int (7 : Int32)), .val (.int ((1 : Int32) + (1 : Int32)))] []))
      rw [show ((1 : Int32) + (1 : Int32)) = (2 : Int32) from by decide]
      refine OutW.back (fun t k => XS.goto X0.here hx rfl (pc0 := 21) (pc' := 2) rfl (hb hby d1_21) (by decide) (by decide) k) ?_
      show OutW _ _ _ _ _ _ _ (s₁.setTop (mkF m 2 #[.val (.ref a1), .val (.int (7 : Int32)), .val (.int (2 : Int32))] []))
      refine OutW.back (fun t k => XS.iloadN X0.here hx rfl (hb hby d1_2) rfl  k) ?_
      show OutW _ _ _ _ _ _ _ (s₁.setTop (mkF m 3 #[.val (.ref a1), .val (.int (7 : Int32)), .val (.int (2 : Int32))] [(.int (2 : Int32))]))
      refine OutW.back (fun t k => XS.bipush X0.here hx rfl (hb hby d1_3) k) ?_
      show OutW _ _ _ _ _ _ _ (s₁.setTop (mkF m 5 #[.val (.ref a1), .val (.int (7 : Int32)), .val (.int (2 : Int32))] [(.int (7 : Int32)), (.int (2 : Int32))]))
      refine OutW.back (fun t k => XS.icmpNo X0.here hx rfl (hb hby d1_5) rfl (tlt (by decide : (2 : Int32) < (7 : Int32))).2.1 k) ?_
      show OutW _ _ _ _ _ _ _ (s₁.setTop (mkF m 8 #[.val (.ref a1), .val (.int (7 : Int32)), .val (.int (2 : Int32))] []))
      refine OutW.back (fun t k => XS.aloadN X0.here hx rfl (hb hby d1_8) rfl rfl  k) ?_
      show OutW _ _ _ _ _ _ _ (s₁.setTop (mkF m 9 #[.val (.ref a1), .val (.int (7 : Int32)), .val (.int (2 : Int32))] [(.ref a1)]))
      refine OutW.back (fun t k => XS.iloadN X0.here hx rfl (hb hby d1_9) rfl  k) ?_
      show OutW _ _ _ _ _ _ _ (s₁.setTop (mkF m 10 #[.val (.ref a1), .val (.int (7 : Int32)), .val (.int (2 : Int32))] [(.int (7 : Int32)), (.ref a1)]))
      refine OutW.back (fun t k => XS.iloadN X0.here hx rfl (hb hby d1_10) rfl  k) ?_
      show OutW _ _ _ _ _ _ _ (s₁.setTop (mkF m 11 #[.val (.ref a1), .val (.int (7 : Int32)), .val (.int (2 : Int32))] [(.int (2 : Int32)), (.int (7 : Int32)), (.ref a1)]))
      refine OutW.back (fun t k => XS.iadd X0.here hx rfl (hb hby d1_11) rfl k) ?_
      show OutW _ _ _ _ _ _ _ (s₁.setTop (mkF m 12 #[.val (.ref a1), .val (.int (7 : Int32)), .val (.int (2 : Int32))] [(.int ((7 : Int32) + (2 : Int32))), (.ref a1)]))
      rw [show ((7 : Int32) + (2 : Int32)) = (9 : Int32) from by decide]
      obtain ⟨cl5, Ar5, Qk5, Sz5, Nn5, Hh5, Gg5⟩ := id V_a1
      have hin5 : ¬ ((9 : Int32) < 0 ∨ cl5.slots.size ≤ ((9 : Int32)).toNatClampNeg) := inb_of Sz5 ⟨by decide, by decide⟩
      refine OutW.back (X0.baloadBytes hx (j := (9 : Int32)) (v := (.int w9)) (by rw [e0]; exact Ar5.1) (State.isArrayOf_alike hZ.alike Ar5.2.1) Ar5.2.2 hin5 (Hh5.at hin5 (by rfl)) (g := (mkF m 12 #[.val (.ref a1), .val (.int (7 : Int32)), .val (.int (2 : Int32))] [(.int (9 : Int32)), (.ref a1)])) rfl rfl (hb hby d1_12)) ?_
      show OutW _ _ _ _ _ _ _ (s₁.setTop (mkF m 13 #[.val (.ref a1), .val (.int (7 : Int32)), .val (.int (2 : Int32))] [(.int w9)]))
      by_cases c13_6 : w9 = (0 : Int32)
      · skip
        refine OutW.back (fun t k => XS.ifYes X0.here hx rfl (pc0 := 13) (pc' := 18) rfl (hb hby d1_13) rfl ((if0 _ _).trans (teq c13_6).1) (by decide) (by decide) k) ?_
        show OutW _ _ _ _ _ _ _ (s₁.setTop (mkF m 18 #[.val (.ref a1), .val (.int (7 : Int32)), .val (.int (2 : Int32))] []))
        refine OutW.back (fun t k => XS.iinc X0.here hx rfl (hb hby d1_18) rfl (l' := #[.val (.ref a1), .val (.int (7 : Int32)), .val (.int ((2 : Int32) + (1 : Int32)))]) rfl k) ?_
        show OutW _ _ _ _ _ _ _ (s₁.setTop (mkF m 21 #[.val (.ref a1), .val (.int (7 : Int32)), .val (.int ((2 : Int32) + (1 : Int32)))] []))
        rw [show ((2 : Int32) + (1 : Int32)) = (3 : Int32) from by decide]
        refine OutW.back (fun t k => XS.goto X0.here hx rfl (pc0 := 21) (pc' := 2) rfl (hb hby d1_21) (by decide) (by decide) k) ?_
        show OutW _ _ _ _ _ _ _ (s₁.setTop (mkF m 2 #[.val (.ref a1), .val (.int (7 : Int32)), .val (.int (3 : Int32))] []))
        refine OutW.back (fun t k => XS.iloadN X0.here hx rfl (hb hby d1_2) rfl  k) ?_
        show OutW _ _ _ _ _ _ _ (s₁.setTop (mkF m 3 #[.val (.ref a1), .val (.int (7 : Int32)), .val (.int (3 : Int32))] [(.int (3 : Int32))]))
        refine OutW.back (fun t k => XS.bipush X0.here hx rfl (hb hby d1_3) k) ?_
        show OutW _ _ _ _ _ _ _ (s₁.setTop (mkF m 5 #[.val (.ref a1), .val (.int (7 : Int32)), .val (.int (3 : Int32))] [(.int (7 : Int32)), (.int (3 : Int32))]))
        refine OutW.back (fun t k => XS.icmpNo X0.here hx rfl (hb hby d1_5) rfl (tlt (by decide : (3 : Int32) < (7 : Int32))).2.1 k) ?_
        show OutW _ _ _ _ _ _ _ (s₁.setTop (mkF m 8 #[.val (.ref a1), .val (.int (7 : Int32)), .val (.int (3 : Int32))] []))
        refine OutW.back (fun t k => XS.aloadN X0.here hx rfl (hb hby d1_8) rfl rfl  k) ?_
        show OutW _ _ _ _ _ _ _ (s₁.setTop (mkF m 9 #[.val (.ref a1), .val (.int (7 : Int32)), .val (.int (3 : Int32))] [(.ref a1)]))
        refine OutW.back (fun t k => XS.iloadN X0.here hx rfl (hb hby d1_9) rfl  k) ?_
        show OutW _ _ _ _ _ _ _ (s₁.setTop (mkF m 10 #[.val (.ref a1), .val (.int (7 : Int32)), .val (.int (3 : Int32))] [(.int (7 : Int32)), (.ref a1)]))
        refine OutW.back (fun t k => XS.iloadN X0.here hx rfl (hb hby d1_10) rfl  k) ?_
        show OutW _ _ _ _ _ _ _ (s₁.setTop (mkF m 11 #[.val (.ref a1), .val (.int (7 : Int32)), .val (.int (3 : Int32))] [(.int (3 : Int32)), (.int (7 : Int32)), (.ref a1)]))
        refine OutW.back (fun t k => XS.iadd X0.here hx rfl (hb hby d1_11) rfl k) ?_
        show OutW _ _ _ _ _ _ _ (s₁.setTop (mkF m 12 #[.val (.ref a1), .val (.int (7 : Int32)), .val (.int (3 : Int32))] [(.int ((7 : Int32) + (3 : Int32))), (.ref a1)]))
        rw [show ((7 : Int32) + (3 : Int32)) = (10 : Int32) from by decide]
        obtain ⟨cl7, Ar7, Qk7, Sz7, Nn7, Hh7, Gg7⟩ := id V_a1
        have hin7 : ¬ ((10 : Int32) < 0 ∨ cl7.slots.size ≤ ((10 : Int32)).toNatClampNeg) := inb_of Sz7 ⟨by decide, by decide⟩
        refine OutW.back (X0.baloadBytes hx (j := (10 : Int32)) (v := (.int w10)) (by rw [e0]; exact Ar7.1) (State.isArrayOf_alike hZ.alike Ar7.2.1) Ar7.2.2 hin7 (Hh7.at hin7 (by rfl)) (g := (mkF m 12 #[.val (.ref a1), .val (.int (7 : Int32)), .val (.int (3 : Int32))] [(.int (10 : Int32)), (.ref a1)])) rfl rfl (hb hby d1_12)) ?_
        show OutW _ _ _ _ _ _ _ (s₁.setTop (mkF m 13 #[.val (.ref a1), .val (.int (7 : Int32)), .val (.int (3 : Int32))] [(.int w10)]))
        by_cases c13_8 : w10 = (0 : Int32)
        · skip
          refine OutW.back (fun t k => XS.ifYes X0.here hx rfl (pc0 := 13) (pc' := 18) rfl (hb hby d1_13) rfl ((if0 _ _).trans (teq c13_8).1) (by decide) (by decide) k) ?_
          show OutW _ _ _ _ _ _ _ (s₁.setTop (mkF m 18 #[.val (.ref a1), .val (.int (7 : Int32)), .val (.int (3 : Int32))] []))
          refine OutW.back (fun t k => XS.iinc X0.here hx rfl (hb hby d1_18) rfl (l' := #[.val (.ref a1), .val (.int (7 : Int32)), .val (.int ((3 : Int32) + (1 : Int32)))]) rfl k) ?_
          show OutW _ _ _ _ _ _ _ (s₁.setTop (mkF m 21 #[.val (.ref a1), .val (.int (7 : Int32)), .val (.int ((3 : Int32) + (1 : Int32)))] []))
          rw [show ((3 : Int32) + (1 : Int32)) = (4 : Int32) from by decide]
          refine OutW.back (fun t k => XS.goto X0.here hx rfl (pc0 := 21) (pc' := 2) rfl (hb hby d1_21) (by decide) (by decide) k) ?_
          show OutW _ _ _ _ _ _ _ (s₁.setTop (mkF m 2 #[.val (.ref a1), .val (.int (7 : Int32)), .val (.int (4 : Int32))] []))
          refine OutW.back (fun t k => XS.iloadN X0.here hx rfl (hb hby d1_2) rfl  k) ?_
          show OutW _ _ _ _ _ _ _ (s₁.setTop (mkF m 3 #[.val (.ref a1), .val (.int (7 : Int32)), .val (.int (4 : Int32))] [(.int (4 : Int32))]))
          refine OutW.back (fun t k => XS.bipush X0.here hx rfl (hb hby d1_3) k) ?_
          show OutW _ _ _ _ _ _ _ (s₁.setTop (mkF m 5 #[.val (.ref a1), .val (.int (7 : Int32)), .val (.int (4 : Int32))] [(.int (7 : Int32)), (.int (4 : Int32))]))
          refine OutW.back (fun t k => XS.icmpNo X0.here hx rfl (hb hby d1_5) rfl (tlt (by decide : (4 : Int32) < (7 : Int32))).2.1 k) ?_
          show OutW _ _ _ _ _ _ _ (s₁.setTop (mkF m 8 #[.val (.ref a1), .val (.int (7 : Int32)), .val (.int (4 : Int32))] []))
          refine OutW.back (fun t k => XS.aloadN X0.here hx rfl (hb hby d1_8) rfl rfl  k) ?_
          show OutW _ _ _ _ _ _ _ (s₁.setTop (mkF m 9 #[.val (.ref a1), .val (.int (7 : Int32)), .val (.int (4 : Int32))] [(.ref a1)]))
          refine OutW.back (fun t k => XS.iloadN X0.here hx rfl (hb hby d1_9) rfl  k) ?_
          show OutW _ _ _ _ _ _ _ (s₁.setTop (mkF m 10 #[.val (.ref a1), .val (.int (7 : Int32)), .val (.int (4 : Int32))] [(.int (7 : Int32)), (.ref a1)]))
          refine OutW.back (fun t k => XS.iloadN X0.here hx rfl (hb hby d1_10) rfl  k) ?_
          show OutW _ _ _ _ _ _ _ (s₁.setTop (mkF m 11 #[.val (.ref a1), .val (.int (7 : Int32)), .val (.int (4 : Int32))] [(.int (4 : Int32)), (.int (7 : Int32)), (.ref a1)]))
          refine OutW.back (fun t k => XS.iadd X0.here hx rfl (hb hby d1_11) rfl k) ?_
          show OutW _ _ _ _ _ _ _ (s₁.setTop (mkF m 12 #[.val (.ref a1), .val (.int (7 : Int32)), .val (.int (4 : Int32))] [(.int ((7 : Int32) + (4 : Int32))), (.ref a1)]))
          rw [show ((7 : Int32) + (4 : Int32)) = (11 : Int32) from by decide]
          obtain ⟨cl9, Ar9, Qk9, Sz9, Nn9, Hh9, Gg9⟩ := id V_a1
          have hin9 : ¬ ((11 : Int32) < 0 ∨ cl9.slots.size ≤ ((11 : Int32)).toNatClampNeg) := inb_of Sz9 ⟨by decide, by decide⟩
          refine OutW.back (X0.baloadBytes hx (j := (11 : Int32)) (v := (.int w11)) (by rw [e0]; exact Ar9.1) (State.isArrayOf_alike hZ.alike Ar9.2.1) Ar9.2.2 hin9 (Hh9.at hin9 (by rfl)) (g := (mkF m 12 #[.val (.ref a1), .val (.int (7 : Int32)), .val (.int (4 : Int32))] [(.int (11 : Int32)), (.ref a1)])) rfl rfl (hb hby d1_12)) ?_
          show OutW _ _ _ _ _ _ _ (s₁.setTop (mkF m 13 #[.val (.ref a1), .val (.int (7 : Int32)), .val (.int (4 : Int32))] [(.int w11)]))
          by_cases c13_10 : w11 = (0 : Int32)
          · skip
            refine OutW.back (fun t k => XS.ifYes X0.here hx rfl (pc0 := 13) (pc' := 18) rfl (hb hby d1_13) rfl ((if0 _ _).trans (teq c13_10).1) (by decide) (by decide) k) ?_
            show OutW _ _ _ _ _ _ _ (s₁.setTop (mkF m 18 #[.val (.ref a1), .val (.int (7 : Int32)), .val (.int (4 : Int32))] []))
            refine OutW.back (fun t k => XS.iinc X0.here hx rfl (hb hby d1_18) rfl (l' := #[.val (.ref a1), .val (.int (7 : Int32)), .val (.int ((4 : Int32) + (1 : Int32)))]) rfl k) ?_
            show OutW _ _ _ _ _ _ _ (s₁.setTop (mkF m 21 #[.val (.ref a1), .val (.int (7 : Int32)), .val (.int ((4 : Int32) + (1 : Int32)))] []))
            rw [show ((4 : Int32) + (1 : Int32)) = (5 : Int32) from by decide]
            refine OutW.back (fun t k => XS.goto X0.here hx rfl (pc0 := 21) (pc' := 2) rfl (hb hby d1_21) (by decide) (by decide) k) ?_
            show OutW _ _ _ _ _ _ _ (s₁.setTop (mkF m 2 #[.val (.ref a1), .val (.int (7 : Int32)), .val (.int (5 : Int32))] []))
            refine OutW.back (fun t k => XS.iloadN X0.here hx rfl (hb hby d1_2) rfl  k) ?_
            show OutW _ _ _ _ _ _ _ (s₁.setTop (mkF m 3 #[.val (.ref a1), .val (.int (7 : Int32)), .val (.int (5 : Int32))] [(.int (5 : Int32))]))
            refine OutW.back (fun t k => XS.bipush X0.here hx rfl (hb hby d1_3) k) ?_
            show OutW _ _ _ _ _ _ _ (s₁.setTop (mkF m 5 #[.val (.ref a1), .val (.int (7 : Int32)), .val (.int (5 : Int32))] [(.int (7 : Int32)), (.int (5 : Int32))]))
            refine OutW.back (fun t k => XS.icmpNo X0.here hx rfl (hb hby d1_5) rfl (tlt (by decide : (5 : Int32) < (7 : Int32))).2.1 k) ?_
            show OutW _ _ _ _ _ _ _ (s₁.setTop (mkF m 8 #[.val (.ref a1), .val (.int (7 : Int32)), .val (.int (5 : Int32))] []))
            refine OutW.back (fun t k => XS.aloadN X0.here hx rfl (hb hby d1_8) rfl rfl  k) ?_
            show OutW _ _ _ _ _ _ _ (s₁.setTop (mkF m 9 #[.val (.ref a1), .val (.int (7 : Int32)), .val (.int (5 : Int32))] [(.ref a1)]))
            refine OutW.back (fun t k => XS.iloadN X0.here hx rfl (hb hby d1_9) rfl  k) ?_
            show OutW _ _ _ _ _ _ _ (s₁.setTop (mkF m 10 #[.val (.ref a1), .val (.int (7 : Int32)), .val (.int (5 : Int32))] [(.int (7 : Int32)), (.ref a1)]))
            refine OutW.back (fun t k => XS.iloadN X0.here hx rfl (hb hby d1_10) rfl  k) ?_
            show OutW _ _ _ _ _ _ _ (s₁.setTop (mkF m 11 #[.val (.ref a1), .val (.int (7 : Int32)), .val (.int (5 : Int32))] [(.int (5 : Int32)), (.int (7 : Int32)), (.ref a1)]))
            refine OutW.back (fun t k => XS.iadd X0.here hx rfl (hb hby d1_11) rfl k) ?_
            show OutW _ _ _ _ _ _ _ (s₁.setTop (mkF m 12 #[.val (.ref a1), .val (.int (7 : Int32)), .val (.int (5 : Int32))] [(.int ((7 : Int32) + (5 : Int32))), (.ref a1)]))
            rw [show ((7 : Int32) + (5 : Int32)) = (12 : Int32) from by decide]
            obtain ⟨cl11, Ar11, Qk11, Sz11, Nn11, Hh11, Gg11⟩ := id V_a1
            have hin11 : ¬ ((12 : Int32) < 0 ∨ cl11.slots.size ≤ ((12 : Int32)).toNatClampNeg) := inb_of Sz11 ⟨by decide, by decide⟩
            refine OutW.back (X0.baloadBytes hx (j := (12 : Int32)) (v := (.int w12)) (by rw [e0]; exact Ar11.1) (State.isArrayOf_alike hZ.alike Ar11.2.1) Ar11.2.2 hin11 (Hh11.at hin11 (by rfl)) (g := (mkF m 12 #[.val (.ref a1), .val (.int (7 : Int32)), .val (.int (5 : Int32))] [(.int (12 : Int32)), (.ref a1)])) rfl rfl (hb hby d1_12)) ?_
            show OutW _ _ _ _ _ _ _ (s₁.setTop (mkF m 13 #[.val (.ref a1), .val (.int (7 : Int32)), .val (.int (5 : Int32))] [(.int w12)]))
            by_cases c13_12 : w12 = (0 : Int32)
            · skip
              refine OutW.back (fun t k => XS.ifYes X0.here hx rfl (pc0 := 13) (pc' := 18) rfl (hb hby d1_13) rfl ((if0 _ _).trans (teq c13_12).1) (by decide) (by decide) k) ?_
              show OutW _ _ _ _ _ _ _ (s₁.setTop (mkF m 18 #[.val (.ref a1), .val (.int (7 : Int32)), .val (.int (5 : Int32))] []))
              refine OutW.back (fun t k => XS.iinc X0.here hx rfl (hb hby d1_18) rfl (l' := #[.val (.ref a1), .val (.int (7 : Int32)), .val (.int ((5 : Int32) + (1 : Int32)))]) rfl k) ?_
              show OutW _ _ _ _ _ _ _ (s₁.setTop (mkF m 21 #[.val (.ref a1), .val (.int (7 : Int32)), .val (.int ((5 : Int32) + (1 : Int32)))] []))
              rw [show ((5 : Int32) + (1 : Int32)) = (6 : Int32) from by decide]
              refine OutW.back (fun t k => XS.goto X0.here hx rfl (pc0 := 21) (pc' := 2) rfl (hb hby d1_21) (by decide) (by decide) k) ?_
              show OutW _ _ _ _ _ _ _ (s₁.setTop (mkF m 2 #[.val (.ref a1), .val (.int (7 : Int32)), .val (.int (6 : Int32))] []))
              refine OutW.back (fun t k => XS.iloadN X0.here hx rfl (hb hby d1_2) rfl  k) ?_
              show OutW _ _ _ _ _ _ _ (s₁.setTop (mkF m 3 #[.val (.ref a1), .val (.int (7 : Int32)), .val (.int (6 : Int32))] [(.int (6 : Int32))]))
              refine OutW.back (fun t k => XS.bipush X0.here hx rfl (hb hby d1_3) k) ?_
              show OutW _ _ _ _ _ _ _ (s₁.setTop (mkF m 5 #[.val (.ref a1), .val (.int (7 : Int32)), .val (.int (6 : Int32))] [(.int (7 : Int32)), (.int (6 : Int32))]))
              refine OutW.back (fun t k => XS.icmpNo X0.here hx rfl (hb hby d1_5) rfl (tlt (by decide : (6 : Int32) < (7 : Int32))).2.1 k) ?_
              show OutW _ _ _ _ _ _ _ (s₁.setTop (mkF m 8 #[.val (.ref a1), .val (.int (7 : Int32)), .val (.int (6 : Int32))] []))
              refine OutW.back (fun t k => XS.aloadN X0.here hx rfl (hb hby d1_8) rfl rfl  k) ?_
              show OutW _ _ _ _ _ _ _ (s₁.setTop (mkF m 9 #[.val (.ref a1), .val (.int (7 : Int32)), .val (.int (6 : Int32))] [(.ref a1)]))
              refine OutW.back (fun t k => XS.iloadN X0.here hx rfl (hb hby d1_9) rfl  k) ?_
              show OutW _ _ _ _ _ _ _ (s₁.setTop (mkF m 10 #[.val (.ref a1), .val (.int (7 : Int32)), .val (.int (6 : Int32))] [(.int (7 : Int32)), (.ref a1)]))
              refine OutW.back (fun t k => XS.iloadN X0.here hx rfl (hb hby d1_10) rfl  k) ?_
              show OutW _ _ _ _ _ _ _ (s₁.setTop (mkF m 11 #[.val (.ref a1), .val (.int (7 : Int32)), .val (.int (6 : Int32))] [(.int (6 : Int32)), (.int (7 : Int32)), (.ref a1)]))
              refine OutW.back (fun t k => XS.iadd X0.here hx rfl (hb hby d1_11) rfl k) ?_
              show OutW _ _ _ _ _ _ _ (s₁.setTop (mkF m 12 #[.val (.ref a1), .val (.int (7 : Int32)), .val (.int (6 : Int32))] [(.int ((7 : Int32) + (6 : Int32))), (.ref a1)]))
              rw [show ((7 : Int32) + (6 : Int32)) = (13 : Int32) from by decide]
              obtain ⟨cl13, Ar13, Qk13, Sz13, Nn13, Hh13, Gg13⟩ := id V_a1
              have hin13 : ¬ ((13 : Int32) < 0 ∨ cl13.slots.size ≤ ((13 : Int32)).toNatClampNeg) := inb_of Sz13 ⟨by decide, by decide⟩
              refine OutW.back (X0.baloadBytes hx (j := (13 : Int32)) (v := (.int w13)) (by rw [e0]; exact Ar13.1) (State.isArrayOf_alike hZ.alike Ar13.2.1) Ar13.2.2 hin13 (Hh13.at hin13 (by rfl)) (g := (mkF m 12 #[.val (.ref a1), .val (.int (7 : Int32)), .val (.int (6 : Int32))] [(.int (13 : Int32)), (.ref a1)])) rfl rfl (hb hby d1_12)) ?_
              show OutW _ _ _ _ _ _ _ (s₁.setTop (mkF m 13 #[.val (.ref a1), .val (.int (7 : Int32)), .val (.int (6 : Int32))] [(.int w13)]))
              by_cases c13_14 : w13 = (0 : Int32)
              · skip
                refine OutW.back (fun t k => XS.ifYes X0.here hx rfl (pc0 := 13) (pc' := 18) rfl (hb hby d1_13) rfl ((if0 _ _).trans (teq c13_14).1) (by decide) (by decide) k) ?_
                show OutW _ _ _ _ _ _ _ (s₁.setTop (mkF m 18 #[.val (.ref a1), .val (.int (7 : Int32)), .val (.int (6 : Int32))] []))
                refine OutW.back (fun t k => XS.iinc X0.here hx rfl (hb hby d1_18) rfl (l' := #[.val (.ref a1), .val (.int (7 : Int32)), .val (.int ((6 : Int32) + (1 : Int32)))]) rfl k) ?_
                show OutW _ _ _ _ _ _ _ (s₁.setTop (mkF m 21 #[.val (.ref a1), .val (.int (7 : Int32)), .val (.int ((6 : Int32) + (1 : Int32)))] []))
                rw [show ((6 : Int32) + (1 : Int32)) = (7 : Int32) from by decide]
                refine OutW.back (fun t k => XS.goto X0.here hx rfl (pc0 := 21) (pc' := 2) rfl (hb hby d1_21) (by decide) (by decide) k) ?_
                show OutW _ _ _ _ _ _ _ (s₁.setTop (mkF m 2 #[.val (.ref a1), .val (.int (7 : Int32)), .val (.int (7 : Int32))] []))
                refine OutW.back (fun t k => XS.iloadN X0.here hx rfl (hb hby d1_2) rfl  k) ?_
                show OutW _ _ _ _ _ _ _ (s₁.setTop (mkF m 3 #[.val (.ref a1), .val (.int (7 : Int32)), .val (.int (7 : Int32))] [(.int (7 : Int32))]))
                refine OutW.back (fun t k => XS.bipush X0.here hx rfl (hb hby d1_3) k) ?_
                show OutW _ _ _ _ _ _ _ (s₁.setTop (mkF m 5 #[.val (.ref a1), .val (.int (7 : Int32)), .val (.int (7 : Int32))] [(.int (7 : Int32)), (.int (7 : Int32))]))
                refine OutW.back (fun t k => XS.icmpYes X0.here hx rfl (pc0 := 5) (pc' := 24) rfl (hb hby d1_5) rfl (flt (by decide : ¬ ((7 : Int32) < (7 : Int32)))).2.1 (by decide) (by decide) k) ?_
                show OutW _ _ _ _ _ _ _ (s₁.setTop (mkF m 24 #[.val (.ref a1), .val (.int (7 : Int32)), .val (.int (7 : Int32))] []))
                refine OutW.back (fun t k => XS.aloadN X0.here hx rfl (hb hby d1_24) rfl rfl  k) ?_
                show OutW _ _ _ _ _ _ _ (s₁.setTop (mkF m 25 #[.val (.ref a1), .val (.int (7 : Int32)), .val (.int (7 : Int32))] [(.ref a1)]))
                refine OutW.back (fun t k => XS.iloadN X0.here hx rfl (hb hby d1_25) rfl  k) ?_
                show OutW _ _ _ _ _ _ _ (s₁.setTop (mkF m 26 #[.val (.ref a1), .val (.int (7 : Int32)), .val (.int (7 : Int32))] [(.int (7 : Int32)), (.ref a1)]))
                refine OutW.back (fun t k => XS.bipush X0.here hx rfl (hb hby d1_26) k) ?_
                show OutW _ _ _ _ _ _ _ (s₁.setTop (mkF m 28 #[.val (.ref a1), .val (.int (7 : Int32)), .val (.int (7 : Int32))] [(.int (8 : Int32)), (.int (7 : Int32)), (.ref a1)]))
                refine OutW.back (fun t k => XS.iadd X0.here hx rfl (hb hby d1_28) rfl k) ?_
                show OutW _ _ _ _ _ _ _ (s₁.setTop (mkF m 29 #[.val (.ref a1), .val (.int (7 : Int32)), .val (.int (7 : Int32))] [(.int ((7 : Int32) + (8 : Int32))), (.ref a1)]))
                rw [show ((7 : Int32) + (8 : Int32)) = (15 : Int32) from by decide]
                refine OutW.back (fun t k => XS.iconst X0.here hx rfl (hb hby d1_29) k) ?_
                show OutW _ _ _ _ _ _ _ (s₁.setTop (mkF m 30 #[.val (.ref a1), .val (.int (7 : Int32)), .val (.int (7 : Int32))] [(.int (1 : Int32)), (.int (15 : Int32)), (.ref a1)]))
                refine OutW.back (fun t k => XS.isub X0.here hx rfl (hb hby d1_30) rfl k) ?_
                show OutW _ _ _ _ _ _ _ (s₁.setTop (mkF m 31 #[.val (.ref a1), .val (.int (7 : Int32)), .val (.int (7 : Int32))] [(.int ((15 : Int32) - (1 : Int32))), (.ref a1)]))
                rw [show ((15 : Int32) - (1 : Int32)) = (14 : Int32) from by decide]
                obtain ⟨cl15, Ar15, Qk15, Sz15, Nn15, Hh15, Gg15⟩ := id V_a1
                have hin15 : ¬ ((14 : Int32) < 0 ∨ cl15.slots.size ≤ ((14 : Int32)).toNatClampNeg) := inb_of Sz15 ⟨by decide, by decide⟩
                refine OutW.back (X0.baloadBytes hx (j := (14 : Int32)) (v := (.int w14)) (by rw [e0]; exact Ar15.1) (State.isArrayOf_alike hZ.alike Ar15.2.1) Ar15.2.2 hin15 (Hh15.at hin15 (by rfl)) (g := (mkF m 31 #[.val (.ref a1), .val (.int (7 : Int32)), .val (.int (7 : Int32))] [(.int (14 : Int32)), (.ref a1)])) rfl rfl (hb hby d1_31)) ?_
                show OutW _ _ _ _ _ _ _ (s₁.setTop (mkF m 32 #[.val (.ref a1), .val (.int (7 : Int32)), .val (.int (7 : Int32))] [(.int w14)]))
                refine OutW.back (fun t k => XS.bipush X0.here hx rfl (hb hby d1_32) k) ?_
                show OutW _ _ _ _ _ _ _ (s₁.setTop (mkF m 34 #[.val (.ref a1), .val (.int (7 : Int32)), .val (.int (7 : Int32))] [(.int (-128 : Int32)), (.int w14)]))
                by_cases c34_16 : w14 = (-128 : Int32)
                · skip
                  refine OutW.back (fun t k => XS.icmpNo X0.here hx rfl (hb hby d1_34) rfl (teq c34_16).2 k) ?_
                  show OutW _ _ _ _ _ _ _ (s₁.setTop (mkF m 37 #[.val (.ref a1), .val (.int (7 : Int32)), .val (.int (7 : Int32))] []))
                  refine OutW.back (fun t k => XS.iconst X0.here hx rfl (hb hby d1_37) k) ?_
                  show OutW _ _ _ _ _ _ _ (s₁.setTop (mkF m 38 #[.val (.ref a1), .val (.int (7 : Int32)), .val (.int (7 : Int32))] [(.int (1 : Int32))]))
                  refine OutW.back (fun t k => XS.goto X0.here hx rfl (pc0 := 38) (pc' := 42) rfl (hb hby d1_38) (by decide) (by decide) k) ?_
                  show OutW _ _ _ _ _ _ _ (s₁.setTop (mkF m 42 #[.val (.ref a1), .val (.int (7 : Int32)), .val (.int (7 : Int32))] [(.int (1 : Int32))]))
                  refine OutW.retN X0 hx (t := .boolean) (z' := (1 : Int32)) Bd.returns (by simp) hlk (hb hby d1_42) ?hz (by decide) (by decide) ?_
                  case hz =>
                    rfl
                  show Q1_7 Z a1 w0 w1 w2 w3 w4 w5 w6 w7 w8 w9 w10 w11 w12 w13 w14 w15 kk h0 n0 _ s₁.heap _
                  rw [e0]
                  exact ⟨by rw [negz7, if_pos c13_2, if_pos c13_4, if_pos c13_6, if_pos c13_8, if_pos c13_10, if_pos c13_12, if_pos c13_14, if_pos c34_16], N0, rfl⟩
                · skip
                  refine OutW.back (fun t k => XS.icmpYes X0.here hx rfl (pc0 := 34) (pc' := 41) rfl (hb hby d1_34) rfl (feq c34_16).2 (by decide) (by decide) k) ?_
                  show OutW _ _ _ _ _ _ _ (s₁.setTop (mkF m 41 #[.val (.ref a1), .val (.int (7 : Int32)), .val (.int (7 : Int32))] []))
                  refine OutW.back (fun t k => XS.iconst X0.here hx rfl (hb hby d1_41) k) ?_
                  show OutW _ _ _ _ _ _ _ (s₁.setTop (mkF m 42 #[.val (.ref a1), .val (.int (7 : Int32)), .val (.int (7 : Int32))] [(.int (0 : Int32))]))
                  refine OutW.retN X0 hx (t := .boolean) (z' := (0 : Int32)) Bd.returns (by simp) hlk (hb hby d1_42) ?hz (by decide) (by decide) ?_
                  case hz =>
                    rfl
                  show Q1_7 Z a1 w0 w1 w2 w3 w4 w5 w6 w7 w8 w9 w10 w11 w12 w13 w14 w15 kk h0 n0 _ s₁.heap _
                  rw [e0]
                  exact ⟨by rw [negz7, if_pos c13_2, if_pos c13_4, if_pos c13_6, if_pos c13_8, if_pos c13_10, if_pos c13_12, if_pos c13_14, if_neg c34_16], N0, rfl⟩
              · skip
                refine OutW.back (fun t k => XS.ifNo X0.here hx rfl (hb hby d1_13) rfl ((if0 _ _).trans (feq c13_14).1) k) ?_
                show OutW _ _ _ _ _ _ _ (s₁.setTop (mkF m 16 #[.val (.ref a1), .val (.int (7 : Int32)), .val (.int (6 : Int32))] []))
                refine OutW.back (fun t k => XS.iconst X0.here hx rfl (hb hby d1_16) k) ?_
                show OutW _ _ _ _ _ _ _ (s₁.setTop (mkF m 17 #[.val (.ref a1), .val (.int (7 : Int32)), .val (.int (6 : Int32))] [(.int (0 : Int32))]))
                refine OutW.retN X0 hx (t := .boolean) (z' := (0 : Int32)) Bd.returns (by simp) hlk (hb hby d1_17) ?hz (by decide) (by decide) ?_
                case hz =>
                  rfl
                show Q1_7 Z a1 w0 w1 w2 w3 w4 w5 w6 w7 w8 w9 w10 w11 w12 w13 w14 w15 kk h0 n0 _ s₁.heap _
                rw [e0]
                exact ⟨by rw [negz7, if_pos c13_2, if_pos c13_4, if_pos c13_6, if_pos c13_8, if_pos c13_10, if_pos c13_12, if_neg c13_14], N0, rfl⟩
            · skip
              refine OutW.back (fun t k => XS.ifNo X0.here hx rfl (hb hby d1_13) rfl ((if0 _ _).trans (feq c13_12).1) k) ?_
              show OutW _ _ _ _ _ _ _ (s₁.setTop (mkF m 16 #[.val (.ref a1), .val (.int (7 : Int32)), .val (.int (5 : Int32))] []))
              refine OutW.back (fun t k => XS.iconst X0.here hx rfl (hb hby d1_16) k) ?_
              show OutW _ _ _ _ _ _ _ (s₁.setTop (mkF m 17 #[.val (.ref a1), .val (.int (7 : Int32)), .val (.int (5 : Int32))] [(.int (0 : Int32))]))
              refine OutW.retN X0 hx (t := .boolean) (z' := (0 : Int32)) Bd.returns (by simp) hlk (hb hby d1_17) ?hz (by decide) (by decide) ?_
              case hz =>
                rfl
              show Q1_7 Z a1 w0 w1 w2 w3 w4 w5 w6 w7 w8 w9 w10 w11 w12 w13 w14 w15 kk h0 n0 _ s₁.heap _
              rw [e0]
              exact ⟨by rw [negz7, if_pos c13_2, if_pos c13_4, if_pos c13_6, if_pos c13_8, if_pos c13_10, if_neg c13_12], N0, rfl⟩
          · skip
            refine OutW.back (fun t k => XS.ifNo X0.here hx rfl (hb hby d1_13) rfl ((if0 _ _).trans (feq c13_10).1) k) ?_
            show OutW _ _ _ _ _ _ _ (s₁.setTop (mkF m 16 #[.val (.ref a1), .val (.int (7 : Int32)), .val (.int (4 : Int32))] []))
            refine OutW.back (fun t k => XS.iconst X0.here hx rfl (hb hby d1_16) k) ?_
            show OutW _ _ _ _ _ _ _ (s₁.setTop (mkF m 17 #[.val (.ref a1), .val (.int (7 : Int32)), .val (.int (4 : Int32))] [(.int (0 : Int32))]))
            refine OutW.retN X0 hx (t := .boolean) (z' := (0 : Int32)) Bd.returns (by simp) hlk (hb hby d1_17) ?hz (by decide) (by decide) ?_
            case hz =>
              rfl
            show Q1_7 Z a1 w0 w1 w2 w3 w4 w5 w6 w7 w8 w9 w10 w11 w12 w13 w14 w15 kk h0 n0 _ s₁.heap _
            rw [e0]
            exact ⟨by rw [negz7, if_pos c13_2, if_pos c13_4, if_pos c13_6, if_pos c13_8, if_neg c13_10], N0, rfl⟩
        · skip
          refine OutW.back (fun t k => XS.ifNo X0.here hx rfl (hb hby d1_13) rfl ((if0 _ _).trans (feq c13_8).1) k) ?_
          show OutW _ _ _ _ _ _ _ (s₁.setTop (mkF m 16 #[.val (.ref a1), .val (.int (7 : Int32)), .val (.int (3 : Int32))] []))
          refine OutW.back (fun t k => XS.iconst X0.here hx rfl (hb hby d1_16) k) ?_
          show OutW _ _ _ _ _ _ _ (s₁.setTop (mkF m 17 #[.val (.ref a1), .val (.int (7 : Int32)), .val (.int (3 : Int32))] [(.int (0 : Int32))]))
          refine OutW.retN X0 hx (t := .boolean) (z' := (0 : Int32)) Bd.returns (by simp) hlk (hb hby d1_17) ?hz (by decide) (by decide) ?_
          case hz =>
            rfl
          show Q1_7 Z a1 w0 w1 w2 w3 w4 w5 w6 w7 w8 w9 w10 w11 w12 w13 w14 w15 kk h0 n0 _ s₁.heap _
          rw [e0]
          exact ⟨by rw [negz7, if_pos c13_2, if_pos c13_4, if_pos c13_6, if_neg c13_8], N0, rfl⟩
      · skip
        refine OutW.back (fun t k => XS.ifNo X0.here hx rfl (hb hby d1_13) rfl ((if0 _ _).trans (feq c13_6).1) k) ?_
        show OutW _ _ _ _ _ _ _ (s₁.setTop (mkF m 16 #[.val (.ref a1), .val (.int (7 : Int32)), .val (.int (2 : Int32))] []))
        refine OutW.back (fun t k => XS.iconst X0.here hx rfl (hb hby d1_16) k) ?_
        show OutW _ _ _ _ _ _ _ (s₁.setTop (mkF m 17 #[.val (.ref a1), .val (.int (7 : Int32)), .val (.int (2 : Int32))] [(.int (0 : Int32))]))
        refine OutW.retN X0 hx (t := .boolean) (z' := (0 : Int32)) Bd.returns (by simp) hlk (hb hby d1_17) ?hz (by decide) (by decide) ?_
        case hz =>
          rfl
        show Q1_7 Z a1 w0 w1 w2 w3 w4 w5 w6 w7 w8 w9 w10 w11 w12 w13 w14 w15 kk h0 n0 _ s₁.heap _
        rw [e0]
        exact ⟨by rw [negz7, if_pos c13_2, if_pos c13_4, if_neg c13_6], N0, rfl⟩
    · skip
      refine OutW.back (fun t k => XS.ifNo X0.here hx rfl (hb hby d1_13) rfl ((if0 _ _).trans (feq c13_4).1) k) ?_
      show OutW _ _ _ _ _ _ _ (s₁.setTop (mkF m 16 #[.val (.ref a1), .val (.int (7 : Int32)), .val (.int (1 : Int32))] []))
      refine OutW.back (fun t k => XS.iconst X0.here hx rfl (hb hby d1_16) k) ?_
      show OutW _ _ _ _ _ _ _ (s₁.setTop (mkF m 17 #[.val (.ref a1), .val (.int (7 : Int32)), .val (.int (1 : Int32))] [(.int (0 : Int32))]))
      refine OutW.retN X0 hx (t := .boolean) (z' := (0 : Int32)) Bd.returns (by simp) hlk (hb hby d1_17) ?hz (by decide) (by decide) ?_
      case hz =>
        rfl
      show Q1_7 Z a1 w0 w1 w2 w3 w4 w5 w6 w7 w8 w9 w10 w11 w12 w13 w14 w15 kk h0 n0 _ s₁.heap _
      rw [e0]
      exact ⟨by rw [negz7, if_pos c13_2, if_neg c13_4], N0, rfl⟩
  · skip
    refine OutW.back (fun t k => XS.ifNo X0.here hx rfl (hb hby d1_13) rfl ((if0 _ _).trans (feq c13_2).1) k) ?_
    show OutW _ _ _ _ _ _ _ (s₁.setTop (mkF m 16 #[.val (.ref a1), .val (.int (7 : Int32)), .val (.int (0 : Int32))] []))
    refine OutW.back (fun t k => XS.iconst X0.here hx rfl (hb hby d1_16) k) ?_
    show OutW _ _ _ _ _ _ _ (s₁.setTop (mkF m 17 #[.val (.ref a1), .val (.int (7 : Int32)), .val (.int (0 : Int32))] [(.int (0 : Int32))]))
    refine OutW.retN X0 hx (t := .boolean) (z' := (0 : Int32)) Bd.returns (by simp) hlk (hb hby d1_17) ?hz (by decide) (by decide) ?_
    case hz =>
      rfl
    show Q1_7 Z a1 w0 w1 w2 w3 w4 w5 w6 w7 w8 w9 w10 w11 w12 w13 w14 w15 kk h0 n0 _ s₁.heap _
    rw [e0]
    exact ⟨by rw [negz7, if_neg c13_2], N0, rfl⟩
theorem eqI (a b : Int32) : (a = b) = (a.toInt = b.toInt) := propext Int32.toInt_inj.symm
theorem own_byte (x : Int64) : ((nar .byte x.toInt32.toInt8.toInt32).toInt - x.toInt) % 256 = 0 ∧ -128 ≤ (nar .byte x.toInt32.toInt8.toInt32).toInt ∧ (nar .byte x.toInt32.toInt8.toInt32).toInt < 128 := by
  show ((x.toInt32.toInt8.toInt32).toInt8.toInt32.toInt - x.toInt) % 256 = 0 ∧ -128 ≤ (x.toInt32.toInt8.toInt32).toInt8.toInt32.toInt ∧ (x.toInt32.toInt8.toInt32).toInt8.toInt32.toInt < 128
  have a := c_l2i x
  have b := c_i2b x.toInt32
  have c := c_i2b x.toInt32.toInt8.toInt32
  omega
theorem own_s0 (y D D' : Int) (q : (y - D) % 256 = 0 ∧ -128 ≤ y ∧ y < 128) (e : 0 ≤ D - 256 * D' ∧ D - 256 * D' < 256) : y = 0 ↔ D = 256 * D' := by omega
theorem own_s7 (y D : Int) (q : (y - D) % 256 = 0 ∧ -128 ≤ y ∧ y < 128) (e : 0 ≤ D ∧ D < 256) : y = -128 ↔ D = 128 := by omega
theorem own_fin8 (B D0 D1 D2 D3 D4 D5 D6 D7 : Int) (b1 : -9223372036854775808 ≤ B) (b2 : B < 9223372036854775808) (hB : D0 = B ∨ D0 = B + 18446744073709551616) (d0 : 0 ≤ D0) (e0 : 0 ≤ D0 - 256 * D1 ∧ D0 - 256 * D1 < 256) (e1 : 0 ≤ D1 - 256 * D2 ∧ D1 - 256 * D2 < 256) (e2 : 0 ≤ D2 - 256 * D3 ∧ D2 - 256 * D3 < 256) (e3 : 0 ≤ D3 - 256 * D4 ∧ D3 - 256 * D4 < 256) (e4 : 0 ≤ D4 - 256 * D5 ∧ D4 - 256 * D5 < 256) (e5 : 0 ≤ D5 - 256 * D6 ∧ D5 - 256 * D6 < 256) (e6 : 0 ≤ D6 - 256 * D7 ∧ D6 - 256 * D7 < 256) :
    (D0 = 256 * D1 ∧ D1 = 256 * D2 ∧ D2 = 256 * D3 ∧ D3 = 256 * D4 ∧ D4 = 256 * D5 ∧ D5 = 256 * D6 ∧ D6 = 256 * D7 ∧ D7 = 128) ↔ B = -9223372036854775808 := by
  constructor
  · rintro ⟨h0, h1, h2, h3, h4, h5, h6, h7⟩
    omega
  · intro h
    have f0 : D0 = 9223372036854775808 := by omega
    have f1 : D1 = 36028797018963968 := by omega
    have f2 : D2 = 140737488355328 := by omega
    have f3 : D3 = 549755813888 := by omega
    have f4 : D4 = 2147483648 := by omega
    have f5 : D5 = 8388608 := by omega
    have f6 : D6 = 32768 := by omega
    have f7 : D7 = 128 := by omega
    subst f0 f1 f2 f3 f4 f5 f6 f7
    decide
theorem own_div (U : Int) (K : Int) (hK : 0 < K) : 0 ≤ U / K - 256 * (U / (K * 256)) ∧ U / K - 256 * (U / (K * 256)) < 256 := by
  rw [← Int.ediv_ediv_of_nonneg (by omega)]
  omega
set_option maxHeartbeats 4000000 in
theorem own_neg (b : Int64) : negz0 (nar .byte b.toInt32.toInt8.toInt32) (nar .byte ((b.toUInt64 >>> ((8 : Int32) &&& 0x3f).toInt64.toUInt64).toInt64).toInt32.toInt8.toInt32) (nar .byte ((b.toUInt64 >>> ((16 : Int32) &&& 0x3f).toInt64.toUInt64).toInt64).toInt32.toInt8.toInt32) (nar .byte ((b.toUInt64 >>> ((24 : Int32) &&& 0x3f).toInt64.toUInt64).toInt64).toInt32.toInt8.toInt32) (nar .byte ((b.toUInt64 >>> ((32 : Int32) &&& 0x3f).toInt64.toUInt64).toInt64).toInt32.toInt8.toInt32) (nar .byte ((b.toUInt64 >>> ((40 : Int32) &&& 0x3f).toInt64.toUInt64).toInt64).toInt32.toInt8.toInt32) (nar .byte ((b.toUInt64 >>> ((48 : Int32) &&& 0x3f).toInt64.toUInt64).toInt64).toInt32.toInt8.toInt32) (nar .byte ((b.toUInt64 >>> ((56 : Int32) &&& 0x3f).toInt64.toUInt64).toInt64).toInt32.toInt8.toInt32) = if b = (-9223372036854775808 : Int64) then (1 : Int32) else (0 : Int32) := by
  have q0 := own_byte b
  have q1 := own_byte ((b.toUInt64 >>> ((8 : Int32) &&& 0x3f).toInt64.toUInt64).toInt64)
  rw [c_lushr b (8 : Int32) 8 (by decide) (by decide)] at q1
  have q2 := own_byte ((b.toUInt64 >>> ((16 : Int32) &&& 0x3f).toInt64.toUInt64).toInt64)
  rw [c_lushr b (16 : Int32) 16 (by decide) (by decide)] at q2
  have q3 := own_byte ((b.toUInt64 >>> ((24 : Int32) &&& 0x3f).toInt64.toUInt64).toInt64)
  rw [c_lushr b (24 : Int32) 24 (by decide) (by decide)] at q3
  have q4 := own_byte ((b.toUInt64 >>> ((32 : Int32) &&& 0x3f).toInt64.toUInt64).toInt64)
  rw [c_lushr b (32 : Int32) 32 (by decide) (by decide)] at q4
  have q5 := own_byte ((b.toUInt64 >>> ((40 : Int32) &&& 0x3f).toInt64.toUInt64).toInt64)
  rw [c_lushr b (40 : Int32) 40 (by decide) (by decide)] at q5
  have q6 := own_byte ((b.toUInt64 >>> ((48 : Int32) &&& 0x3f).toInt64.toUInt64).toInt64)
  rw [c_lushr b (48 : Int32) 48 (by decide) (by decide)] at q6
  have q7 := own_byte ((b.toUInt64 >>> ((56 : Int32) &&& 0x3f).toInt64.toUInt64).toInt64)
  rw [c_lushr b (56 : Int32) 56 (by decide) (by decide)] at q7
  obtain ⟨U, hU⟩ : ∃ z : Int, z = b.toInt % 18446744073709551616 := ⟨_, rfl⟩
  have g := rng64 b
  rw [← hU] at q1 q2 q3 q4 q5 q6 q7
  simp only [Nat.reducePow] at q1 q2 q3 q4 q5 q6 q7
  have q0' : ((nar .byte b.toInt32.toInt8.toInt32).toInt - U) % 256 = 0 ∧ -128 ≤ (nar .byte b.toInt32.toInt8.toInt32).toInt ∧ (nar .byte b.toInt32.toInt8.toInt32).toInt < 128 := by omega
  have e0 := own_div U 1 (by decide)
  have e1 := own_div U 256 (by decide)
  have e2 := own_div U 65536 (by decide)
  have e3 := own_div U 16777216 (by decide)
  have e4 := own_div U 4294967296 (by decide)
  have e5 := own_div U 1099511627776 (by decide)
  have e6 := own_div U 281474976710656 (by decide)
  simp only [Int.ediv_one, Int.one_mul, Int.reduceMul] at e0 e1 e2 e3 e4 e5 e6
  have e7 : 0 ≤ U / 72057594037927936 ∧ U / 72057594037927936 < 256 := by omega
  have hB : U = b.toInt ∨ U = b.toInt + 18446744073709551616 := by omega
  have d0 : 0 ≤ U := by omega
  have fin := own_fin8 b.toInt U _ _ _ _ _ _ _ g.1 g.2 hB d0 e0 e1 e2 e3 e4 e5 e6
  have t0 := own_s0 _ U (U / 256) q0' e0
  have t1 := own_s0 _ (U / 256) (U / 65536) q1 e1
  have t2 := own_s0 _ (U / 65536) (U / 16777216) q2 e2
  have t3 := own_s0 _ (U / 16777216) (U / 4294967296) q3 e3
  have t4 := own_s0 _ (U / 4294967296) (U / 1099511627776) q4 e4
  have t5 := own_s0 _ (U / 1099511627776) (U / 281474976710656) q5 e5
  have t6 := own_s0 _ (U / 281474976710656) (U / 72057594037927936) q6 e6
  have t7 := own_s7 _ (U / 72057594037927936) q7 e7
  rw [← t0, ← t1, ← t2, ← t3, ← t4, ← t5, ← t6, ← t7] at fin
  have e : (b = (-9223372036854775808 : Int64)) ↔ (b.toInt = -9223372036854775808) := by
    have z : (-9223372036854775808 : Int64).toInt = -9223372036854775808 := by decide
    rw [← z]; exact Int64.toInt_inj.symm
  have z0 : (0 : Int32).toInt = 0 := by decide
  have z1 : (-128 : Int32).toInt = -128 := by decide
  rw [← e] at fin
  unfold negz0
  simp only [eqI, z0, z1]
  clear q0 q0' q1 q2 q3 q4 q5 q6 q7 e0 e1 e2 e3 e4 e5 e6 e7 t0 t1 t2 t3 t4 t5 t6 t7 hB d0 g hU
  generalize (nar .byte b.toInt32.toInt8.toInt32).toInt = y0 at *
  generalize (nar .byte ((b.toUInt64 >>> ((8 : Int32) &&& 0x3f).toInt64.toUInt64).toInt64).toInt32.toInt8.toInt32).toInt = y1 at *
  generalize (nar .byte ((b.toUInt64 >>> ((16 : Int32) &&& 0x3f).toInt64.toUInt64).toInt64).toInt32.toInt8.toInt32).toInt = y2 at *
  generalize (nar .byte ((b.toUInt64 >>> ((24 : Int32) &&& 0x3f).toInt64.toUInt64).toInt64).toInt32.toInt8.toInt32).toInt = y3 at *
  generalize (nar .byte ((b.toUInt64 >>> ((32 : Int32) &&& 0x3f).toInt64.toUInt64).toInt64).toInt32.toInt8.toInt32).toInt = y4 at *
  generalize (nar .byte ((b.toUInt64 >>> ((40 : Int32) &&& 0x3f).toInt64.toUInt64).toInt64).toInt32.toInt8.toInt32).toInt = y5 at *
  generalize (nar .byte ((b.toUInt64 >>> ((48 : Int32) &&& 0x3f).toInt64.toUInt64).toInt64).toInt32.toInt8.toInt32).toInt = y6 at *
  generalize (nar .byte ((b.toUInt64 >>> ((56 : Int32) &&& 0x3f).toInt64.toUInt64).toInt64).toInt32.toInt8.toInt32).toInt = y7 at *
  by_cases k : b = (-9223372036854775808 : Int64)
  · obtain ⟨h0, h1, h2, h3, h4, h5, h6, h7⟩ := fin.mpr k
    rw [if_pos k, if_pos h0, if_pos h1, if_pos h2, if_pos h3, if_pos h4, if_pos h5, if_pos h6, if_pos h7]
  · rw [if_neg k]
    have nf := fun z => k (fin.mp z)
    repeat' split
    all_goals first | rfl | (exfalso; exact nf ⟨by assumption, by assumption, by assumption, by assumption, by assumption, by assumption, by assumption, by assumption⟩)

theorem own_eight (m v : Int32) (h : (m &&& (7 : Int32)) = v) : v = (0 : Int32) ∨ v = (1 : Int32) ∨ v = (2 : Int32) ∨ v = (3 : Int32) ∨ v = (4 : Int32) ∨ v = (5 : Int32) ∨ v = (6 : Int32) ∨ v = (7 : Int32) := by
  have q := c_and m (7 : Int32) (by decide)
  rw [h] at q
  simp only [← Int32.toInt_inj, Int32.reduceToInt] at q ⊢
  omega
theorem pd_0 : parseMethodDescriptor "([BI)Z" = some ⟨[(.array .byte), .int], some .boolean⟩ := by decide +kernel
theorem pn_0 : plainName "com/example/patchloom/patchloom/delta/SignMagnitudeIsNegativeZeroPinLaw" = true := by first | (simp [plainName, overriddenIn]; done) | decide +kernel
theorem ef_0 (m : MethodId) (x0 : Int64) (x1 : Int32) (x2 : Int32) (x3 : Int32) (x4 : Int32) : entryFrame m #[(.long x0), (.int x1), (.int x2), (.int x3), (.int x4)] maxLocals = mkF m 0 #[.val (.long x0), .second, .val (.int x1), .val (.int x2), .val (.int x3), .val (.int x4), .unset, .unset, .unset, .unset, .unset, .unset, .unset, .unset, .unset, .unset] [] := by first | (simp [entryFrame, mkF, argsToLocals, Value.category, maxLocals]; done) | rfl
def Q0 (Z : State) (q1 : Int64) (p2 : Int32) (p3 : Int32) (p4 : Int32) (p5 : Int32)  (h0 : Heap) (n0 : Nat) (v : Option Value) (h : Heap) (L : List Loc) : Prop := v = some (.int 1) ∧ Fr n0 L
set_option maxRecDepth 65536 in
set_option maxHeartbeats 40000000 in
theorem rm0 (l : Launch) (Z : State) (a0 : Array Value) (hw : ∀ d ∈ tables_1, d.before a0 Z = true) (ws : List Jvm.Cond) (q1 : Int64) (p2 : Int32) (p3 : Int32) (p4 : Int32) (p5 : Int32)  (h0 : Heap) (n0 : Nat) (Z0 : n0 ≤ h0.size) :
    MetFree l x (head1 (Jvm.Cond.code x code maxLocals ret :: ws) room_1) (fun a U => a = #[(.long q1), (.int p2), (.int p3), (.int p4), (.int p5)] ∧ Z.Warmed39 U.vm ∧ U.heap = h0) (fun _ _ _ _ _ => True) (fun _ U o U' => ∃ v L, o = .returned v ∧ Q0 Z q1 p2 p3 p4 p5 h0 n0 v U'.heap L ∧ FrameEnd U o U' L room_1.cells room_1.slots) := by
  refine MetFree.of_bodySF (plainFor_of_name pn_0) hisR ?_
  intro p e s m args below meth c s₁ Bd hml0 hP hK
  obtain ⟨rfl, hZ, hh⟩ := hP
  have hx := Bd.exec
  have hby := Bd.bytes
  have hlk := Bd.notSynchronized
  have hml : c.maxLocals = 16 := hml0
  have hown : s.vm.findClass "com/example/patchloom/patchloom/delta/SignMagnitudeIsNegativeZeroPinLaw" = some m.cls := findClass_of_methodNamed Bd.named
  have hnm := (name_of_methodNamed Bd.named Bd.method).1
  have X0 : Stand p l e room_1 s m #[(.long q1), (.int p2), (.int p3), (.int p4), (.int p5)] below meth c s₁ [] 0 0 := Stand.of_body Bd
  have e0 : s₁.heap = h0 := by rw [← hh, Bd.state]; rfl
  have N0 := Fr.nil n0
  have K0 : Keep h0 h0 [] := Keep.refl h0 _
  show OutW p e below s room_1.cells room_1.slots (Q0 Z q1 p2 p3 p4 p5 h0 n0) _
  refine OutW.back (fun t k => castTop (ef_0 m q1 p2 p3 p4 p5) k) ?_
  show OutW _ _ _ _ _ _ _ (s₁.setTop (mkF m 0 #[.val (.long q1), .second, .val (.int p2), .val (.int p3), .val (.int p4), .val (.int p5), .unset, .unset, .unset, .unset, .unset, .unset, .unset, .unset, .unset, .unset] []))
  refine OutW.back (fun t k => XS.iloadN X0.here hx rfl (hb hby at_0) rfl  k) ?_
  show OutW _ _ _ _ _ _ _ (s₁.setTop (mkF m 1 #[.val (.long q1), .second, .val (.int p2), .val (.int p3), .val (.int p4), .val (.int p5), .unset, .unset, .unset, .unset, .unset, .unset, .unset, .unset, .unset, .unset] [(.int p3)]))
  refine OutW.back (fun t k => XS.iconst X0.here hx rfl (hb hby at_1) k) ?_
  show OutW _ _ _ _ _ _ _ (s₁.setTop (mkF m 2 #[.val (.long q1), .second, .val (.int p2), .val (.int p3), .val (.int p4), .val (.int p5), .unset, .unset, .unset, .unset, .unset, .unset, .unset, .unset, .unset, .unset] [(.int (3 : Int32)), (.int p3)]))
  refine OutW.back (fun t k => XS.iand X0.here hx rfl (hb hby at_2) rfl k) ?_
  show OutW _ _ _ _ _ _ _ (s₁.setTop (mkF m 3 #[.val (.long q1), .second, .val (.int p2), .val (.int p3), .val (.int p4), .val (.int p5), .unset, .unset, .unset, .unset, .unset, .unset, .unset, .unset, .unset, .unset] [(.int (p3 &&& (3 : Int32)))]))
  generalize hv_v1 : (p3 &&& (3 : Int32)) = v1
  refine OutW.back (fun t k => XS.istore X0.here hx rfl (hb hby at_3) rfl (l' := #[.val (.long q1), .second, .val (.int p2), .val (.int p3), .val (.int p4), .val (.int p5), .val (.int v1), .unset, .unset, .unset, .unset, .unset, .unset, .unset, .unset, .unset]) rfl k) ?_
  show OutW _ _ _ _ _ _ _ (s₁.setTop (mkF m 5 #[.val (.long q1), .second, .val (.int p2), .val (.int p3), .val (.int p4), .val (.int p5), .val (.int v1), .unset, .unset, .unset, .unset, .unset, .unset, .unset, .unset, .unset] []))
  refine OutW.back (fun t k => XS.iloadN X0.here hx rfl (hb hby at_5) rfl  k) ?_
  show OutW _ _ _ _ _ _ _ (s₁.setTop (mkF m 6 #[.val (.long q1), .second, .val (.int p2), .val (.int p3), .val (.int p4), .val (.int p5), .val (.int v1), .unset, .unset, .unset, .unset, .unset, .unset, .unset, .unset, .unset] [(.int p2)]))
  refine OutW.back (fun t k => XS.bipush X0.here hx rfl (hb hby at_6) k) ?_
  show OutW _ _ _ _ _ _ _ (s₁.setTop (mkF m 8 #[.val (.long q1), .second, .val (.int p2), .val (.int p3), .val (.int p4), .val (.int p5), .val (.int v1), .unset, .unset, .unset, .unset, .unset, .unset, .unset, .unset, .unset] [(.int (63 : Int32)), (.int p2)]))
  refine OutW.back (fun t k => XS.iand X0.here hx rfl (hb hby at_8) rfl k) ?_
  show OutW _ _ _ _ _ _ _ (s₁.setTop (mkF m 9 #[.val (.long q1), .second, .val (.int p2), .val (.int p3), .val (.int p4), .val (.int p5), .val (.int v1), .unset, .unset, .unset, .unset, .unset, .unset, .unset, .unset, .unset] [(.int (p2 &&& (63 : Int32)))]))
  generalize hv_v2 : (p2 &&& (63 : Int32)) = v2
  refine OutW.back (fun t k => XS.istore X0.here hx rfl (hb hby at_9) rfl (l' := #[.val (.long q1), .second, .val (.int p2), .val (.int p3), .val (.int p4), .val (.int p5), .val (.int v1), .val (.int v2), .unset, .unset, .unset, .unset, .unset, .unset, .unset, .unset]) rfl k) ?_
  show OutW _ _ _ _ _ _ _ (s₁.setTop (mkF m 11 #[.val (.long q1), .second, .val (.int p2), .val (.int p3), .val (.int p4), .val (.int p5), .val (.int v1), .val (.int v2), .unset, .unset, .unset, .unset, .unset, .unset, .unset, .unset] []))
  refine OutW.back (X0.ldc2Long hx hown (mvT hZ (hw _ (List.mem_of_getElem? (i := 0) rfl))) (g := (mkF m 11 #[.val (.long q1), .second, .val (.int p2), .val (.int p3), .val (.int p4), .val (.int p5), .val (.int v1), .val (.int v2), .unset, .unset, .unset, .unset, .unset, .unset, .unset, .unset] [])) rfl (hb hby at_11)) ?_
  show OutW _ _ _ _ _ _ _ (s₁.setTop (mkF m 14 #[.val (.long q1), .second, .val (.int p2), .val (.int p3), .val (.int p4), .val (.int p5), .val (.int v1), .val (.int v2), .unset, .unset, .unset, .unset, .unset, .unset, .unset, .unset] [(.long (255 : Int64))]))
  refine OutW.back (fun t k => XS.iloadN X0.here hx rfl (hb hby at_14) rfl  k) ?_
  show OutW _ _ _ _ _ _ _ (s₁.setTop (mkF m 15 #[.val (.long q1), .second, .val (.int p2), .val (.int p3), .val (.int p4), .val (.int p5), .val (.int v1), .val (.int v2), .unset, .unset, .unset, .unset, .unset, .unset, .unset, .unset] [(.int p2), (.long (255 : Int64))]))
  refine OutW.back (fun t k => XS.bipush X0.here hx rfl (hb hby at_15) k) ?_
  show OutW _ _ _ _ _ _ _ (s₁.setTop (mkF m 17 #[.val (.long q1), .second, .val (.int p2), .val (.int p3), .val (.int p4), .val (.int p5), .val (.int v1), .val (.int v2), .unset, .unset, .unset, .unset, .unset, .unset, .unset, .unset] [(.int (7 : Int32)), (.int p2), (.long (255 : Int64))]))
  refine OutW.back (fun t k => XS.iand X0.here hx rfl (hb hby at_17) rfl k) ?_
  show OutW _ _ _ _ _ _ _ (s₁.setTop (mkF m 18 #[.val (.long q1), .second, .val (.int p2), .val (.int p3), .val (.int p4), .val (.int p5), .val (.int v1), .val (.int v2), .unset, .unset, .unset, .unset, .unset, .unset, .unset, .unset] [(.int (p2 &&& (7 : Int32))), (.long (255 : Int64))]))
  refine OutW.back (fun t k => XS.bipush X0.here hx rfl (hb hby at_18) k) ?_
  show OutW _ _ _ _ _ _ _ (s₁.setTop (mkF m 20 #[.val (.long q1), .second, .val (.int p2), .val (.int p3), .val (.int p4), .val (.int p5), .val (.int v1), .val (.int v2), .unset, .unset, .unset, .unset, .unset, .unset, .unset, .unset] [(.int (8 : Int32)), (.int (p2 &&& (7 : Int32))), (.long (255 : Int64))]))
  refine OutW.back (fun t k => XS.imul X0.here hx rfl (hb hby at_20) rfl k) ?_
  show OutW _ _ _ _ _ _ _ (s₁.setTop (mkF m 21 #[.val (.long q1), .second, .val (.int p2), .val (.int p3), .val (.int p4), .val (.int p5), .val (.int v1), .val (.int v2), .unset, .unset, .unset, .unset, .unset, .unset, .unset, .unset] [(.int ((p2 &&& (7 : Int32)) * (8 : Int32))), (.long (255 : Int64))]))
  refine OutW.back (fun t k => XS.lshl X0.here hx rfl (hb hby at_21) rfl k) ?_
  show OutW _ _ _ _ _ _ _ (s₁.setTop (mkF m 22 #[.val (.long q1), .second, .val (.int p2), .val (.int p3), .val (.int p4), .val (.int p5), .val (.int v1), .val (.int v2), .unset, .unset, .unset, .unset, .unset, .unset, .unset, .unset] [(.long ((255 : Int64) <<< (((p2 &&& (7 : Int32)) * (8 : Int32)) &&& 0x3f).toInt64))]))
  generalize hv_v3 : ((255 : Int64) <<< (((p2 &&& (7 : Int32)) * (8 : Int32)) &&& 0x3f).toInt64) = v3
  refine OutW.back (fun t k => XS.lstore X0.here hx rfl (hb hby at_22) rfl (l' := #[.val (.long q1), .second, .val (.int p2), .val (.int p3), .val (.int p4), .val (.int p5), .val (.int v1), .val (.int v2), .val (.long v3), .second, .unset, .unset, .unset, .unset, .unset, .unset]) rfl k) ?_
  show OutW _ _ _ _ _ _ _ (s₁.setTop (mkF m 24 #[.val (.long q1), .second, .val (.int p2), .val (.int p3), .val (.int p4), .val (.int p5), .val (.int v1), .val (.int v2), .val (.long v3), .second, .unset, .unset, .unset, .unset, .unset, .unset] []))
  refine OutW.back (fun t k => XS.iload X0.here hx rfl (hb hby at_24) rfl  k) ?_
  show OutW _ _ _ _ _ _ _ (s₁.setTop (mkF m 26 #[.val (.long q1), .second, .val (.int p2), .val (.int p3), .val (.int p4), .val (.int p5), .val (.int v1), .val (.int v2), .val (.long v3), .second, .unset, .unset, .unset, .unset, .unset, .unset] [(.int v1)]))
  obtain ⟨v7, hv_v7⟩ : ∃ z : Int64, z = (if v1 = (0 : Int32) then q1 else (if v1 = (1 : Int32) then ((-9223372036854775808 : Int64) ^^^ (q1 &&& v3)) else (if v1 = (2 : Int32) then (q1 &&& v3) else ((-9223372036854775808 : Int64) ^^^ (q1 &&& ((1 : Int64) <<< (v2 &&& 0x3f).toInt64)))))) := ⟨_, rfl⟩
  have j8 : ∀ t, Steps p.tables e below (s₁.setTop (mkF m 81 #[.val (.long q1), .second, .val (.int p2), .val (.int p3), .val (.int p4), .val (.int p5), .val (.int v1), .val (.int v2), .val (.long v3), .second, .val (.long v7), .second, .unset, .unset, .unset, .unset] [])) t → Steps p.tables e below (s₁.setTop (mkF m 26 #[.val (.long q1), .second, .val (.int p2), .val (.int p3), .val (.int p4), .val (.int p5), .val (.int v1), .val (.int v2), .val (.long v3), .second, .unset, .unset, .unset, .unset, .unset, .unset] [(.int v1)])) t := by
    intro t k
    by_cases c26_9 : v1 = (0 : Int32)
    · skip
      refine XS.ifNo X0.here hx rfl (hb hby at_26) rfl ((if0 _ _).trans (teq c26_9).2) ?_
      show Steps p.tables e below (s₁.setTop (mkF m 29 #[.val (.long q1), .second, .val (.int p2), .val (.int p3), .val (.int p4), .val (.int p5), .val (.int v1), .val (.int v2), .val (.long v3), .second, .unset, .unset, .unset, .unset, .unset, .unset] [])) t
      refine XS.lloadN X0.here hx rfl (hb hby at_29) rfl  ?_
      show Steps p.tables e below (s₁.setTop (mkF m 30 #[.val (.long q1), .second, .val (.int p2), .val (.int p3), .val (.int p4), .val (.int p5), .val (.int v1), .val (.int v2), .val (.long v3), .second, .unset, .unset, .unset, .unset, .unset, .unset] [(.long q1)])) t
      refine XS.lstore X0.here hx rfl (hb hby at_30) rfl (l' := #[.val (.long q1), .second, .val (.int p2), .val (.int p3), .val (.int p4), .val (.int p5), .val (.int v1), .val (.int v2), .val (.long v3), .second, .val (.long q1), .second, .unset, .unset, .unset, .unset]) rfl ?_
      show Steps p.tables e below (s₁.setTop (mkF m 32 #[.val (.long q1), .second, .val (.int p2), .val (.int p3), .val (.int p4), .val (.int p5), .val (.int v1), .val (.int v2), .val (.long v3), .second, .val (.long q1), .second, .unset, .unset, .unset, .unset] [])) t
      refine XS.goto X0.here hx rfl (pc0 := 32) (pc' := 81) rfl (hb hby at_32) (by decide) (by decide) ?_
      show Steps p.tables e below (s₁.setTop (mkF m 81 #[.val (.long q1), .second, .val (.int p2), .val (.int p3), .val (.int p4), .val (.int p5), .val (.int v1), .val (.int v2), .val (.long v3), .second, .val (.long q1), .second, .unset, .unset, .unset, .unset] [])) t
      have q_v7 : v7 = q1 := by rw [hv_v7, if_pos c26_9]
      rw [q_v7] at k
      exact k
    · skip
      refine XS.ifYes X0.here hx rfl (pc0 := 26) (pc' := 35) rfl (hb hby at_26) rfl ((if0 _ _).trans (feq c26_9).2) (by decide) (by decide) ?_
      show Steps p.tables e below (s₁.setTop (mkF m 35 #[.val (.long q1), .second, .val (.int p2), .val (.int p3), .val (.int p4), .val (.int p5), .val (.int v1), .val (.int v2), .val (.long v3), .second, .unset, .unset, .unset, .unset, .unset, .unset] [])) t
      refine XS.iload X0.here hx rfl (hb hby at_35) rfl  ?_
      show Steps p.tables e below (s₁.setTop (mkF m 37 #[.val (.long q1), .second, .val (.int p2), .val (.int p3), .val (.int p4), .val (.int p5), .val (.int v1), .val (.int v2), .val (.long v3), .second, .unset, .unset, .unset, .unset, .unset, .unset] [(.int v1)])) t
      refine XS.iconst X0.here hx rfl (hb hby at_37) ?_
      show Steps p.tables e below (s₁.setTop (mkF m 38 #[.val (.long q1), .second, .val (.int p2), .val (.int p3), .val (.int p4), .val (.int p5), .val (.int v1), .val (.int v2), .val (.long v3), .second, .unset, .unset, .unset, .unset, .unset, .unset] [(.int (1 : Int32)), (.int v1)])) t
      by_cases c38_10 : v1 = (1 : Int32)
      · skip
        refine XS.icmpNo X0.here hx rfl (hb hby at_38) rfl (teq c38_10).2 ?_
        show Steps p.tables e below (s₁.setTop (mkF m 41 #[.val (.long q1), .second, .val (.int p2), .val (.int p3), .val (.int p4), .val (.int p5), .val (.int v1), .val (.int v2), .val (.long v3), .second, .unset, .unset, .unset, .unset, .unset, .unset] [])) t
        refine X0.ldc2Long hx hown (mvT hZ (hw _ (List.mem_of_getElem? (i := 1) rfl))) (g := (mkF m 41 #[.val (.long q1), .second, .val (.int p2), .val (.int p3), .val (.int p4), .val (.int p5), .val (.int v1), .val (.int v2), .val (.long v3), .second, .unset, .unset, .unset, .unset, .unset, .unset] [])) rfl (hb hby at_41) _ ?_
        show Steps p.tables e below (s₁.setTop (mkF m 44 #[.val (.long q1), .second, .val (.int p2), .val (.int p3), .val (.int p4), .val (.int p5), .val (.int v1), .val (.int v2), .val (.long v3), .second, .unset, .unset, .unset, .unset, .unset, .unset] [(.long (-9223372036854775808 : Int64))])) t
        refine XS.lloadN X0.here hx rfl (hb hby at_44) rfl  ?_
        show Steps p.tables e below (s₁.setTop (mkF m 45 #[.val (.long q1), .second, .val (.int p2), .val (.int p3), .val (.int p4), .val (.int p5), .val (.int v1), .val (.int v2), .val (.long v3), .second, .unset, .unset, .unset, .unset, .unset, .unset] [(.long q1), (.long (-9223372036854775808 : Int64))])) t
        refine XS.lload X0.here hx rfl (hb hby at_45) rfl  ?_
        show Steps p.tables e below (s₁.setTop (mkF m 47 #[.val (.long q1), .second, .val (.int p2), .val (.int p3), .val (.int p4), .val (.int p5), .val (.int v1), .val (.int v2), .val (.long v3), .second, .unset, .unset, .unset, .unset, .unset, .unset] [(.long v3), (.long q1), (.long (-9223372036854775808 : Int64))])) t
        refine XS.land X0.here hx rfl (hb hby at_47) rfl ?_
        show Steps p.tables e below (s₁.setTop (mkF m 48 #[.val (.long q1), .second, .val (.int p2), .val (.int p3), .val (.int p4), .val (.int p5), .val (.int v1), .val (.int v2), .val (.long v3), .second, .unset, .unset, .unset, .unset, .unset, .unset] [(.long (q1 &&& v3)), (.long (-9223372036854775808 : Int64))])) t
        refine XS.lxor X0.here hx rfl (hb hby at_48) rfl ?_
        show Steps p.tables e below (s₁.setTop (mkF m 49 #[.val (.long q1), .second, .val (.int p2), .val (.int p3), .val (.int p4), .val (.int p5), .val (.int v1), .val (.int v2), .val (.long v3), .second, .unset, .unset, .unset, .unset, .unset, .unset] [(.long ((-9223372036854775808 : Int64) ^^^ (q1 &&& v3)))])) t
        refine XS.lstore X0.here hx rfl (hb hby at_49) rfl (l' := #[.val (.long q1), .second, .val (.int p2), .val (.int p3), .val (.int p4), .val (.int p5), .val (.int v1), .val (.int v2), .val (.long v3), .second, .val (.long ((-9223372036854775808 : Int64) ^^^ (q1 &&& v3))), .second, .unset, .unset, .unset, .unset]) rfl ?_
        show Steps p.tables e below (s₁.setTop (mkF m 51 #[.val (.long q1), .second, .val (.int p2), .val (.int p3), .val (.int p4), .val (.int p5), .val (.int v1), .val (.int v2), .val (.long v3), .second, .val (.long ((-9223372036854775808 : Int64) ^^^ (q1 &&& v3))), .second, .unset, .unset, .unset, .unset] [])) t
        refine XS.goto X0.here hx rfl (pc0 := 51) (pc' := 81) rfl (hb hby at_51) (by decide) (by decide) ?_
        show Steps p.tables e below (s₁.setTop (mkF m 81 #[.val (.long q1), .second, .val (.int p2), .val (.int p3), .val (.int p4), .val (.int p5), .val (.int v1), .val (.int v2), .val (.long v3), .second, .val (.long ((-9223372036854775808 : Int64) ^^^ (q1 &&& v3))), .second, .unset, .unset, .unset, .unset] [])) t
        have q_v7 : v7 = ((-9223372036854775808 : Int64) ^^^ (q1 &&& v3)) := by rw [hv_v7, if_neg c26_9, if_pos c38_10]
        rw [q_v7] at k
        exact k
      · skip
        refine XS.icmpYes X0.here hx rfl (pc0 := 38) (pc' := 54) rfl (hb hby at_38) rfl (feq c38_10).2 (by decide) (by decide) ?_
        show Steps p.tables e below (s₁.setTop (mkF m 54 #[.val (.long q1), .second, .val (.int p2), .val (.int p3), .val (.int p4), .val (.int p5), .val (.int v1), .val (.int v2), .val (.long v3), .second, .unset, .unset, .unset, .unset, .unset, .unset] [])) t
        refine XS.iload X0.here hx rfl (hb hby at_54) rfl  ?_
        show Steps p.tables e below (s₁.setTop (mkF m 56 #[.val (.long q1), .second, .val (.int p2), .val (.int p3), .val (.int p4), .val (.int p5), .val (.int v1), .val (.int v2), .val (.long v3), .second, .unset, .unset, .unset, .unset, .unset, .unset] [(.int v1)])) t
        refine XS.iconst X0.here hx rfl (hb hby at_56) ?_
        show Steps p.tables e below (s₁.setTop (mkF m 57 #[.val (.long q1), .second, .val (.int p2), .val (.int p3), .val (.int p4), .val (.int p5), .val (.int v1), .val (.int v2), .val (.long v3), .second, .unset, .unset, .unset, .unset, .unset, .unset] [(.int (2 : Int32)), (.int v1)])) t
        by_cases c57_11 : v1 = (2 : Int32)
        · skip
          refine XS.icmpNo X0.here hx rfl (hb hby at_57) rfl (teq c57_11).2 ?_
          show Steps p.tables e below (s₁.setTop (mkF m 60 #[.val (.long q1), .second, .val (.int p2), .val (.int p3), .val (.int p4), .val (.int p5), .val (.int v1), .val (.int v2), .val (.long v3), .second, .unset, .unset, .unset, .unset, .unset, .unset] [])) t
          refine XS.lloadN X0.here hx rfl (hb hby at_60) rfl  ?_
          show Steps p.tables e below (s₁.setTop (mkF m 61 #[.val (.long q1), .second, .val (.int p2), .val (.int p3), .val (.int p4), .val (.int p5), .val (.int v1), .val (.int v2), .val (.long v3), .second, .unset, .unset, .unset, .unset, .unset, .unset] [(.long q1)])) t
          refine XS.lload X0.here hx rfl (hb hby at_61) rfl  ?_
          show Steps p.tables e below (s₁.setTop (mkF m 63 #[.val (.long q1), .second, .val (.int p2), .val (.int p3), .val (.int p4), .val (.int p5), .val (.int v1), .val (.int v2), .val (.long v3), .second, .unset, .unset, .unset, .unset, .unset, .unset] [(.long v3), (.long q1)])) t
          refine XS.land X0.here hx rfl (hb hby at_63) rfl ?_
          show Steps p.tables e below (s₁.setTop (mkF m 64 #[.val (.long q1), .second, .val (.int p2), .val (.int p3), .val (.int p4), .val (.int p5), .val (.int v1), .val (.int v2), .val (.long v3), .second, .unset, .unset, .unset, .unset, .unset, .unset] [(.long (q1 &&& v3))])) t
          refine XS.lstore X0.here hx rfl (hb hby at_64) rfl (l' := #[.val (.long q1), .second, .val (.int p2), .val (.int p3), .val (.int p4), .val (.int p5), .val (.int v1), .val (.int v2), .val (.long v3), .second, .val (.long (q1 &&& v3)), .second, .unset, .unset, .unset, .unset]) rfl ?_
          show Steps p.tables e below (s₁.setTop (mkF m 66 #[.val (.long q1), .second, .val (.int p2), .val (.int p3), .val (.int p4), .val (.int p5), .val (.int v1), .val (.int v2), .val (.long v3), .second, .val (.long (q1 &&& v3)), .second, .unset, .unset, .unset, .unset] [])) t
          refine XS.goto X0.here hx rfl (pc0 := 66) (pc' := 81) rfl (hb hby at_66) (by decide) (by decide) ?_
          show Steps p.tables e below (s₁.setTop (mkF m 81 #[.val (.long q1), .second, .val (.int p2), .val (.int p3), .val (.int p4), .val (.int p5), .val (.int v1), .val (.int v2), .val (.long v3), .second, .val (.long (q1 &&& v3)), .second, .unset, .unset, .unset, .unset] [])) t
          have q_v7 : v7 = (q1 &&& v3) := by rw [hv_v7, if_neg c26_9, if_neg c38_10, if_pos c57_11]
          rw [q_v7] at k
          exact k
        · skip
          refine XS.icmpYes X0.here hx rfl (pc0 := 57) (pc' := 69) rfl (hb hby at_57) rfl (feq c57_11).2 (by decide) (by decide) ?_
          show Steps p.tables e below (s₁.setTop (mkF m 69 #[.val (.long q1), .second, .val (.int p2), .val (.int p3), .val (.int p4), .val (.int p5), .val (.int v1), .val (.int v2), .val (.long v3), .second, .unset, .unset, .unset, .unset, .unset, .unset] [])) t
          refine X0.ldc2Long hx hown (mvT hZ (hw _ (List.mem_of_getElem? (i := 1) rfl))) (g := (mkF m 69 #[.val (.long q1), .second, .val (.int p2), .val (.int p3), .val (.int p4), .val (.int p5), .val (.int v1), .val (.int v2), .val (.long v3), .second, .unset, .unset, .unset, .unset, .unset, .unset] [])) rfl (hb hby at_69) _ ?_
          show Steps p.tables e below (s₁.setTop (mkF m 72 #[.val (.long q1), .second, .val (.int p2), .val (.int p3), .val (.int p4), .val (.int p5), .val (.int v1), .val (.int v2), .val (.long v3), .second, .unset, .unset, .unset, .unset, .unset, .unset] [(.long (-9223372036854775808 : Int64))])) t
          refine XS.lloadN X0.here hx rfl (hb hby at_72) rfl  ?_
          show Steps p.tables e below (s₁.setTop (mkF m 73 #[.val (.long q1), .second, .val (.int p2), .val (.int p3), .val (.int p4), .val (.int p5), .val (.int v1), .val (.int v2), .val (.long v3), .second, .unset, .unset, .unset, .unset, .unset, .unset] [(.long q1), (.long (-9223372036854775808 : Int64))])) t
          refine XS.lconst X0.here hx rfl (hb hby at_73) ?_
          show Steps p.tables e below (s₁.setTop (mkF m 74 #[.val (.long q1), .second, .val (.int p2), .val (.int p3), .val (.int p4), .val (.int p5), .val (.int v1), .val (.int v2), .val (.long v3), .second, .unset, .unset, .unset, .unset, .unset, .unset] [(.long (1 : Int64)), (.long q1), (.long (-9223372036854775808 : Int64))])) t
          refine XS.iload X0.here hx rfl (hb hby at_74) rfl  ?_
          show Steps p.tables e below (s₁.setTop (mkF m 76 #[.val (.long q1), .second, .val (.int p2), .val (.int p3), .val (.int p4), .val (.int p5), .val (.int v1), .val (.int v2), .val (.long v3), .second, .unset, .unset, .unset, .unset, .unset, .unset] [(.int v2), (.long (1 : Int64)), (.long q1), (.long (-9223372036854775808 : Int64))])) t
          refine XS.lshl X0.here hx rfl (hb hby at_76) rfl ?_
          show Steps p.tables e below (s₁.setTop (mkF m 77 #[.val (.long q1), .second, .val (.int p2), .val (.int p3), .val (.int p4), .val (.int p5), .val (.int v1), .val (.int v2), .val (.long v3), .second, .unset, .unset, .unset, .unset, .unset, .unset] [(.long ((1 : Int64) <<< (v2 &&& 0x3f).toInt64)), (.long q1), (.long (-9223372036854775808 : Int64))])) t
          refine XS.land X0.here hx rfl (hb hby at_77) rfl ?_
          show Steps p.tables e below (s₁.setTop (mkF m 78 #[.val (.long q1), .second, .val (.int p2), .val (.int p3), .val (.int p4), .val (.int p5), .val (.int v1), .val (.int v2), .val (.long v3), .second, .unset, .unset, .unset, .unset, .unset, .unset] [(.long (q1 &&& ((1 : Int64) <<< (v2 &&& 0x3f).toInt64))), (.long (-9223372036854775808 : Int64))])) t
          refine XS.lxor X0.here hx rfl (hb hby at_78) rfl ?_
          show Steps p.tables e below (s₁.setTop (mkF m 79 #[.val (.long q1), .second, .val (.int p2), .val (.int p3), .val (.int p4), .val (.int p5), .val (.int v1), .val (.int v2), .val (.long v3), .second, .unset, .unset, .unset, .unset, .unset, .unset] [(.long ((-9223372036854775808 : Int64) ^^^ (q1 &&& ((1 : Int64) <<< (v2 &&& 0x3f).toInt64))))])) t
          refine XS.lstore X0.here hx rfl (hb hby at_79) rfl (l' := #[.val (.long q1), .second, .val (.int p2), .val (.int p3), .val (.int p4), .val (.int p5), .val (.int v1), .val (.int v2), .val (.long v3), .second, .val (.long ((-9223372036854775808 : Int64) ^^^ (q1 &&& ((1 : Int64) <<< (v2 &&& 0x3f).toInt64)))), .second, .unset, .unset, .unset, .unset]) rfl ?_
          show Steps p.tables e below (s₁.setTop (mkF m 81 #[.val (.long q1), .second, .val (.int p2), .val (.int p3), .val (.int p4), .val (.int p5), .val (.int v1), .val (.int v2), .val (.long v3), .second, .val (.long ((-9223372036854775808 : Int64) ^^^ (q1 &&& ((1 : Int64) <<< (v2 &&& 0x3f).toInt64)))), .second, .unset, .unset, .unset, .unset] [])) t
          have q_v7 : v7 = ((-9223372036854775808 : Int64) ^^^ (q1 &&& ((1 : Int64) <<< (v2 &&& 0x3f).toInt64))) := by rw [hv_v7, if_neg c26_9, if_neg c38_10, if_neg c57_11]
          rw [q_v7] at k
          exact k
  refine OutW.back j8 ?_
  show OutW _ _ _ _ _ _ _ (s₁.setTop (mkF m 81 #[.val (.long q1), .second, .val (.int p2), .val (.int p3), .val (.int p4), .val (.int p5), .val (.int v1), .val (.int v2), .val (.long v3), .second, .val (.long v7), .second, .unset, .unset, .unset, .unset] []))
  refine OutW.back (fun t k => XS.iload X0.here hx rfl (hb hby at_81) rfl  k) ?_
  show OutW _ _ _ _ _ _ _ (s₁.setTop (mkF m 83 #[.val (.long q1), .second, .val (.int p2), .val (.int p3), .val (.int p4), .val (.int p5), .val (.int v1), .val (.int v2), .val (.long v3), .second, .val (.long v7), .second, .unset, .unset, .unset, .unset] [(.int p4)]))
  refine OutW.back (fun t k => XS.bipush X0.here hx rfl (hb hby at_83) k) ?_
  show OutW _ _ _ _ _ _ _ (s₁.setTop (mkF m 85 #[.val (.long q1), .second, .val (.int p2), .val (.int p3), .val (.int p4), .val (.int p5), .val (.int v1), .val (.int v2), .val (.long v3), .second, .val (.long v7), .second, .unset, .unset, .unset, .unset] [(.int (7 : Int32)), (.int p4)]))
  refine OutW.back (fun t k => XS.iand X0.here hx rfl (hb hby at_85) rfl k) ?_
  show OutW _ _ _ _ _ _ _ (s₁.setTop (mkF m 86 #[.val (.long q1), .second, .val (.int p2), .val (.int p3), .val (.int p4), .val (.int p5), .val (.int v1), .val (.int v2), .val (.long v3), .second, .val (.long v7), .second, .unset, .unset, .unset, .unset] [(.int (p4 &&& (7 : Int32)))]))
  generalize hv_v12 : (p4 &&& (7 : Int32)) = v12
  refine OutW.back (fun t k => XS.istore X0.here hx rfl (hb hby at_86) rfl (l' := #[.val (.long q1), .second, .val (.int p2), .val (.int p3), .val (.int p4), .val (.int p5), .val (.int v1), .val (.int v2), .val (.long v3), .second, .val (.long v7), .second, .val (.int v12), .unset, .unset, .unset]) rfl k) ?_
  show OutW _ _ _ _ _ _ _ (s₁.setTop (mkF m 88 #[.val (.long q1), .second, .val (.int p2), .val (.int p3), .val (.int p4), .val (.int p5), .val (.int v1), .val (.int v2), .val (.long v3), .second, .val (.long v7), .second, .val (.int v12), .unset, .unset, .unset] []))
  refine OutW.back (fun t k => XS.iload X0.here hx rfl (hb hby at_88) rfl  k) ?_
  show OutW _ _ _ _ _ _ _ (s₁.setTop (mkF m 90 #[.val (.long q1), .second, .val (.int p2), .val (.int p3), .val (.int p4), .val (.int p5), .val (.int v1), .val (.int v2), .val (.long v3), .second, .val (.long v7), .second, .val (.int v12), .unset, .unset, .unset] [(.int p5)]))
  refine OutW.back (fun t k => XS.i2b X0.here hx rfl (hb hby at_90) rfl k) ?_
  show OutW _ _ _ _ _ _ _ (s₁.setTop (mkF m 91 #[.val (.long q1), .second, .val (.int p2), .val (.int p3), .val (.int p4), .val (.int p5), .val (.int v1), .val (.int v2), .val (.long v3), .second, .val (.long v7), .second, .val (.int v12), .unset, .unset, .unset] [(.int p5.toInt8.toInt32)]))
  generalize hv_v13 : p5.toInt8.toInt32 = v13
  refine OutW.back (fun t k => XS.istore X0.here hx rfl (hb hby at_91) rfl (l' := #[.val (.long q1), .second, .val (.int p2), .val (.int p3), .val (.int p4), .val (.int p5), .val (.int v1), .val (.int v2), .val (.long v3), .second, .val (.long v7), .second, .val (.int v12), .val (.int v13), .unset, .unset]) rfl k) ?_
  show OutW _ _ _ _ _ _ _ (s₁.setTop (mkF m 93 #[.val (.long q1), .second, .val (.int p2), .val (.int p3), .val (.int p4), .val (.int p5), .val (.int v1), .val (.int v2), .val (.long v3), .second, .val (.long v7), .second, .val (.int v12), .val (.int v13), .unset, .unset] []))
  refine OutW.back (fun t k => XS.bipush X0.here hx rfl (hb hby at_93) k) ?_
  show OutW _ _ _ _ _ _ _ (s₁.setTop (mkF m 95 #[.val (.long q1), .second, .val (.int p2), .val (.int p3), .val (.int p4), .val (.int p5), .val (.int v1), .val (.int v2), .val (.long v3), .second, .val (.long v7), .second, .val (.int v12), .val (.int v13), .unset, .unset] [(.int (16 : Int32))]))
  obtain ⟨T14, h14, k14, X14, e14, E14, A14, st14⟩ := newP X0 hx hZ (hw _ (List.mem_of_getElem? (i := 2) rfl)) e0 (g := (mkF m 95 #[.val (.long q1), .second, .val (.int p2), .val (.int p3), .val (.int p4), .val (.int p5), .val (.int v1), .val (.int v2), .val (.long v3), .second, .val (.long v7), .second, .val (.int v12), .val (.int v13), .unset, .unset] [(.int (16 : Int32))])) rfl (hb hby at_95) rfl (by decide) (cap := 16) (by decide) (by decide) (by decide) (by decide)
  obtain ⟨b14, g14⟩ : ∃ z, z = h0.size := ⟨_, rfl⟩
  rw [← g14] at A14 st14
  have g_b14 : n0 ≤ b14 := Nat.le_trans Z0 (Nat.le_of_eq g14.symm)
  have sz_b14 : h0.size ≤ b14 := Nat.le_trans K0.1 (Nat.le_of_eq g14.symm)
  have Z14 : n0 ≤ h14.size := Nat.le_trans Z0 E14.1
  have K14 := K0.ext E14
  have V_b14 : Arv Z h14 b14 k14 .byte (16 : Int32) [(.int (0 : Int32)), (.int (0 : Int32)), (.int (0 : Int32)), (.int (0 : Int32)), (.int (0 : Int32)), (.int (0 : Int32)), (.int (0 : Int32)), (.int (0 : Int32)), (.int (0 : Int32)), (.int (0 : Int32)), (.int (0 : Int32)), (.int (0 : Int32)), (.int (0 : Int32)), (.int (0 : Int32)), (.int (0 : Int32)), (.int (0 : Int32))] (.int (0 : Int32)) := (Arv.new A14 (by decide)).pad (pad_rep [] (.int (0 : Int32)) 16)
  refine OutW.back st14 ?_
  show OutW _ _ _ _ _ _ _ (T14.setTop (mkF m 97 #[.val (.long q1), .second, .val (.int p2), .val (.int p3), .val (.int p4), .val (.int p5), .val (.int v1), .val (.int v2), .val (.long v3), .second, .val (.long v7), .second, .val (.int v12), .val (.int v13), .unset, .unset] [(.ref b14)]))
  refine OutW.back (fun t k => XS.dup X14.here hx rfl (hb hby at_97) rfl rfl k) ?_
  show OutW _ _ _ _ _ _ _ (T14.setTop (mkF m 98 #[.val (.long q1), .second, .val (.int p2), .val (.int p3), .val (.int p4), .val (.int p5), .val (.int v1), .val (.int v2), .val (.long v3), .second, .val (.long v7), .second, .val (.int v12), .val (.int v13), .unset, .unset] [(.ref b14), (.ref b14)]))
  refine OutW.back (fun t k => XS.iconst X14.here hx rfl (hb hby at_98) k) ?_
  show OutW _ _ _ _ _ _ _ (T14.setTop (mkF m 99 #[.val (.long q1), .second, .val (.int p2), .val (.int p3), .val (.int p4), .val (.int p5), .val (.int v1), .val (.int v2), .val (.long v3), .second, .val (.long v7), .second, .val (.int v12), .val (.int v13), .unset, .unset] [(.int (0 : Int32)), (.ref b14), (.ref b14)]))
  refine OutW.back (fun t k => XS.iload X14.here hx rfl (hb hby at_99) rfl  k) ?_
  show OutW _ _ _ _ _ _ _ (T14.setTop (mkF m 101 #[.val (.long q1), .second, .val (.int p2), .val (.int p3), .val (.int p4), .val (.int p5), .val (.int v1), .val (.int v2), .val (.long v3), .second, .val (.long v7), .second, .val (.int v12), .val (.int v13), .unset, .unset] [(.int v13), (.int (0 : Int32)), (.ref b14), (.ref b14)]))
  obtain ⟨cl15, Ar15, Qk15, Sz15, Nn15, Hh15, Gg15⟩ := id V_b14
  have hin15 : ¬ ((0 : Int32) < 0 ∨ cl15.slots.size ≤ ((0 : Int32)).toNatClampNeg) := inb_of Sz15 ⟨by decide, by decide⟩
  obtain ⟨T15, h15, X15, e15, W15, st15⟩ := stB X14 hx hZ e14 Ar15 (j := (0 : Int32)) hin15 (g := (mkF m 101 #[.val (.long q1), .second, .val (.int p2), .val (.int p3), .val (.int p4), .val (.int p5), .val (.int v1), .val (.int v2), .val (.long v3), .second, .val (.long v7), .second, .val (.int v12), .val (.int v13), .unset, .unset] [(.int v13), (.int (0 : Int32)), (.ref b14), (.ref b14)])) rfl rfl (hb hby at_101)
  have V_b14_15 : Arv Z h15 b14 k14 .byte (16 : Int32) [(.int (nar .byte v13)), (.int (0 : Int32)), (.int (0 : Int32)), (.int (0 : Int32)), (.int (0 : Int32)), (.int (0 : Int32)), (.int (0 : Int32)), (.int (0 : Int32)), (.int (0 : Int32)), (.int (0 : Int32)), (.int (0 : Int32)), (.int (0 : Int32)), (.int (0 : Int32)), (.int (0 : Int32)), (.int (0 : Int32)), (.int (0 : Int32))] (.int (0 : Int32)) := Arv.set Ar15 Qk15 Sz15 Nn15 Hh15 Gg15 (fits_nar_byte _) W15 0 rfl (Nat.le_of_ble_eq_true rfl)
  have N15 := Fr.snoc X15 N0 g_b14
  have Z15 : n0 ≤ h15.size := Nat.le_trans Z14 (Keep.of_wr W15).1
  have K15 := K14.wr W15 (Or.inr sz_b14)
  obtain ⟨lc15, X15, N15⟩ : ∃ lc, Stand p l e room_1 s m #[(.long q1), (.int p2), (.int p3), (.int p4), (.int p5)] below meth c T15 lc 1 16 ∧ Fr n0 lc := ⟨_, X15, N15⟩
  refine OutW.back st15 ?_
  show OutW _ _ _ _ _ _ _ (T15.setTop (mkF m 102 #[.val (.long q1), .second, .val (.int p2), .val (.int p3), .val (.int p4), .val (.int p5), .val (.int v1), .val (.int v2), .val (.long v3), .second, .val (.long v7), .second, .val (.int v12), .val (.int v13), .unset, .unset] [(.ref b14)]))
  refine OutW.back (fun t k => XS.dup X15.here hx rfl (hb hby at_102) rfl rfl k) ?_
  show OutW _ _ _ _ _ _ _ (T15.setTop (mkF m 103 #[.val (.long q1), .second, .val (.int p2), .val (.int p3), .val (.int p4), .val (.int p5), .val (.int v1), .val (.int v2), .val (.long v3), .second, .val (.long v7), .second, .val (.int v12), .val (.int v13), .unset, .unset] [(.ref b14), (.ref b14)]))
  refine OutW.back (fun t k => XS.iconst X15.here hx rfl (hb hby at_103) k) ?_
  show OutW _ _ _ _ _ _ _ (T15.setTop (mkF m 104 #[.val (.long q1), .second, .val (.int p2), .val (.int p3), .val (.int p4), .val (.int p5), .val (.int v1), .val (.int v2), .val (.long v3), .second, .val (.long v7), .second, .val (.int v12), .val (.int v13), .unset, .unset] [(.int (1 : Int32)), (.ref b14), (.ref b14)]))
  refine OutW.back (fun t k => XS.iload X15.here hx rfl (hb hby at_104) rfl  k) ?_
  show OutW _ _ _ _ _ _ _ (T15.setTop (mkF m 106 #[.val (.long q1), .second, .val (.int p2), .val (.int p3), .val (.int p4), .val (.int p5), .val (.int v1), .val (.int v2), .val (.long v3), .second, .val (.long v7), .second, .val (.int v12), .val (.int v13), .unset, .unset] [(.int v13), (.int (1 : Int32)), (.ref b14), (.ref b14)]))
  obtain ⟨cl16, Ar16, Qk16, Sz16, Nn16, Hh16, Gg16⟩ := id V_b14_15
  have hin16 : ¬ ((1 : Int32) < 0 ∨ cl16.slots.size ≤ ((1 : Int32)).toNatClampNeg) := inb_of Sz16 ⟨by decide, by decide⟩
  obtain ⟨T16, h16, X16, e16, W16, st16⟩ := stB X15 hx hZ e15 Ar16 (j := (1 : Int32)) hin16 (g := (mkF m 106 #[.val (.long q1), .second, .val (.int p2), .val (.int p3), .val (.int p4), .val (.int p5), .val (.int v1), .val (.int v2), .val (.long v3), .second, .val (.long v7), .second, .val (.int v12), .val (.int v13), .unset, .unset] [(.int v13), (.int (1 : Int32)), (.ref b14), (.ref b14)])) rfl rfl (hb hby at_106)
  have V_b14_16 : Arv Z h16 b14 k14 .byte (16 : Int32) [(.int (nar .byte v13)), (.int (nar .byte v13)), (.int (0 : Int32)), (.int (0 : Int32)), (.int (0 : Int32)), (.int (0 : Int32)), (.int (0 : Int32)), (.int (0 : Int32)), (.int (0 : Int32)), (.int (0 : Int32)), (.int (0 : Int32)), (.int (0 : Int32)), (.int (0 : Int32)), (.int (0 : Int32)), (.int (0 : Int32)), (.int (0 : Int32))] (.int (0 : Int32)) := Arv.set Ar16 Qk16 Sz16 Nn16 Hh16 Gg16 (fits_nar_byte _) W16 1 rfl (Nat.le_of_ble_eq_true rfl)
  have N16 := Fr.snoc X16 N15 g_b14
  have Z16 : n0 ≤ h16.size := Nat.le_trans Z15 (Keep.of_wr W16).1
  have K16 := K15.wr W16 (Or.inr sz_b14)
  obtain ⟨lc16, X16, N16⟩ : ∃ lc, Stand p l e room_1 s m #[(.long q1), (.int p2), (.int p3), (.int p4), (.int p5)] below meth c T16 lc 1 16 ∧ Fr n0 lc := ⟨_, X16, N16⟩
  refine OutW.back st16 ?_
  show OutW _ _ _ _ _ _ _ (T16.setTop (mkF m 107 #[.val (.long q1), .second, .val (.int p2), .val (.int p3), .val (.int p4), .val (.int p5), .val (.int v1), .val (.int v2), .val (.long v3), .second, .val (.long v7), .second, .val (.int v12), .val (.int v13), .unset, .unset] [(.ref b14)]))
  refine OutW.back (fun t k => XS.dup X16.here hx rfl (hb hby at_107) rfl rfl k) ?_
  show OutW _ _ _ _ _ _ _ (T16.setTop (mkF m 108 #[.val (.long q1), .second, .val (.int p2), .val (.int p3), .val (.int p4), .val (.int p5), .val (.int v1), .val (.int v2), .val (.long v3), .second, .val (.long v7), .second, .val (.int v12), .val (.int v13), .unset, .unset] [(.ref b14), (.ref b14)]))
  refine OutW.back (fun t k => XS.iconst X16.here hx rfl (hb hby at_108) k) ?_
  show OutW _ _ _ _ _ _ _ (T16.setTop (mkF m 109 #[.val (.long q1), .second, .val (.int p2), .val (.int p3), .val (.int p4), .val (.int p5), .val (.int v1), .val (.int v2), .val (.long v3), .second, .val (.long v7), .second, .val (.int v12), .val (.int v13), .unset, .unset] [(.int (2 : Int32)), (.ref b14), (.ref b14)]))
  refine OutW.back (fun t k => XS.iload X16.here hx rfl (hb hby at_109) rfl  k) ?_
  show OutW _ _ _ _ _ _ _ (T16.setTop (mkF m 111 #[.val (.long q1), .second, .val (.int p2), .val (.int p3), .val (.int p4), .val (.int p5), .val (.int v1), .val (.int v2), .val (.long v3), .second, .val (.long v7), .second, .val (.int v12), .val (.int v13), .unset, .unset] [(.int v13), (.int (2 : Int32)), (.ref b14), (.ref b14)]))
  obtain ⟨cl17, Ar17, Qk17, Sz17, Nn17, Hh17, Gg17⟩ := id V_b14_16
  have hin17 : ¬ ((2 : Int32) < 0 ∨ cl17.slots.size ≤ ((2 : Int32)).toNatClampNeg) := inb_of Sz17 ⟨by decide, by decide⟩
  obtain ⟨T17, h17, X17, e17, W17, st17⟩ := stB X16 hx hZ e16 Ar17 (j := (2 : Int32)) hin17 (g := (mkF m 111 #[.val (.long q1), .second, .val (.int p2), .val (.int p3), .val (.int p4), .val (.int p5), .val (.int v1), .val (.int v2), .val (.long v3), .second, .val (.long v7), .second, .val (.int v12), .val (.int v13), .unset, .unset] [(.int v13), (.int (2 : Int32)), (.ref b14), (.ref b14)])) rfl rfl (hb hby at_111)
  have V_b14_17 : Arv Z h17 b14 k14 .byte (16 : Int32) [(.int (nar .byte v13)), (.int (nar .byte v13)), (.int (nar .byte v13)), (.int (0 : Int32)), (.int (0 : Int32)), (.int (0 : Int32)), (.int (0 : Int32)), (.int (0 : Int32)), (.int (0 : Int32)), (.int (0 : Int32)), (.int (0 : Int32)), (.int (0 : Int32)), (.int (0 : Int32)), (.int (0 : Int32)), (.int (0 : Int32)), (.int (0 : Int32))] (.int (0 : Int32)) := Arv.set Ar17 Qk17 Sz17 Nn17 Hh17 Gg17 (fits_nar_byte _) W17 2 rfl (Nat.le_of_ble_eq_true rfl)
  have N17 := Fr.snoc X17 N16 g_b14
  have Z17 : n0 ≤ h17.size := Nat.le_trans Z16 (Keep.of_wr W17).1
  have K17 := K16.wr W17 (Or.inr sz_b14)
  obtain ⟨lc17, X17, N17⟩ : ∃ lc, Stand p l e room_1 s m #[(.long q1), (.int p2), (.int p3), (.int p4), (.int p5)] below meth c T17 lc 1 16 ∧ Fr n0 lc := ⟨_, X17, N17⟩
  refine OutW.back st17 ?_
  show OutW _ _ _ _ _ _ _ (T17.setTop (mkF m 112 #[.val (.long q1), .second, .val (.int p2), .val (.int p3), .val (.int p4), .val (.int p5), .val (.int v1), .val (.int v2), .val (.long v3), .second, .val (.long v7), .second, .val (.int v12), .val (.int v13), .unset, .unset] [(.ref b14)]))
  refine OutW.back (fun t k => XS.dup X17.here hx rfl (hb hby at_112) rfl rfl k) ?_
  show OutW _ _ _ _ _ _ _ (T17.setTop (mkF m 113 #[.val (.long q1), .second, .val (.int p2), .val (.int p3), .val (.int p4), .val (.int p5), .val (.int v1), .val (.int v2), .val (.long v3), .second, .val (.long v7), .second, .val (.int v12), .val (.int v13), .unset, .unset] [(.ref b14), (.ref b14)]))
  refine OutW.back (fun t k => XS.iconst X17.here hx rfl (hb hby at_113) k) ?_
  show OutW _ _ _ _ _ _ _ (T17.setTop (mkF m 114 #[.val (.long q1), .second, .val (.int p2), .val (.int p3), .val (.int p4), .val (.int p5), .val (.int v1), .val (.int v2), .val (.long v3), .second, .val (.long v7), .second, .val (.int v12), .val (.int v13), .unset, .unset] [(.int (3 : Int32)), (.ref b14), (.ref b14)]))
  refine OutW.back (fun t k => XS.iload X17.here hx rfl (hb hby at_114) rfl  k) ?_
  show OutW _ _ _ _ _ _ _ (T17.setTop (mkF m 116 #[.val (.long q1), .second, .val (.int p2), .val (.int p3), .val (.int p4), .val (.int p5), .val (.int v1), .val (.int v2), .val (.long v3), .second, .val (.long v7), .second, .val (.int v12), .val (.int v13), .unset, .unset] [(.int v13), (.int (3 : Int32)), (.ref b14), (.ref b14)]))
  obtain ⟨cl18, Ar18, Qk18, Sz18, Nn18, Hh18, Gg18⟩ := id V_b14_17
  have hin18 : ¬ ((3 : Int32) < 0 ∨ cl18.slots.size ≤ ((3 : Int32)).toNatClampNeg) := inb_of Sz18 ⟨by decide, by decide⟩
  obtain ⟨T18, h18, X18, e18, W18, st18⟩ := stB X17 hx hZ e17 Ar18 (j := (3 : Int32)) hin18 (g := (mkF m 116 #[.val (.long q1), .second, .val (.int p2), .val (.int p3), .val (.int p4), .val (.int p5), .val (.int v1), .val (.int v2), .val (.long v3), .second, .val (.long v7), .second, .val (.int v12), .val (.int v13), .unset, .unset] [(.int v13), (.int (3 : Int32)), (.ref b14), (.ref b14)])) rfl rfl (hb hby at_116)
  have V_b14_18 : Arv Z h18 b14 k14 .byte (16 : Int32) [(.int (nar .byte v13)), (.int (nar .byte v13)), (.int (nar .byte v13)), (.int (nar .byte v13)), (.int (0 : Int32)), (.int (0 : Int32)), (.int (0 : Int32)), (.int (0 : Int32)), (.int (0 : Int32)), (.int (0 : Int32)), (.int (0 : Int32)), (.int (0 : Int32)), (.int (0 : Int32)), (.int (0 : Int32)), (.int (0 : Int32)), (.int (0 : Int32))] (.int (0 : Int32)) := Arv.set Ar18 Qk18 Sz18 Nn18 Hh18 Gg18 (fits_nar_byte _) W18 3 rfl (Nat.le_of_ble_eq_true rfl)
  have N18 := Fr.snoc X18 N17 g_b14
  have Z18 : n0 ≤ h18.size := Nat.le_trans Z17 (Keep.of_wr W18).1
  have K18 := K17.wr W18 (Or.inr sz_b14)
  obtain ⟨lc18, X18, N18⟩ : ∃ lc, Stand p l e room_1 s m #[(.long q1), (.int p2), (.int p3), (.int p4), (.int p5)] below meth c T18 lc 1 16 ∧ Fr n0 lc := ⟨_, X18, N18⟩
  refine OutW.back st18 ?_
  show OutW _ _ _ _ _ _ _ (T18.setTop (mkF m 117 #[.val (.long q1), .second, .val (.int p2), .val (.int p3), .val (.int p4), .val (.int p5), .val (.int v1), .val (.int v2), .val (.long v3), .second, .val (.long v7), .second, .val (.int v12), .val (.int v13), .unset, .unset] [(.ref b14)]))
  refine OutW.back (fun t k => XS.dup X18.here hx rfl (hb hby at_117) rfl rfl k) ?_
  show OutW _ _ _ _ _ _ _ (T18.setTop (mkF m 118 #[.val (.long q1), .second, .val (.int p2), .val (.int p3), .val (.int p4), .val (.int p5), .val (.int v1), .val (.int v2), .val (.long v3), .second, .val (.long v7), .second, .val (.int v12), .val (.int v13), .unset, .unset] [(.ref b14), (.ref b14)]))
  refine OutW.back (fun t k => XS.iconst X18.here hx rfl (hb hby at_118) k) ?_
  show OutW _ _ _ _ _ _ _ (T18.setTop (mkF m 119 #[.val (.long q1), .second, .val (.int p2), .val (.int p3), .val (.int p4), .val (.int p5), .val (.int v1), .val (.int v2), .val (.long v3), .second, .val (.long v7), .second, .val (.int v12), .val (.int v13), .unset, .unset] [(.int (4 : Int32)), (.ref b14), (.ref b14)]))
  refine OutW.back (fun t k => XS.iload X18.here hx rfl (hb hby at_119) rfl  k) ?_
  show OutW _ _ _ _ _ _ _ (T18.setTop (mkF m 121 #[.val (.long q1), .second, .val (.int p2), .val (.int p3), .val (.int p4), .val (.int p5), .val (.int v1), .val (.int v2), .val (.long v3), .second, .val (.long v7), .second, .val (.int v12), .val (.int v13), .unset, .unset] [(.int v13), (.int (4 : Int32)), (.ref b14), (.ref b14)]))
  obtain ⟨cl19, Ar19, Qk19, Sz19, Nn19, Hh19, Gg19⟩ := id V_b14_18
  have hin19 : ¬ ((4 : Int32) < 0 ∨ cl19.slots.size ≤ ((4 : Int32)).toNatClampNeg) := inb_of Sz19 ⟨by decide, by decide⟩
  obtain ⟨T19, h19, X19, e19, W19, st19⟩ := stB X18 hx hZ e18 Ar19 (j := (4 : Int32)) hin19 (g := (mkF m 121 #[.val (.long q1), .second, .val (.int p2), .val (.int p3), .val (.int p4), .val (.int p5), .val (.int v1), .val (.int v2), .val (.long v3), .second, .val (.long v7), .second, .val (.int v12), .val (.int v13), .unset, .unset] [(.int v13), (.int (4 : Int32)), (.ref b14), (.ref b14)])) rfl rfl (hb hby at_121)
  have V_b14_19 : Arv Z h19 b14 k14 .byte (16 : Int32) [(.int (nar .byte v13)), (.int (nar .byte v13)), (.int (nar .byte v13)), (.int (nar .byte v13)), (.int (nar .byte v13)), (.int (0 : Int32)), (.int (0 : Int32)), (.int (0 : Int32)), (.int (0 : Int32)), (.int (0 : Int32)), (.int (0 : Int32)), (.int (0 : Int32)), (.int (0 : Int32)), (.int (0 : Int32)), (.int (0 : Int32)), (.int (0 : Int32))] (.int (0 : Int32)) := Arv.set Ar19 Qk19 Sz19 Nn19 Hh19 Gg19 (fits_nar_byte _) W19 4 rfl (Nat.le_of_ble_eq_true rfl)
  have N19 := Fr.snoc X19 N18 g_b14
  have Z19 : n0 ≤ h19.size := Nat.le_trans Z18 (Keep.of_wr W19).1
  have K19 := K18.wr W19 (Or.inr sz_b14)
  obtain ⟨lc19, X19, N19⟩ : ∃ lc, Stand p l e room_1 s m #[(.long q1), (.int p2), (.int p3), (.int p4), (.int p5)] below meth c T19 lc 1 16 ∧ Fr n0 lc := ⟨_, X19, N19⟩
  refine OutW.back st19 ?_
  show OutW _ _ _ _ _ _ _ (T19.setTop (mkF m 122 #[.val (.long q1), .second, .val (.int p2), .val (.int p3), .val (.int p4), .val (.int p5), .val (.int v1), .val (.int v2), .val (.long v3), .second, .val (.long v7), .second, .val (.int v12), .val (.int v13), .unset, .unset] [(.ref b14)]))
  refine OutW.back (fun t k => XS.dup X19.here hx rfl (hb hby at_122) rfl rfl k) ?_
  show OutW _ _ _ _ _ _ _ (T19.setTop (mkF m 123 #[.val (.long q1), .second, .val (.int p2), .val (.int p3), .val (.int p4), .val (.int p5), .val (.int v1), .val (.int v2), .val (.long v3), .second, .val (.long v7), .second, .val (.int v12), .val (.int v13), .unset, .unset] [(.ref b14), (.ref b14)]))
  refine OutW.back (fun t k => XS.iconst X19.here hx rfl (hb hby at_123) k) ?_
  show OutW _ _ _ _ _ _ _ (T19.setTop (mkF m 124 #[.val (.long q1), .second, .val (.int p2), .val (.int p3), .val (.int p4), .val (.int p5), .val (.int v1), .val (.int v2), .val (.long v3), .second, .val (.long v7), .second, .val (.int v12), .val (.int v13), .unset, .unset] [(.int (5 : Int32)), (.ref b14), (.ref b14)]))
  refine OutW.back (fun t k => XS.iload X19.here hx rfl (hb hby at_124) rfl  k) ?_
  show OutW _ _ _ _ _ _ _ (T19.setTop (mkF m 126 #[.val (.long q1), .second, .val (.int p2), .val (.int p3), .val (.int p4), .val (.int p5), .val (.int v1), .val (.int v2), .val (.long v3), .second, .val (.long v7), .second, .val (.int v12), .val (.int v13), .unset, .unset] [(.int v13), (.int (5 : Int32)), (.ref b14), (.ref b14)]))
  obtain ⟨cl20, Ar20, Qk20, Sz20, Nn20, Hh20, Gg20⟩ := id V_b14_19
  have hin20 : ¬ ((5 : Int32) < 0 ∨ cl20.slots.size ≤ ((5 : Int32)).toNatClampNeg) := inb_of Sz20 ⟨by decide, by decide⟩
  obtain ⟨T20, h20, X20, e20, W20, st20⟩ := stB X19 hx hZ e19 Ar20 (j := (5 : Int32)) hin20 (g := (mkF m 126 #[.val (.long q1), .second, .val (.int p2), .val (.int p3), .val (.int p4), .val (.int p5), .val (.int v1), .val (.int v2), .val (.long v3), .second, .val (.long v7), .second, .val (.int v12), .val (.int v13), .unset, .unset] [(.int v13), (.int (5 : Int32)), (.ref b14), (.ref b14)])) rfl rfl (hb hby at_126)
  have V_b14_20 : Arv Z h20 b14 k14 .byte (16 : Int32) [(.int (nar .byte v13)), (.int (nar .byte v13)), (.int (nar .byte v13)), (.int (nar .byte v13)), (.int (nar .byte v13)), (.int (nar .byte v13)), (.int (0 : Int32)), (.int (0 : Int32)), (.int (0 : Int32)), (.int (0 : Int32)), (.int (0 : Int32)), (.int (0 : Int32)), (.int (0 : Int32)), (.int (0 : Int32)), (.int (0 : Int32)), (.int (0 : Int32))] (.int (0 : Int32)) := Arv.set Ar20 Qk20 Sz20 Nn20 Hh20 Gg20 (fits_nar_byte _) W20 5 rfl (Nat.le_of_ble_eq_true rfl)
  have N20 := Fr.snoc X20 N19 g_b14
  have Z20 : n0 ≤ h20.size := Nat.le_trans Z19 (Keep.of_wr W20).1
  have K20 := K19.wr W20 (Or.inr sz_b14)
  obtain ⟨lc20, X20, N20⟩ : ∃ lc, Stand p l e room_1 s m #[(.long q1), (.int p2), (.int p3), (.int p4), (.int p5)] below meth c T20 lc 1 16 ∧ Fr n0 lc := ⟨_, X20, N20⟩
  refine OutW.back st20 ?_
  show OutW _ _ _ _ _ _ _ (T20.setTop (mkF m 127 #[.val (.long q1), .second, .val (.int p2), .val (.int p3), .val (.int p4), .val (.int p5), .val (.int v1), .val (.int v2), .val (.long v3), .second, .val (.long v7), .second, .val (.int v12), .val (.int v13), .unset, .unset] [(.ref b14)]))
  refine OutW.back (fun t k => XS.dup X20.here hx rfl (hb hby at_127) rfl rfl k) ?_
  show OutW _ _ _ _ _ _ _ (T20.setTop (mkF m 128 #[.val (.long q1), .second, .val (.int p2), .val (.int p3), .val (.int p4), .val (.int p5), .val (.int v1), .val (.int v2), .val (.long v3), .second, .val (.long v7), .second, .val (.int v12), .val (.int v13), .unset, .unset] [(.ref b14), (.ref b14)]))
  refine OutW.back (fun t k => XS.bipush X20.here hx rfl (hb hby at_128) k) ?_
  show OutW _ _ _ _ _ _ _ (T20.setTop (mkF m 130 #[.val (.long q1), .second, .val (.int p2), .val (.int p3), .val (.int p4), .val (.int p5), .val (.int v1), .val (.int v2), .val (.long v3), .second, .val (.long v7), .second, .val (.int v12), .val (.int v13), .unset, .unset] [(.int (6 : Int32)), (.ref b14), (.ref b14)]))
  refine OutW.back (fun t k => XS.iload X20.here hx rfl (hb hby at_130) rfl  k) ?_
  show OutW _ _ _ _ _ _ _ (T20.setTop (mkF m 132 #[.val (.long q1), .second, .val (.int p2), .val (.int p3), .val (.int p4), .val (.int p5), .val (.int v1), .val (.int v2), .val (.long v3), .second, .val (.long v7), .second, .val (.int v12), .val (.int v13), .unset, .unset] [(.int v13), (.int (6 : Int32)), (.ref b14), (.ref b14)]))
  obtain ⟨cl21, Ar21, Qk21, Sz21, Nn21, Hh21, Gg21⟩ := id V_b14_20
  have hin21 : ¬ ((6 : Int32) < 0 ∨ cl21.slots.size ≤ ((6 : Int32)).toNatClampNeg) := inb_of Sz21 ⟨by decide, by decide⟩
  obtain ⟨T21, h21, X21, e21, W21, st21⟩ := stB X20 hx hZ e20 Ar21 (j := (6 : Int32)) hin21 (g := (mkF m 132 #[.val (.long q1), .second, .val (.int p2), .val (.int p3), .val (.int p4), .val (.int p5), .val (.int v1), .val (.int v2), .val (.long v3), .second, .val (.long v7), .second, .val (.int v12), .val (.int v13), .unset, .unset] [(.int v13), (.int (6 : Int32)), (.ref b14), (.ref b14)])) rfl rfl (hb hby at_132)
  have V_b14_21 : Arv Z h21 b14 k14 .byte (16 : Int32) [(.int (nar .byte v13)), (.int (nar .byte v13)), (.int (nar .byte v13)), (.int (nar .byte v13)), (.int (nar .byte v13)), (.int (nar .byte v13)), (.int (nar .byte v13)), (.int (0 : Int32)), (.int (0 : Int32)), (.int (0 : Int32)), (.int (0 : Int32)), (.int (0 : Int32)), (.int (0 : Int32)), (.int (0 : Int32)), (.int (0 : Int32)), (.int (0 : Int32))] (.int (0 : Int32)) := Arv.set Ar21 Qk21 Sz21 Nn21 Hh21 Gg21 (fits_nar_byte _) W21 6 rfl (Nat.le_of_ble_eq_true rfl)
  have N21 := Fr.snoc X21 N20 g_b14
  have Z21 : n0 ≤ h21.size := Nat.le_trans Z20 (Keep.of_wr W21).1
  have K21 := K20.wr W21 (Or.inr sz_b14)
  obtain ⟨lc21, X21, N21⟩ : ∃ lc, Stand p l e room_1 s m #[(.long q1), (.int p2), (.int p3), (.int p4), (.int p5)] below meth c T21 lc 1 16 ∧ Fr n0 lc := ⟨_, X21, N21⟩
  refine OutW.back st21 ?_
  show OutW _ _ _ _ _ _ _ (T21.setTop (mkF m 133 #[.val (.long q1), .second, .val (.int p2), .val (.int p3), .val (.int p4), .val (.int p5), .val (.int v1), .val (.int v2), .val (.long v3), .second, .val (.long v7), .second, .val (.int v12), .val (.int v13), .unset, .unset] [(.ref b14)]))
  refine OutW.back (fun t k => XS.dup X21.here hx rfl (hb hby at_133) rfl rfl k) ?_
  show OutW _ _ _ _ _ _ _ (T21.setTop (mkF m 134 #[.val (.long q1), .second, .val (.int p2), .val (.int p3), .val (.int p4), .val (.int p5), .val (.int v1), .val (.int v2), .val (.long v3), .second, .val (.long v7), .second, .val (.int v12), .val (.int v13), .unset, .unset] [(.ref b14), (.ref b14)]))
  refine OutW.back (fun t k => XS.bipush X21.here hx rfl (hb hby at_134) k) ?_
  show OutW _ _ _ _ _ _ _ (T21.setTop (mkF m 136 #[.val (.long q1), .second, .val (.int p2), .val (.int p3), .val (.int p4), .val (.int p5), .val (.int v1), .val (.int v2), .val (.long v3), .second, .val (.long v7), .second, .val (.int v12), .val (.int v13), .unset, .unset] [(.int (7 : Int32)), (.ref b14), (.ref b14)]))
  refine OutW.back (fun t k => XS.iload X21.here hx rfl (hb hby at_136) rfl  k) ?_
  show OutW _ _ _ _ _ _ _ (T21.setTop (mkF m 138 #[.val (.long q1), .second, .val (.int p2), .val (.int p3), .val (.int p4), .val (.int p5), .val (.int v1), .val (.int v2), .val (.long v3), .second, .val (.long v7), .second, .val (.int v12), .val (.int v13), .unset, .unset] [(.int v13), (.int (7 : Int32)), (.ref b14), (.ref b14)]))
  obtain ⟨cl22, Ar22, Qk22, Sz22, Nn22, Hh22, Gg22⟩ := id V_b14_21
  have hin22 : ¬ ((7 : Int32) < 0 ∨ cl22.slots.size ≤ ((7 : Int32)).toNatClampNeg) := inb_of Sz22 ⟨by decide, by decide⟩
  obtain ⟨T22, h22, X22, e22, W22, st22⟩ := stB X21 hx hZ e21 Ar22 (j := (7 : Int32)) hin22 (g := (mkF m 138 #[.val (.long q1), .second, .val (.int p2), .val (.int p3), .val (.int p4), .val (.int p5), .val (.int v1), .val (.int v2), .val (.long v3), .second, .val (.long v7), .second, .val (.int v12), .val (.int v13), .unset, .unset] [(.int v13), (.int (7 : Int32)), (.ref b14), (.ref b14)])) rfl rfl (hb hby at_138)
  have V_b14_22 : Arv Z h22 b14 k14 .byte (16 : Int32) [(.int (nar .byte v13)), (.int (nar .byte v13)), (.int (nar .byte v13)), (.int (nar .byte v13)), (.int (nar .byte v13)), (.int (nar .byte v13)), (.int (nar .byte v13)), (.int (nar .byte v13)), (.int (0 : Int32)), (.int (0 : Int32)), (.int (0 : Int32)), (.int (0 : Int32)), (.int (0 : Int32)), (.int (0 : Int32)), (.int (0 : Int32)), (.int (0 : Int32))] (.int (0 : Int32)) := Arv.set Ar22 Qk22 Sz22 Nn22 Hh22 Gg22 (fits_nar_byte _) W22 7 rfl (Nat.le_of_ble_eq_true rfl)
  have N22 := Fr.snoc X22 N21 g_b14
  have Z22 : n0 ≤ h22.size := Nat.le_trans Z21 (Keep.of_wr W22).1
  have K22 := K21.wr W22 (Or.inr sz_b14)
  obtain ⟨lc22, X22, N22⟩ : ∃ lc, Stand p l e room_1 s m #[(.long q1), (.int p2), (.int p3), (.int p4), (.int p5)] below meth c T22 lc 1 16 ∧ Fr n0 lc := ⟨_, X22, N22⟩
  refine OutW.back st22 ?_
  show OutW _ _ _ _ _ _ _ (T22.setTop (mkF m 139 #[.val (.long q1), .second, .val (.int p2), .val (.int p3), .val (.int p4), .val (.int p5), .val (.int v1), .val (.int v2), .val (.long v3), .second, .val (.long v7), .second, .val (.int v12), .val (.int v13), .unset, .unset] [(.ref b14)]))
  refine OutW.back (fun t k => XS.dup X22.here hx rfl (hb hby at_139) rfl rfl k) ?_
  show OutW _ _ _ _ _ _ _ (T22.setTop (mkF m 140 #[.val (.long q1), .second, .val (.int p2), .val (.int p3), .val (.int p4), .val (.int p5), .val (.int v1), .val (.int v2), .val (.long v3), .second, .val (.long v7), .second, .val (.int v12), .val (.int v13), .unset, .unset] [(.ref b14), (.ref b14)]))
  refine OutW.back (fun t k => XS.bipush X22.here hx rfl (hb hby at_140) k) ?_
  show OutW _ _ _ _ _ _ _ (T22.setTop (mkF m 142 #[.val (.long q1), .second, .val (.int p2), .val (.int p3), .val (.int p4), .val (.int p5), .val (.int v1), .val (.int v2), .val (.long v3), .second, .val (.long v7), .second, .val (.int v12), .val (.int v13), .unset, .unset] [(.int (8 : Int32)), (.ref b14), (.ref b14)]))
  refine OutW.back (fun t k => XS.iload X22.here hx rfl (hb hby at_142) rfl  k) ?_
  show OutW _ _ _ _ _ _ _ (T22.setTop (mkF m 144 #[.val (.long q1), .second, .val (.int p2), .val (.int p3), .val (.int p4), .val (.int p5), .val (.int v1), .val (.int v2), .val (.long v3), .second, .val (.long v7), .second, .val (.int v12), .val (.int v13), .unset, .unset] [(.int v13), (.int (8 : Int32)), (.ref b14), (.ref b14)]))
  obtain ⟨cl23, Ar23, Qk23, Sz23, Nn23, Hh23, Gg23⟩ := id V_b14_22
  have hin23 : ¬ ((8 : Int32) < 0 ∨ cl23.slots.size ≤ ((8 : Int32)).toNatClampNeg) := inb_of Sz23 ⟨by decide, by decide⟩
  obtain ⟨T23, h23, X23, e23, W23, st23⟩ := stB X22 hx hZ e22 Ar23 (j := (8 : Int32)) hin23 (g := (mkF m 144 #[.val (.long q1), .second, .val (.int p2), .val (.int p3), .val (.int p4), .val (.int p5), .val (.int v1), .val (.int v2), .val (.long v3), .second, .val (.long v7), .second, .val (.int v12), .val (.int v13), .unset, .unset] [(.int v13), (.int (8 : Int32)), (.ref b14), (.ref b14)])) rfl rfl (hb hby at_144)
  have V_b14_23 : Arv Z h23 b14 k14 .byte (16 : Int32) [(.int (nar .byte v13)), (.int (nar .byte v13)), (.int (nar .byte v13)), (.int (nar .byte v13)), (.int (nar .byte v13)), (.int (nar .byte v13)), (.int (nar .byte v13)), (.int (nar .byte v13)), (.int (nar .byte v13)), (.int (0 : Int32)), (.int (0 : Int32)), (.int (0 : Int32)), (.int (0 : Int32)), (.int (0 : Int32)), (.int (0 : Int32)), (.int (0 : Int32))] (.int (0 : Int32)) := Arv.set Ar23 Qk23 Sz23 Nn23 Hh23 Gg23 (fits_nar_byte _) W23 8 rfl (Nat.le_of_ble_eq_true rfl)
  have N23 := Fr.snoc X23 N22 g_b14
  have Z23 : n0 ≤ h23.size := Nat.le_trans Z22 (Keep.of_wr W23).1
  have K23 := K22.wr W23 (Or.inr sz_b14)
  obtain ⟨lc23, X23, N23⟩ : ∃ lc, Stand p l e room_1 s m #[(.long q1), (.int p2), (.int p3), (.int p4), (.int p5)] below meth c T23 lc 1 16 ∧ Fr n0 lc := ⟨_, X23, N23⟩
  refine OutW.back st23 ?_
  show OutW _ _ _ _ _ _ _ (T23.setTop (mkF m 145 #[.val (.long q1), .second, .val (.int p2), .val (.int p3), .val (.int p4), .val (.int p5), .val (.int v1), .val (.int v2), .val (.long v3), .second, .val (.long v7), .second, .val (.int v12), .val (.int v13), .unset, .unset] [(.ref b14)]))
  refine OutW.back (fun t k => XS.dup X23.here hx rfl (hb hby at_145) rfl rfl k) ?_
  show OutW _ _ _ _ _ _ _ (T23.setTop (mkF m 146 #[.val (.long q1), .second, .val (.int p2), .val (.int p3), .val (.int p4), .val (.int p5), .val (.int v1), .val (.int v2), .val (.long v3), .second, .val (.long v7), .second, .val (.int v12), .val (.int v13), .unset, .unset] [(.ref b14), (.ref b14)]))
  refine OutW.back (fun t k => XS.bipush X23.here hx rfl (hb hby at_146) k) ?_
  show OutW _ _ _ _ _ _ _ (T23.setTop (mkF m 148 #[.val (.long q1), .second, .val (.int p2), .val (.int p3), .val (.int p4), .val (.int p5), .val (.int v1), .val (.int v2), .val (.long v3), .second, .val (.long v7), .second, .val (.int v12), .val (.int v13), .unset, .unset] [(.int (9 : Int32)), (.ref b14), (.ref b14)]))
  refine OutW.back (fun t k => XS.iload X23.here hx rfl (hb hby at_148) rfl  k) ?_
  show OutW _ _ _ _ _ _ _ (T23.setTop (mkF m 150 #[.val (.long q1), .second, .val (.int p2), .val (.int p3), .val (.int p4), .val (.int p5), .val (.int v1), .val (.int v2), .val (.long v3), .second, .val (.long v7), .second, .val (.int v12), .val (.int v13), .unset, .unset] [(.int v13), (.int (9 : Int32)), (.ref b14), (.ref b14)]))
  obtain ⟨cl24, Ar24, Qk24, Sz24, Nn24, Hh24, Gg24⟩ := id V_b14_23
  have hin24 : ¬ ((9 : Int32) < 0 ∨ cl24.slots.size ≤ ((9 : Int32)).toNatClampNeg) := inb_of Sz24 ⟨by decide, by decide⟩
  obtain ⟨T24, h24, X24, e24, W24, st24⟩ := stB X23 hx hZ e23 Ar24 (j := (9 : Int32)) hin24 (g := (mkF m 150 #[.val (.long q1), .second, .val (.int p2), .val (.int p3), .val (.int p4), .val (.int p5), .val (.int v1), .val (.int v2), .val (.long v3), .second, .val (.long v7), .second, .val (.int v12), .val (.int v13), .unset, .unset] [(.int v13), (.int (9 : Int32)), (.ref b14), (.ref b14)])) rfl rfl (hb hby at_150)
  have V_b14_24 : Arv Z h24 b14 k14 .byte (16 : Int32) [(.int (nar .byte v13)), (.int (nar .byte v13)), (.int (nar .byte v13)), (.int (nar .byte v13)), (.int (nar .byte v13)), (.int (nar .byte v13)), (.int (nar .byte v13)), (.int (nar .byte v13)), (.int (nar .byte v13)), (.int (nar .byte v13)), (.int (0 : Int32)), (.int (0 : Int32)), (.int (0 : Int32)), (.int (0 : Int32)), (.int (0 : Int32)), (.int (0 : Int32))] (.int (0 : Int32)) := Arv.set Ar24 Qk24 Sz24 Nn24 Hh24 Gg24 (fits_nar_byte _) W24 9 rfl (Nat.le_of_ble_eq_true rfl)
  have N24 := Fr.snoc X24 N23 g_b14
  have Z24 : n0 ≤ h24.size := Nat.le_trans Z23 (Keep.of_wr W24).1
  have K24 := K23.wr W24 (Or.inr sz_b14)
  obtain ⟨lc24, X24, N24⟩ : ∃ lc, Stand p l e room_1 s m #[(.long q1), (.int p2), (.int p3), (.int p4), (.int p5)] below meth c T24 lc 1 16 ∧ Fr n0 lc := ⟨_, X24, N24⟩
  refine OutW.back st24 ?_
  show OutW _ _ _ _ _ _ _ (T24.setTop (mkF m 151 #[.val (.long q1), .second, .val (.int p2), .val (.int p3), .val (.int p4), .val (.int p5), .val (.int v1), .val (.int v2), .val (.long v3), .second, .val (.long v7), .second, .val (.int v12), .val (.int v13), .unset, .unset] [(.ref b14)]))
  refine OutW.back (fun t k => XS.dup X24.here hx rfl (hb hby at_151) rfl rfl k) ?_
  show OutW _ _ _ _ _ _ _ (T24.setTop (mkF m 152 #[.val (.long q1), .second, .val (.int p2), .val (.int p3), .val (.int p4), .val (.int p5), .val (.int v1), .val (.int v2), .val (.long v3), .second, .val (.long v7), .second, .val (.int v12), .val (.int v13), .unset, .unset] [(.ref b14), (.ref b14)]))
  refine OutW.back (fun t k => XS.bipush X24.here hx rfl (hb hby at_152) k) ?_
  show OutW _ _ _ _ _ _ _ (T24.setTop (mkF m 154 #[.val (.long q1), .second, .val (.int p2), .val (.int p3), .val (.int p4), .val (.int p5), .val (.int v1), .val (.int v2), .val (.long v3), .second, .val (.long v7), .second, .val (.int v12), .val (.int v13), .unset, .unset] [(.int (10 : Int32)), (.ref b14), (.ref b14)]))
  refine OutW.back (fun t k => XS.iload X24.here hx rfl (hb hby at_154) rfl  k) ?_
  show OutW _ _ _ _ _ _ _ (T24.setTop (mkF m 156 #[.val (.long q1), .second, .val (.int p2), .val (.int p3), .val (.int p4), .val (.int p5), .val (.int v1), .val (.int v2), .val (.long v3), .second, .val (.long v7), .second, .val (.int v12), .val (.int v13), .unset, .unset] [(.int v13), (.int (10 : Int32)), (.ref b14), (.ref b14)]))
  obtain ⟨cl25, Ar25, Qk25, Sz25, Nn25, Hh25, Gg25⟩ := id V_b14_24
  have hin25 : ¬ ((10 : Int32) < 0 ∨ cl25.slots.size ≤ ((10 : Int32)).toNatClampNeg) := inb_of Sz25 ⟨by decide, by decide⟩
  obtain ⟨T25, h25, X25, e25, W25, st25⟩ := stB X24 hx hZ e24 Ar25 (j := (10 : Int32)) hin25 (g := (mkF m 156 #[.val (.long q1), .second, .val (.int p2), .val (.int p3), .val (.int p4), .val (.int p5), .val (.int v1), .val (.int v2), .val (.long v3), .second, .val (.long v7), .second, .val (.int v12), .val (.int v13), .unset, .unset] [(.int v13), (.int (10 : Int32)), (.ref b14), (.ref b14)])) rfl rfl (hb hby at_156)
  have V_b14_25 : Arv Z h25 b14 k14 .byte (16 : Int32) [(.int (nar .byte v13)), (.int (nar .byte v13)), (.int (nar .byte v13)), (.int (nar .byte v13)), (.int (nar .byte v13)), (.int (nar .byte v13)), (.int (nar .byte v13)), (.int (nar .byte v13)), (.int (nar .byte v13)), (.int (nar .byte v13)), (.int (nar .byte v13)), (.int (0 : Int32)), (.int (0 : Int32)), (.int (0 : Int32)), (.int (0 : Int32)), (.int (0 : Int32))] (.int (0 : Int32)) := Arv.set Ar25 Qk25 Sz25 Nn25 Hh25 Gg25 (fits_nar_byte _) W25 10 rfl (Nat.le_of_ble_eq_true rfl)
  have N25 := Fr.snoc X25 N24 g_b14
  have Z25 : n0 ≤ h25.size := Nat.le_trans Z24 (Keep.of_wr W25).1
  have K25 := K24.wr W25 (Or.inr sz_b14)
  obtain ⟨lc25, X25, N25⟩ : ∃ lc, Stand p l e room_1 s m #[(.long q1), (.int p2), (.int p3), (.int p4), (.int p5)] below meth c T25 lc 1 16 ∧ Fr n0 lc := ⟨_, X25, N25⟩
  refine OutW.back st25 ?_
  show OutW _ _ _ _ _ _ _ (T25.setTop (mkF m 157 #[.val (.long q1), .second, .val (.int p2), .val (.int p3), .val (.int p4), .val (.int p5), .val (.int v1), .val (.int v2), .val (.long v3), .second, .val (.long v7), .second, .val (.int v12), .val (.int v13), .unset, .unset] [(.ref b14)]))
  refine OutW.back (fun t k => XS.dup X25.here hx rfl (hb hby at_157) rfl rfl k) ?_
  show OutW _ _ _ _ _ _ _ (T25.setTop (mkF m 158 #[.val (.long q1), .second, .val (.int p2), .val (.int p3), .val (.int p4), .val (.int p5), .val (.int v1), .val (.int v2), .val (.long v3), .second, .val (.long v7), .second, .val (.int v12), .val (.int v13), .unset, .unset] [(.ref b14), (.ref b14)]))
  refine OutW.back (fun t k => XS.bipush X25.here hx rfl (hb hby at_158) k) ?_
  show OutW _ _ _ _ _ _ _ (T25.setTop (mkF m 160 #[.val (.long q1), .second, .val (.int p2), .val (.int p3), .val (.int p4), .val (.int p5), .val (.int v1), .val (.int v2), .val (.long v3), .second, .val (.long v7), .second, .val (.int v12), .val (.int v13), .unset, .unset] [(.int (11 : Int32)), (.ref b14), (.ref b14)]))
  refine OutW.back (fun t k => XS.iload X25.here hx rfl (hb hby at_160) rfl  k) ?_
  show OutW _ _ _ _ _ _ _ (T25.setTop (mkF m 162 #[.val (.long q1), .second, .val (.int p2), .val (.int p3), .val (.int p4), .val (.int p5), .val (.int v1), .val (.int v2), .val (.long v3), .second, .val (.long v7), .second, .val (.int v12), .val (.int v13), .unset, .unset] [(.int v13), (.int (11 : Int32)), (.ref b14), (.ref b14)]))
  obtain ⟨cl26, Ar26, Qk26, Sz26, Nn26, Hh26, Gg26⟩ := id V_b14_25
  have hin26 : ¬ ((11 : Int32) < 0 ∨ cl26.slots.size ≤ ((11 : Int32)).toNatClampNeg) := inb_of Sz26 ⟨by decide, by decide⟩
  obtain ⟨T26, h26, X26, e26, W26, st26⟩ := stB X25 hx hZ e25 Ar26 (j := (11 : Int32)) hin26 (g := (mkF m 162 #[.val (.long q1), .second, .val (.int p2), .val (.int p3), .val (.int p4), .val (.int p5), .val (.int v1), .val (.int v2), .val (.long v3), .second, .val (.long v7), .second, .val (.int v12), .val (.int v13), .unset, .unset] [(.int v13), (.int (11 : Int32)), (.ref b14), (.ref b14)])) rfl rfl (hb hby at_162)
  have V_b14_26 : Arv Z h26 b14 k14 .byte (16 : Int32) [(.int (nar .byte v13)), (.int (nar .byte v13)), (.int (nar .byte v13)), (.int (nar .byte v13)), (.int (nar .byte v13)), (.int (nar .byte v13)), (.int (nar .byte v13)), (.int (nar .byte v13)), (.int (nar .byte v13)), (.int (nar .byte v13)), (.int (nar .byte v13)), (.int (nar .byte v13)), (.int (0 : Int32)), (.int (0 : Int32)), (.int (0 : Int32)), (.int (0 : Int32))] (.int (0 : Int32)) := Arv.set Ar26 Qk26 Sz26 Nn26 Hh26 Gg26 (fits_nar_byte _) W26 11 rfl (Nat.le_of_ble_eq_true rfl)
  have N26 := Fr.snoc X26 N25 g_b14
  have Z26 : n0 ≤ h26.size := Nat.le_trans Z25 (Keep.of_wr W26).1
  have K26 := K25.wr W26 (Or.inr sz_b14)
  obtain ⟨lc26, X26, N26⟩ : ∃ lc, Stand p l e room_1 s m #[(.long q1), (.int p2), (.int p3), (.int p4), (.int p5)] below meth c T26 lc 1 16 ∧ Fr n0 lc := ⟨_, X26, N26⟩
  refine OutW.back st26 ?_
  show OutW _ _ _ _ _ _ _ (T26.setTop (mkF m 163 #[.val (.long q1), .second, .val (.int p2), .val (.int p3), .val (.int p4), .val (.int p5), .val (.int v1), .val (.int v2), .val (.long v3), .second, .val (.long v7), .second, .val (.int v12), .val (.int v13), .unset, .unset] [(.ref b14)]))
  refine OutW.back (fun t k => XS.dup X26.here hx rfl (hb hby at_163) rfl rfl k) ?_
  show OutW _ _ _ _ _ _ _ (T26.setTop (mkF m 164 #[.val (.long q1), .second, .val (.int p2), .val (.int p3), .val (.int p4), .val (.int p5), .val (.int v1), .val (.int v2), .val (.long v3), .second, .val (.long v7), .second, .val (.int v12), .val (.int v13), .unset, .unset] [(.ref b14), (.ref b14)]))
  refine OutW.back (fun t k => XS.bipush X26.here hx rfl (hb hby at_164) k) ?_
  show OutW _ _ _ _ _ _ _ (T26.setTop (mkF m 166 #[.val (.long q1), .second, .val (.int p2), .val (.int p3), .val (.int p4), .val (.int p5), .val (.int v1), .val (.int v2), .val (.long v3), .second, .val (.long v7), .second, .val (.int v12), .val (.int v13), .unset, .unset] [(.int (12 : Int32)), (.ref b14), (.ref b14)]))
  refine OutW.back (fun t k => XS.iload X26.here hx rfl (hb hby at_166) rfl  k) ?_
  show OutW _ _ _ _ _ _ _ (T26.setTop (mkF m 168 #[.val (.long q1), .second, .val (.int p2), .val (.int p3), .val (.int p4), .val (.int p5), .val (.int v1), .val (.int v2), .val (.long v3), .second, .val (.long v7), .second, .val (.int v12), .val (.int v13), .unset, .unset] [(.int v13), (.int (12 : Int32)), (.ref b14), (.ref b14)]))
  obtain ⟨cl27, Ar27, Qk27, Sz27, Nn27, Hh27, Gg27⟩ := id V_b14_26
  have hin27 : ¬ ((12 : Int32) < 0 ∨ cl27.slots.size ≤ ((12 : Int32)).toNatClampNeg) := inb_of Sz27 ⟨by decide, by decide⟩
  obtain ⟨T27, h27, X27, e27, W27, st27⟩ := stB X26 hx hZ e26 Ar27 (j := (12 : Int32)) hin27 (g := (mkF m 168 #[.val (.long q1), .second, .val (.int p2), .val (.int p3), .val (.int p4), .val (.int p5), .val (.int v1), .val (.int v2), .val (.long v3), .second, .val (.long v7), .second, .val (.int v12), .val (.int v13), .unset, .unset] [(.int v13), (.int (12 : Int32)), (.ref b14), (.ref b14)])) rfl rfl (hb hby at_168)
  have V_b14_27 : Arv Z h27 b14 k14 .byte (16 : Int32) [(.int (nar .byte v13)), (.int (nar .byte v13)), (.int (nar .byte v13)), (.int (nar .byte v13)), (.int (nar .byte v13)), (.int (nar .byte v13)), (.int (nar .byte v13)), (.int (nar .byte v13)), (.int (nar .byte v13)), (.int (nar .byte v13)), (.int (nar .byte v13)), (.int (nar .byte v13)), (.int (nar .byte v13)), (.int (0 : Int32)), (.int (0 : Int32)), (.int (0 : Int32))] (.int (0 : Int32)) := Arv.set Ar27 Qk27 Sz27 Nn27 Hh27 Gg27 (fits_nar_byte _) W27 12 rfl (Nat.le_of_ble_eq_true rfl)
  have N27 := Fr.snoc X27 N26 g_b14
  have Z27 : n0 ≤ h27.size := Nat.le_trans Z26 (Keep.of_wr W27).1
  have K27 := K26.wr W27 (Or.inr sz_b14)
  obtain ⟨lc27, X27, N27⟩ : ∃ lc, Stand p l e room_1 s m #[(.long q1), (.int p2), (.int p3), (.int p4), (.int p5)] below meth c T27 lc 1 16 ∧ Fr n0 lc := ⟨_, X27, N27⟩
  refine OutW.back st27 ?_
  show OutW _ _ _ _ _ _ _ (T27.setTop (mkF m 169 #[.val (.long q1), .second, .val (.int p2), .val (.int p3), .val (.int p4), .val (.int p5), .val (.int v1), .val (.int v2), .val (.long v3), .second, .val (.long v7), .second, .val (.int v12), .val (.int v13), .unset, .unset] [(.ref b14)]))
  refine OutW.back (fun t k => XS.dup X27.here hx rfl (hb hby at_169) rfl rfl k) ?_
  show OutW _ _ _ _ _ _ _ (T27.setTop (mkF m 170 #[.val (.long q1), .second, .val (.int p2), .val (.int p3), .val (.int p4), .val (.int p5), .val (.int v1), .val (.int v2), .val (.long v3), .second, .val (.long v7), .second, .val (.int v12), .val (.int v13), .unset, .unset] [(.ref b14), (.ref b14)]))
  refine OutW.back (fun t k => XS.bipush X27.here hx rfl (hb hby at_170) k) ?_
  show OutW _ _ _ _ _ _ _ (T27.setTop (mkF m 172 #[.val (.long q1), .second, .val (.int p2), .val (.int p3), .val (.int p4), .val (.int p5), .val (.int v1), .val (.int v2), .val (.long v3), .second, .val (.long v7), .second, .val (.int v12), .val (.int v13), .unset, .unset] [(.int (13 : Int32)), (.ref b14), (.ref b14)]))
  refine OutW.back (fun t k => XS.iload X27.here hx rfl (hb hby at_172) rfl  k) ?_
  show OutW _ _ _ _ _ _ _ (T27.setTop (mkF m 174 #[.val (.long q1), .second, .val (.int p2), .val (.int p3), .val (.int p4), .val (.int p5), .val (.int v1), .val (.int v2), .val (.long v3), .second, .val (.long v7), .second, .val (.int v12), .val (.int v13), .unset, .unset] [(.int v13), (.int (13 : Int32)), (.ref b14), (.ref b14)]))
  obtain ⟨cl28, Ar28, Qk28, Sz28, Nn28, Hh28, Gg28⟩ := id V_b14_27
  have hin28 : ¬ ((13 : Int32) < 0 ∨ cl28.slots.size ≤ ((13 : Int32)).toNatClampNeg) := inb_of Sz28 ⟨by decide, by decide⟩
  obtain ⟨T28, h28, X28, e28, W28, st28⟩ := stB X27 hx hZ e27 Ar28 (j := (13 : Int32)) hin28 (g := (mkF m 174 #[.val (.long q1), .second, .val (.int p2), .val (.int p3), .val (.int p4), .val (.int p5), .val (.int v1), .val (.int v2), .val (.long v3), .second, .val (.long v7), .second, .val (.int v12), .val (.int v13), .unset, .unset] [(.int v13), (.int (13 : Int32)), (.ref b14), (.ref b14)])) rfl rfl (hb hby at_174)
  have V_b14_28 : Arv Z h28 b14 k14 .byte (16 : Int32) [(.int (nar .byte v13)), (.int (nar .byte v13)), (.int (nar .byte v13)), (.int (nar .byte v13)), (.int (nar .byte v13)), (.int (nar .byte v13)), (.int (nar .byte v13)), (.int (nar .byte v13)), (.int (nar .byte v13)), (.int (nar .byte v13)), (.int (nar .byte v13)), (.int (nar .byte v13)), (.int (nar .byte v13)), (.int (nar .byte v13)), (.int (0 : Int32)), (.int (0 : Int32))] (.int (0 : Int32)) := Arv.set Ar28 Qk28 Sz28 Nn28 Hh28 Gg28 (fits_nar_byte _) W28 13 rfl (Nat.le_of_ble_eq_true rfl)
  have N28 := Fr.snoc X28 N27 g_b14
  have Z28 : n0 ≤ h28.size := Nat.le_trans Z27 (Keep.of_wr W28).1
  have K28 := K27.wr W28 (Or.inr sz_b14)
  obtain ⟨lc28, X28, N28⟩ : ∃ lc, Stand p l e room_1 s m #[(.long q1), (.int p2), (.int p3), (.int p4), (.int p5)] below meth c T28 lc 1 16 ∧ Fr n0 lc := ⟨_, X28, N28⟩
  refine OutW.back st28 ?_
  show OutW _ _ _ _ _ _ _ (T28.setTop (mkF m 175 #[.val (.long q1), .second, .val (.int p2), .val (.int p3), .val (.int p4), .val (.int p5), .val (.int v1), .val (.int v2), .val (.long v3), .second, .val (.long v7), .second, .val (.int v12), .val (.int v13), .unset, .unset] [(.ref b14)]))
  refine OutW.back (fun t k => XS.dup X28.here hx rfl (hb hby at_175) rfl rfl k) ?_
  show OutW _ _ _ _ _ _ _ (T28.setTop (mkF m 176 #[.val (.long q1), .second, .val (.int p2), .val (.int p3), .val (.int p4), .val (.int p5), .val (.int v1), .val (.int v2), .val (.long v3), .second, .val (.long v7), .second, .val (.int v12), .val (.int v13), .unset, .unset] [(.ref b14), (.ref b14)]))
  refine OutW.back (fun t k => XS.bipush X28.here hx rfl (hb hby at_176) k) ?_
  show OutW _ _ _ _ _ _ _ (T28.setTop (mkF m 178 #[.val (.long q1), .second, .val (.int p2), .val (.int p3), .val (.int p4), .val (.int p5), .val (.int v1), .val (.int v2), .val (.long v3), .second, .val (.long v7), .second, .val (.int v12), .val (.int v13), .unset, .unset] [(.int (14 : Int32)), (.ref b14), (.ref b14)]))
  refine OutW.back (fun t k => XS.iload X28.here hx rfl (hb hby at_178) rfl  k) ?_
  show OutW _ _ _ _ _ _ _ (T28.setTop (mkF m 180 #[.val (.long q1), .second, .val (.int p2), .val (.int p3), .val (.int p4), .val (.int p5), .val (.int v1), .val (.int v2), .val (.long v3), .second, .val (.long v7), .second, .val (.int v12), .val (.int v13), .unset, .unset] [(.int v13), (.int (14 : Int32)), (.ref b14), (.ref b14)]))
  obtain ⟨cl29, Ar29, Qk29, Sz29, Nn29, Hh29, Gg29⟩ := id V_b14_28
  have hin29 : ¬ ((14 : Int32) < 0 ∨ cl29.slots.size ≤ ((14 : Int32)).toNatClampNeg) := inb_of Sz29 ⟨by decide, by decide⟩
  obtain ⟨T29, h29, X29, e29, W29, st29⟩ := stB X28 hx hZ e28 Ar29 (j := (14 : Int32)) hin29 (g := (mkF m 180 #[.val (.long q1), .second, .val (.int p2), .val (.int p3), .val (.int p4), .val (.int p5), .val (.int v1), .val (.int v2), .val (.long v3), .second, .val (.long v7), .second, .val (.int v12), .val (.int v13), .unset, .unset] [(.int v13), (.int (14 : Int32)), (.ref b14), (.ref b14)])) rfl rfl (hb hby at_180)
  have V_b14_29 : Arv Z h29 b14 k14 .byte (16 : Int32) [(.int (nar .byte v13)), (.int (nar .byte v13)), (.int (nar .byte v13)), (.int (nar .byte v13)), (.int (nar .byte v13)), (.int (nar .byte v13)), (.int (nar .byte v13)), (.int (nar .byte v13)), (.int (nar .byte v13)), (.int (nar .byte v13)), (.int (nar .byte v13)), (.int (nar .byte v13)), (.int (nar .byte v13)), (.int (nar .byte v13)), (.int (nar .byte v13)), (.int (0 : Int32))] (.int (0 : Int32)) := Arv.set Ar29 Qk29 Sz29 Nn29 Hh29 Gg29 (fits_nar_byte _) W29 14 rfl (Nat.le_of_ble_eq_true rfl)
  have N29 := Fr.snoc X29 N28 g_b14
  have Z29 : n0 ≤ h29.size := Nat.le_trans Z28 (Keep.of_wr W29).1
  have K29 := K28.wr W29 (Or.inr sz_b14)
  obtain ⟨lc29, X29, N29⟩ : ∃ lc, Stand p l e room_1 s m #[(.long q1), (.int p2), (.int p3), (.int p4), (.int p5)] below meth c T29 lc 1 16 ∧ Fr n0 lc := ⟨_, X29, N29⟩
  refine OutW.back st29 ?_
  show OutW _ _ _ _ _ _ _ (T29.setTop (mkF m 181 #[.val (.long q1), .second, .val (.int p2), .val (.int p3), .val (.int p4), .val (.int p5), .val (.int v1), .val (.int v2), .val (.long v3), .second, .val (.long v7), .second, .val (.int v12), .val (.int v13), .unset, .unset] [(.ref b14)]))
  refine OutW.back (fun t k => XS.dup X29.here hx rfl (hb hby at_181) rfl rfl k) ?_
  show OutW _ _ _ _ _ _ _ (T29.setTop (mkF m 182 #[.val (.long q1), .second, .val (.int p2), .val (.int p3), .val (.int p4), .val (.int p5), .val (.int v1), .val (.int v2), .val (.long v3), .second, .val (.long v7), .second, .val (.int v12), .val (.int v13), .unset, .unset] [(.ref b14), (.ref b14)]))
  refine OutW.back (fun t k => XS.bipush X29.here hx rfl (hb hby at_182) k) ?_
  show OutW _ _ _ _ _ _ _ (T29.setTop (mkF m 184 #[.val (.long q1), .second, .val (.int p2), .val (.int p3), .val (.int p4), .val (.int p5), .val (.int v1), .val (.int v2), .val (.long v3), .second, .val (.long v7), .second, .val (.int v12), .val (.int v13), .unset, .unset] [(.int (15 : Int32)), (.ref b14), (.ref b14)]))
  refine OutW.back (fun t k => XS.iload X29.here hx rfl (hb hby at_184) rfl  k) ?_
  show OutW _ _ _ _ _ _ _ (T29.setTop (mkF m 186 #[.val (.long q1), .second, .val (.int p2), .val (.int p3), .val (.int p4), .val (.int p5), .val (.int v1), .val (.int v2), .val (.long v3), .second, .val (.long v7), .second, .val (.int v12), .val (.int v13), .unset, .unset] [(.int v13), (.int (15 : Int32)), (.ref b14), (.ref b14)]))
  obtain ⟨cl30, Ar30, Qk30, Sz30, Nn30, Hh30, Gg30⟩ := id V_b14_29
  have hin30 : ¬ ((15 : Int32) < 0 ∨ cl30.slots.size ≤ ((15 : Int32)).toNatClampNeg) := inb_of Sz30 ⟨by decide, by decide⟩
  obtain ⟨T30, h30, X30, e30, W30, st30⟩ := stB X29 hx hZ e29 Ar30 (j := (15 : Int32)) hin30 (g := (mkF m 186 #[.val (.long q1), .second, .val (.int p2), .val (.int p3), .val (.int p4), .val (.int p5), .val (.int v1), .val (.int v2), .val (.long v3), .second, .val (.long v7), .second, .val (.int v12), .val (.int v13), .unset, .unset] [(.int v13), (.int (15 : Int32)), (.ref b14), (.ref b14)])) rfl rfl (hb hby at_186)
  have V_b14_30 : Arv Z h30 b14 k14 .byte (16 : Int32) [(.int (nar .byte v13)), (.int (nar .byte v13)), (.int (nar .byte v13)), (.int (nar .byte v13)), (.int (nar .byte v13)), (.int (nar .byte v13)), (.int (nar .byte v13)), (.int (nar .byte v13)), (.int (nar .byte v13)), (.int (nar .byte v13)), (.int (nar .byte v13)), (.int (nar .byte v13)), (.int (nar .byte v13)), (.int (nar .byte v13)), (.int (nar .byte v13)), (.int (nar .byte v13))] (.int (0 : Int32)) := Arv.set Ar30 Qk30 Sz30 Nn30 Hh30 Gg30 (fits_nar_byte _) W30 15 rfl (Nat.le_of_ble_eq_true rfl)
  have N30 := Fr.snoc X30 N29 g_b14
  have Z30 : n0 ≤ h30.size := Nat.le_trans Z29 (Keep.of_wr W30).1
  have K30 := K29.wr W30 (Or.inr sz_b14)
  obtain ⟨lc30, X30, N30⟩ : ∃ lc, Stand p l e room_1 s m #[(.long q1), (.int p2), (.int p3), (.int p4), (.int p5)] below meth c T30 lc 1 16 ∧ Fr n0 lc := ⟨_, X30, N30⟩
  refine OutW.back st30 ?_
  show OutW _ _ _ _ _ _ _ (T30.setTop (mkF m 187 #[.val (.long q1), .second, .val (.int p2), .val (.int p3), .val (.int p4), .val (.int p5), .val (.int v1), .val (.int v2), .val (.long v3), .second, .val (.long v7), .second, .val (.int v12), .val (.int v13), .unset, .unset] [(.ref b14)]))
  refine OutW.back (fun t k => XS.astore X30.here hx rfl (hb hby at_187) rfl rfl (l' := #[.val (.long q1), .second, .val (.int p2), .val (.int p3), .val (.int p4), .val (.int p5), .val (.int v1), .val (.int v2), .val (.long v3), .second, .val (.long v7), .second, .val (.int v12), .val (.int v13), .val (.ref b14), .unset]) rfl k) ?_
  show OutW _ _ _ _ _ _ _ (T30.setTop (mkF m 189 #[.val (.long q1), .second, .val (.int p2), .val (.int p3), .val (.int p4), .val (.int p5), .val (.int v1), .val (.int v2), .val (.long v3), .second, .val (.long v7), .second, .val (.int v12), .val (.int v13), .val (.ref b14), .unset] []))
  have sp31 : v12 = (0 : Int32) ∨ v12 = (1 : Int32) ∨ v12 = (2 : Int32) ∨ v12 = (3 : Int32) ∨ v12 = (4 : Int32) ∨ v12 = (5 : Int32) ∨ v12 = (6 : Int32) ∨ v12 = (7 : Int32) := own_eight _ _ hv_v12
  rcases sp31 with rfl | rfl | rfl | rfl | rfl | rfl | rfl | rfl
  · skip
    show OutW _ _ _ _ _ _ _ (T30.setTop (mkF m 189 #[.val (.long q1), .second, .val (.int p2), .val (.int p3), .val (.int p4), .val (.int p5), .val (.int v1), .val (.int v2), .val (.long v3), .second, .val (.long v7), .second, .val (.int (0 : Int32)), .val (.int v13), .val (.ref b14), .unset] []))
    refine OutW.back (fun t k => XS.aload X30.here hx rfl (hb hby at_189) rfl rfl  k) ?_
    show OutW _ _ _ _ _ _ _ (T30.setTop (mkF m 191 #[.val (.long q1), .second, .val (.int p2), .val (.int p3), .val (.int p4), .val (.int p5), .val (.int v1), .val (.int v2), .val (.long v3), .second, .val (.long v7), .second, .val (.int (0 : Int32)), .val (.int v13), .val (.ref b14), .unset] [(.ref b14)]))
    refine OutW.back (fun t k => XS.iload X30.here hx rfl (hb hby at_191) rfl  k) ?_
    show OutW _ _ _ _ _ _ _ (T30.setTop (mkF m 193 #[.val (.long q1), .second, .val (.int p2), .val (.int p3), .val (.int p4), .val (.int p5), .val (.int v1), .val (.int v2), .val (.long v3), .second, .val (.long v7), .second, .val (.int (0 : Int32)), .val (.int v13), .val (.ref b14), .unset] [(.int (0 : Int32)), (.ref b14)]))
    refine OutW.back (fun t k => XS.lload X30.here hx rfl (hb hby at_193) rfl  k) ?_
    show OutW _ _ _ _ _ _ _ (T30.setTop (mkF m 195 #[.val (.long q1), .second, .val (.int p2), .val (.int p3), .val (.int p4), .val (.int p5), .val (.int v1), .val (.int v2), .val (.long v3), .second, .val (.long v7), .second, .val (.int (0 : Int32)), .val (.int v13), .val (.ref b14), .unset] [(.long v7), (.int (0 : Int32)), (.ref b14)]))
    refine OutW.back (fun t k => XS.l2i X30.here hx rfl (hb hby at_195) rfl k) ?_
    show OutW _ _ _ _ _ _ _ (T30.setTop (mkF m 196 #[.val (.long q1), .second, .val (.int p2), .val (.int p3), .val (.int p4), .val (.int p5), .val (.int v1), .val (.int v2), .val (.long v3), .second, .val (.long v7), .second, .val (.int (0 : Int32)), .val (.int v13), .val (.ref b14), .unset] [(.int v7.toInt32), (.int (0 : Int32)), (.ref b14)]))
    refine OutW.back (fun t k => XS.i2b X30.here hx rfl (hb hby at_196) rfl k) ?_
    show OutW _ _ _ _ _ _ _ (T30.setTop (mkF m 197 #[.val (.long q1), .second, .val (.int p2), .val (.int p3), .val (.int p4), .val (.int p5), .val (.int v1), .val (.int v2), .val (.long v3), .second, .val (.long v7), .second, .val (.int (0 : Int32)), .val (.int v13), .val (.ref b14), .unset] [(.int v7.toInt32.toInt8.toInt32), (.int (0 : Int32)), (.ref b14)]))
    generalize hv_v32 : v7.toInt32.toInt8.toInt32 = v32
    obtain ⟨cl33, Ar33, Qk33, Sz33, Nn33, Hh33, Gg33⟩ := id V_b14_30
    have hin33 : ¬ ((0 : Int32) < 0 ∨ cl33.slots.size ≤ ((0 : Int32)).toNatClampNeg) := inb_of Sz33 ⟨by decide, by decide⟩
    obtain ⟨T33, h33, X33, e33, W33, st33⟩ := stB X30 hx hZ e30 Ar33 (j := (0 : Int32)) hin33 (g := (mkF m 197 #[.val (.long q1), .second, .val (.int p2), .val (.int p3), .val (.int p4), .val (.int p5), .val (.int v1), .val (.int v2), .val (.long v3), .second, .val (.long v7), .second, .val (.int (0 : Int32)), .val (.int v13), .val (.ref b14), .unset] [(.int v32), (.int (0 : Int32)), (.ref b14)])) rfl rfl (hb hby at_197)
    have V_b14_33 : Arv Z h33 b14 k14 .byte (16 : Int32) [(.int (nar .byte v32)), (.int (nar .byte v13)), (.int (nar .byte v13)), (.int (nar .byte v13)), (.int (nar .byte v13)), (.int (nar .byte v13)), (.int (nar .byte v13)), (.int (nar .byte v13)), (.int (nar .byte v13)), (.int (nar .byte v13)), (.int (nar .byte v13)), (.int (nar .byte v13)), (.int (nar .byte v13)), (.int (nar .byte v13)), (.int (nar .byte v13)), (.int (nar .byte v13))] (.int (0 : Int32)) := Arv.set Ar33 Qk33 Sz33 Nn33 Hh33 Gg33 (fits_nar_byte _) W33 0 rfl (Nat.le_of_ble_eq_true rfl)
    have N33 := Fr.snoc X33 N30 g_b14
    have Z33 : n0 ≤ h33.size := Nat.le_trans Z30 (Keep.of_wr W33).1
    have K33 := K30.wr W33 (Or.inr sz_b14)
    obtain ⟨lc33, X33, N33⟩ : ∃ lc, Stand p l e room_1 s m #[(.long q1), (.int p2), (.int p3), (.int p4), (.int p5)] below meth c T33 lc 1 16 ∧ Fr n0 lc := ⟨_, X33, N33⟩
    refine OutW.back st33 ?_
    show OutW _ _ _ _ _ _ _ (T33.setTop (mkF m 198 #[.val (.long q1), .second, .val (.int p2), .val (.int p3), .val (.int p4), .val (.int p5), .val (.int v1), .val (.int v2), .val (.long v3), .second, .val (.long v7), .second, .val (.int (0 : Int32)), .val (.int v13), .val (.ref b14), .unset] []))
    refine OutW.back (fun t k => XS.aload X33.here hx rfl (hb hby at_198) rfl rfl  k) ?_
    show OutW _ _ _ _ _ _ _ (T33.setTop (mkF m 200 #[.val (.long q1), .second, .val (.int p2), .val (.int p3), .val (.int p4), .val (.int p5), .val (.int v1), .val (.int v2), .val (.long v3), .second, .val (.long v7), .second, .val (.int (0 : Int32)), .val (.int v13), .val (.ref b14), .unset] [(.ref b14)]))
    refine OutW.back (fun t k => XS.iload X33.here hx rfl (hb hby at_200) rfl  k) ?_
    show OutW _ _ _ _ _ _ _ (T33.setTop (mkF m 202 #[.val (.long q1), .second, .val (.int p2), .val (.int p3), .val (.int p4), .val (.int p5), .val (.int v1), .val (.int v2), .val (.long v3), .second, .val (.long v7), .second, .val (.int (0 : Int32)), .val (.int v13), .val (.ref b14), .unset] [(.int (0 : Int32)), (.ref b14)]))
    refine OutW.back (fun t k => XS.iconst X33.here hx rfl (hb hby at_202) k) ?_
    show OutW _ _ _ _ _ _ _ (T33.setTop (mkF m 203 #[.val (.long q1), .second, .val (.int p2), .val (.int p3), .val (.int p4), .val (.int p5), .val (.int v1), .val (.int v2), .val (.long v3), .second, .val (.long v7), .second, .val (.int (0 : Int32)), .val (.int v13), .val (.ref b14), .unset] [(.int (1 : Int32)), (.int (0 : Int32)), (.ref b14)]))
    refine OutW.back (fun t k => XS.iadd X33.here hx rfl (hb hby at_203) rfl k) ?_
    show OutW _ _ _ _ _ _ _ (T33.setTop (mkF m 204 #[.val (.long q1), .second, .val (.int p2), .val (.int p3), .val (.int p4), .val (.int p5), .val (.int v1), .val (.int v2), .val (.long v3), .second, .val (.long v7), .second, .val (.int (0 : Int32)), .val (.int v13), .val (.ref b14), .unset] [(.int ((0 : Int32) + (1 : Int32))), (.ref b14)]))
    rw [show ((0 : Int32) + (1 : Int32)) = (1 : Int32) from by decide]
    refine OutW.back (fun t k => XS.lload X33.here hx rfl (hb hby at_204) rfl  k) ?_
    show OutW _ _ _ _ _ _ _ (T33.setTop (mkF m 206 #[.val (.long q1), .second, .val (.int p2), .val (.int p3), .val (.int p4), .val (.int p5), .val (.int v1), .val (.int v2), .val (.long v3), .second, .val (.long v7), .second, .val (.int (0 : Int32)), .val (.int v13), .val (.ref b14), .unset] [(.long v7), (.int (1 : Int32)), (.ref b14)]))
    refine OutW.back (fun t k => XS.bipush X33.here hx rfl (hb hby at_206) k) ?_
    show OutW _ _ _ _ _ _ _ (T33.setTop (mkF m 208 #[.val (.long q1), .second, .val (.int p2), .val (.int p3), .val (.int p4), .val (.int p5), .val (.int v1), .val (.int v2), .val (.long v3), .second, .val (.long v7), .second, .val (.int (0 : Int32)), .val (.int v13), .val (.ref b14), .unset] [(.int (8 : Int32)), (.long v7), (.int (1 : Int32)), (.ref b14)]))
    refine OutW.back (fun t k => XS.lushr X33.here hx rfl (hb hby at_208) rfl k) ?_
    show OutW _ _ _ _ _ _ _ (T33.setTop (mkF m 209 #[.val (.long q1), .second, .val (.int p2), .val (.int p3), .val (.int p4), .val (.int p5), .val (.int v1), .val (.int v2), .val (.long v3), .second, .val (.long v7), .second, .val (.int (0 : Int32)), .val (.int v13), .val (.ref b14), .unset] [(.long ((v7.toUInt64 >>> ((8 : Int32) &&& 0x3f).toInt64.toUInt64).toInt64)), (.int (1 : Int32)), (.ref b14)]))
    refine OutW.back (fun t k => XS.l2i X33.here hx rfl (hb hby at_209) rfl k) ?_
    show OutW _ _ _ _ _ _ _ (T33.setTop (mkF m 210 #[.val (.long q1), .second, .val (.int p2), .val (.int p3), .val (.int p4), .val (.int p5), .val (.int v1), .val (.int v2), .val (.long v3), .second, .val (.long v7), .second, .val (.int (0 : Int32)), .val (.int v13), .val (.ref b14), .unset] [(.int ((v7.toUInt64 >>> ((8 : Int32) &&& 0x3f).toInt64.toUInt64).toInt64).toInt32), (.int (1 : Int32)), (.ref b14)]))
    refine OutW.back (fun t k => XS.i2b X33.here hx rfl (hb hby at_210) rfl k) ?_
    show OutW _ _ _ _ _ _ _ (T33.setTop (mkF m 211 #[.val (.long q1), .second, .val (.int p2), .val (.int p3), .val (.int p4), .val (.int p5), .val (.int v1), .val (.int v2), .val (.long v3), .second, .val (.long v7), .second, .val (.int (0 : Int32)), .val (.int v13), .val (.ref b14), .unset] [(.int ((v7.toUInt64 >>> ((8 : Int32) &&& 0x3f).toInt64.toUInt64).toInt64).toInt32.toInt8.toInt32), (.int (1 : Int32)), (.ref b14)]))
    generalize hv_v34 : ((v7.toUInt64 >>> ((8 : Int32) &&& 0x3f).toInt64.toUInt64).toInt64).toInt32.toInt8.toInt32 = v34
    obtain ⟨cl35, Ar35, Qk35, Sz35, Nn35, Hh35, Gg35⟩ := id V_b14_33
    have hin35 : ¬ ((1 : Int32) < 0 ∨ cl35.slots.size ≤ ((1 : Int32)).toNatClampNeg) := inb_of Sz35 ⟨by decide, by decide⟩
    obtain ⟨T35, h35, X35, e35, W35, st35⟩ := stB X33 hx hZ e33 Ar35 (j := (1 : Int32)) hin35 (g := (mkF m 211 #[.val (.long q1), .second, .val (.int p2), .val (.int p3), .val (.int p4), .val (.int p5), .val (.int v1), .val (.int v2), .val (.long v3), .second, .val (.long v7), .second, .val (.int (0 : Int32)), .val (.int v13), .val (.ref b14), .unset] [(.int v34), (.int (1 : Int32)), (.ref b14)])) rfl rfl (hb hby at_211)
    have V_b14_35 : Arv Z h35 b14 k14 .byte (16 : Int32) [(.int (nar .byte v32)), (.int (nar .byte v34)), (.int (nar .byte v13)), (.int (nar .byte v13)), (.int (nar .byte v13)), (.int (nar .byte v13)), (.int (nar .byte v13)), (.int (nar .byte v13)), (.int (nar .byte v13)), (.int (nar .byte v13)), (.int (nar .byte v13)), (.int (nar .byte v13)), (.int (nar .byte v13)), (.int (nar .byte v13)), (.int (nar .byte v13)), (.int (nar .byte v13))] (.int (0 : Int32)) := Arv.set Ar35 Qk35 Sz35 Nn35 Hh35 Gg35 (fits_nar_byte _) W35 1 rfl (Nat.le_of_ble_eq_true rfl)
    have N35 := Fr.snoc X35 N33 g_b14
    have Z35 : n0 ≤ h35.size := Nat.le_trans Z33 (Keep.of_wr W35).1
    have K35 := K33.wr W35 (Or.inr sz_b14)
    obtain ⟨lc35, X35, N35⟩ : ∃ lc, Stand p l e room_1 s m #[(.long q1), (.int p2), (.int p3), (.int p4), (.int p5)] below meth c T35 lc 1 16 ∧ Fr n0 lc := ⟨_, X35, N35⟩
    refine OutW.back st35 ?_
    show OutW _ _ _ _ _ _ _ (T35.setTop (mkF m 212 #[.val (.long q1), .second, .val (.int p2), .val (.int p3), .val (.int p4), .val (.int p5), .val (.int v1), .val (.int v2), .val (.long v3), .second, .val (.long v7), .second, .val (.int (0 : Int32)), .val (.int v13), .val (.ref b14), .unset] []))
    refine OutW.back (fun t k => XS.aload X35.here hx rfl (hb hby at_212) rfl rfl  k) ?_
    show OutW _ _ _ _ _ _ _ (T35.setTop (mkF m 214 #[.val (.long q1), .second, .val (.int p2), .val (.int p3), .val (.int p4), .val (.int p5), .val (.int v1), .val (.int v2), .val (.long v3), .second, .val (.long v7), .second, .val (.int (0 : Int32)), .val (.int v13), .val (.ref b14), .unset] [(.ref b14)]))
    refine OutW.back (fun t k => XS.iload X35.here hx rfl (hb hby at_214) rfl  k) ?_
    show OutW _ _ _ _ _ _ _ (T35.setTop (mkF m 216 #[.val (.long q1), .second, .val (.int p2), .val (.int p3), .val (.int p4), .val (.int p5), .val (.int v1), .val (.int v2), .val (.long v3), .second, .val (.long v7), .second, .val (.int (0 : Int32)), .val (.int v13), .val (.ref b14), .unset] [(.int (0 : Int32)), (.ref b14)]))
    refine OutW.back (fun t k => XS.iconst X35.here hx rfl (hb hby at_216) k) ?_
    show OutW _ _ _ _ _ _ _ (T35.setTop (mkF m 217 #[.val (.long q1), .second, .val (.int p2), .val (.int p3), .val (.int p4), .val (.int p5), .val (.int v1), .val (.int v2), .val (.long v3), .second, .val (.long v7), .second, .val (.int (0 : Int32)), .val (.int v13), .val (.ref b14), .unset] [(.int (2 : Int32)), (.int (0 : Int32)), (.ref b14)]))
    refine OutW.back (fun t k => XS.iadd X35.here hx rfl (hb hby at_217) rfl k) ?_
    show OutW _ _ _ _ _ _ _ (T35.setTop (mkF m 218 #[.val (.long q1), .second, .val (.int p2), .val (.int p3), .val (.int p4), .val (.int p5), .val (.int v1), .val (.int v2), .val (.long v3), .second, .val (.long v7), .second, .val (.int (0 : Int32)), .val (.int v13), .val (.ref b14), .unset] [(.int ((0 : Int32) + (2 : Int32))), (.ref b14)]))
    rw [show ((0 : Int32) + (2 : Int32)) = (2 : Int32) from by decide]
    refine OutW.back (fun t k => XS.lload X35.here hx rfl (hb hby at_218) rfl  k) ?_
    show OutW _ _ _ _ _ _ _ (T35.setTop (mkF m 220 #[.val (.long q1), .second, .val (.int p2), .val (.int p3), .val (.int p4), .val (.int p5), .val (.int v1), .val (.int v2), .val (.long v3), .second, .val (.long v7), .second, .val (.int (0 : Int32)), .val (.int v13), .val (.ref b14), .unset] [(.long v7), (.int (2 : Int32)), (.ref b14)]))
    refine OutW.back (fun t k => XS.bipush X35.here hx rfl (hb hby at_220) k) ?_
    show OutW _ _ _ _ _ _ _ (T35.setTop (mkF m 222 #[.val (.long q1), .second, .val (.int p2), .val (.int p3), .val (.int p4), .val (.int p5), .val (.int v1), .val (.int v2), .val (.long v3), .second, .val (.long v7), .second, .val (.int (0 : Int32)), .val (.int v13), .val (.ref b14), .unset] [(.int (16 : Int32)), (.long v7), (.int (2 : Int32)), (.ref b14)]))
    refine OutW.back (fun t k => XS.lushr X35.here hx rfl (hb hby at_222) rfl k) ?_
    show OutW _ _ _ _ _ _ _ (T35.setTop (mkF m 223 #[.val (.long q1), .second, .val (.int p2), .val (.int p3), .val (.int p4), .val (.int p5), .val (.int v1), .val (.int v2), .val (.long v3), .second, .val (.long v7), .second, .val (.int (0 : Int32)), .val (.int v13), .val (.ref b14), .unset] [(.long ((v7.toUInt64 >>> ((16 : Int32) &&& 0x3f).toInt64.toUInt64).toInt64)), (.int (2 : Int32)), (.ref b14)]))
    refine OutW.back (fun t k => XS.l2i X35.here hx rfl (hb hby at_223) rfl k) ?_
    show OutW _ _ _ _ _ _ _ (T35.setTop (mkF m 224 #[.val (.long q1), .second, .val (.int p2), .val (.int p3), .val (.int p4), .val (.int p5), .val (.int v1), .val (.int v2), .val (.long v3), .second, .val (.long v7), .second, .val (.int (0 : Int32)), .val (.int v13), .val (.ref b14), .unset] [(.int ((v7.toUInt64 >>> ((16 : Int32) &&& 0x3f).toInt64.toUInt64).toInt64).toInt32), (.int (2 : Int32)), (.ref b14)]))
    refine OutW.back (fun t k => XS.i2b X35.here hx rfl (hb hby at_224) rfl k) ?_
    show OutW _ _ _ _ _ _ _ (T35.setTop (mkF m 225 #[.val (.long q1), .second, .val (.int p2), .val (.int p3), .val (.int p4), .val (.int p5), .val (.int v1), .val (.int v2), .val (.long v3), .second, .val (.long v7), .second, .val (.int (0 : Int32)), .val (.int v13), .val (.ref b14), .unset] [(.int ((v7.toUInt64 >>> ((16 : Int32) &&& 0x3f).toInt64.toUInt64).toInt64).toInt32.toInt8.toInt32), (.int (2 : Int32)), (.ref b14)]))
    generalize hv_v36 : ((v7.toUInt64 >>> ((16 : Int32) &&& 0x3f).toInt64.toUInt64).toInt64).toInt32.toInt8.toInt32 = v36
    obtain ⟨cl37, Ar37, Qk37, Sz37, Nn37, Hh37, Gg37⟩ := id V_b14_35
    have hin37 : ¬ ((2 : Int32) < 0 ∨ cl37.slots.size ≤ ((2 : Int32)).toNatClampNeg) := inb_of Sz37 ⟨by decide, by decide⟩
    obtain ⟨T37, h37, X37, e37, W37, st37⟩ := stB X35 hx hZ e35 Ar37 (j := (2 : Int32)) hin37 (g := (mkF m 225 #[.val (.long q1), .second, .val (.int p2), .val (.int p3), .val (.int p4), .val (.int p5), .val (.int v1), .val (.int v2), .val (.long v3), .second, .val (.long v7), .second, .val (.int (0 : Int32)), .val (.int v13), .val (.ref b14), .unset] [(.int v36), (.int (2 : Int32)), (.ref b14)])) rfl rfl (hb hby at_225)
    have V_b14_37 : Arv Z h37 b14 k14 .byte (16 : Int32) [(.int (nar .byte v32)), (.int (nar .byte v34)), (.int (nar .byte v36)), (.int (nar .byte v13)), (.int (nar .byte v13)), (.int (nar .byte v13)), (.int (nar .byte v13)), (.int (nar .byte v13)), (.int (nar .byte v13)), (.int (nar .byte v13)), (.int (nar .byte v13)), (.int (nar .byte v13)), (.int (nar .byte v13)), (.int (nar .byte v13)), (.int (nar .byte v13)), (.int (nar .byte v13))] (.int (0 : Int32)) := Arv.set Ar37 Qk37 Sz37 Nn37 Hh37 Gg37 (fits_nar_byte _) W37 2 rfl (Nat.le_of_ble_eq_true rfl)
    have N37 := Fr.snoc X37 N35 g_b14
    have Z37 : n0 ≤ h37.size := Nat.le_trans Z35 (Keep.of_wr W37).1
    have K37 := K35.wr W37 (Or.inr sz_b14)
    obtain ⟨lc37, X37, N37⟩ : ∃ lc, Stand p l e room_1 s m #[(.long q1), (.int p2), (.int p3), (.int p4), (.int p5)] below meth c T37 lc 1 16 ∧ Fr n0 lc := ⟨_, X37, N37⟩
    refine OutW.back st37 ?_
    show OutW _ _ _ _ _ _ _ (T37.setTop (mkF m 226 #[.val (.long q1), .second, .val (.int p2), .val (.int p3), .val (.int p4), .val (.int p5), .val (.int v1), .val (.int v2), .val (.long v3), .second, .val (.long v7), .second, .val (.int (0 : Int32)), .val (.int v13), .val (.ref b14), .unset] []))
    refine OutW.back (fun t k => XS.aload X37.here hx rfl (hb hby at_226) rfl rfl  k) ?_
    show OutW _ _ _ _ _ _ _ (T37.setTop (mkF m 228 #[.val (.long q1), .second, .val (.int p2), .val (.int p3), .val (.int p4), .val (.int p5), .val (.int v1), .val (.int v2), .val (.long v3), .second, .val (.long v7), .second, .val (.int (0 : Int32)), .val (.int v13), .val (.ref b14), .unset] [(.ref b14)]))
    refine OutW.back (fun t k => XS.iload X37.here hx rfl (hb hby at_228) rfl  k) ?_
    show OutW _ _ _ _ _ _ _ (T37.setTop (mkF m 230 #[.val (.long q1), .second, .val (.int p2), .val (.int p3), .val (.int p4), .val (.int p5), .val (.int v1), .val (.int v2), .val (.long v3), .second, .val (.long v7), .second, .val (.int (0 : Int32)), .val (.int v13), .val (.ref b14), .unset] [(.int (0 : Int32)), (.ref b14)]))
    refine OutW.back (fun t k => XS.iconst X37.here hx rfl (hb hby at_230) k) ?_
    show OutW _ _ _ _ _ _ _ (T37.setTop (mkF m 231 #[.val (.long q1), .second, .val (.int p2), .val (.int p3), .val (.int p4), .val (.int p5), .val (.int v1), .val (.int v2), .val (.long v3), .second, .val (.long v7), .second, .val (.int (0 : Int32)), .val (.int v13), .val (.ref b14), .unset] [(.int (3 : Int32)), (.int (0 : Int32)), (.ref b14)]))
    refine OutW.back (fun t k => XS.iadd X37.here hx rfl (hb hby at_231) rfl k) ?_
    show OutW _ _ _ _ _ _ _ (T37.setTop (mkF m 232 #[.val (.long q1), .second, .val (.int p2), .val (.int p3), .val (.int p4), .val (.int p5), .val (.int v1), .val (.int v2), .val (.long v3), .second, .val (.long v7), .second, .val (.int (0 : Int32)), .val (.int v13), .val (.ref b14), .unset] [(.int ((0 : Int32) + (3 : Int32))), (.ref b14)]))
    rw [show ((0 : Int32) + (3 : Int32)) = (3 : Int32) from by decide]
    refine OutW.back (fun t k => XS.lload X37.here hx rfl (hb hby at_232) rfl  k) ?_
    show OutW _ _ _ _ _ _ _ (T37.setTop (mkF m 234 #[.val (.long q1), .second, .val (.int p2), .val (.int p3), .val (.int p4), .val (.int p5), .val (.int v1), .val (.int v2), .val (.long v3), .second, .val (.long v7), .second, .val (.int (0 : Int32)), .val (.int v13), .val (.ref b14), .unset] [(.long v7), (.int (3 : Int32)), (.ref b14)]))
    refine OutW.back (fun t k => XS.bipush X37.here hx rfl (hb hby at_234) k) ?_
    show OutW _ _ _ _ _ _ _ (T37.setTop (mkF m 236 #[.val (.long q1), .second, .val (.int p2), .val (.int p3), .val (.int p4), .val (.int p5), .val (.int v1), .val (.int v2), .val (.long v3), .second, .val (.long v7), .second, .val (.int (0 : Int32)), .val (.int v13), .val (.ref b14), .unset] [(.int (24 : Int32)), (.long v7), (.int (3 : Int32)), (.ref b14)]))
    refine OutW.back (fun t k => XS.lushr X37.here hx rfl (hb hby at_236) rfl k) ?_
    show OutW _ _ _ _ _ _ _ (T37.setTop (mkF m 237 #[.val (.long q1), .second, .val (.int p2), .val (.int p3), .val (.int p4), .val (.int p5), .val (.int v1), .val (.int v2), .val (.long v3), .second, .val (.long v7), .second, .val (.int (0 : Int32)), .val (.int v13), .val (.ref b14), .unset] [(.long ((v7.toUInt64 >>> ((24 : Int32) &&& 0x3f).toInt64.toUInt64).toInt64)), (.int (3 : Int32)), (.ref b14)]))
    refine OutW.back (fun t k => XS.l2i X37.here hx rfl (hb hby at_237) rfl k) ?_
    show OutW _ _ _ _ _ _ _ (T37.setTop (mkF m 238 #[.val (.long q1), .second, .val (.int p2), .val (.int p3), .val (.int p4), .val (.int p5), .val (.int v1), .val (.int v2), .val (.long v3), .second, .val (.long v7), .second, .val (.int (0 : Int32)), .val (.int v13), .val (.ref b14), .unset] [(.int ((v7.toUInt64 >>> ((24 : Int32) &&& 0x3f).toInt64.toUInt64).toInt64).toInt32), (.int (3 : Int32)), (.ref b14)]))
    refine OutW.back (fun t k => XS.i2b X37.here hx rfl (hb hby at_238) rfl k) ?_
    show OutW _ _ _ _ _ _ _ (T37.setTop (mkF m 239 #[.val (.long q1), .second, .val (.int p2), .val (.int p3), .val (.int p4), .val (.int p5), .val (.int v1), .val (.int v2), .val (.long v3), .second, .val (.long v7), .second, .val (.int (0 : Int32)), .val (.int v13), .val (.ref b14), .unset] [(.int ((v7.toUInt64 >>> ((24 : Int32) &&& 0x3f).toInt64.toUInt64).toInt64).toInt32.toInt8.toInt32), (.int (3 : Int32)), (.ref b14)]))
    generalize hv_v38 : ((v7.toUInt64 >>> ((24 : Int32) &&& 0x3f).toInt64.toUInt64).toInt64).toInt32.toInt8.toInt32 = v38
    obtain ⟨cl39, Ar39, Qk39, Sz39, Nn39, Hh39, Gg39⟩ := id V_b14_37
    have hin39 : ¬ ((3 : Int32) < 0 ∨ cl39.slots.size ≤ ((3 : Int32)).toNatClampNeg) := inb_of Sz39 ⟨by decide, by decide⟩
    obtain ⟨T39, h39, X39, e39, W39, st39⟩ := stB X37 hx hZ e37 Ar39 (j := (3 : Int32)) hin39 (g := (mkF m 239 #[.val (.long q1), .second, .val (.int p2), .val (.int p3), .val (.int p4), .val (.int p5), .val (.int v1), .val (.int v2), .val (.long v3), .second, .val (.long v7), .second, .val (.int (0 : Int32)), .val (.int v13), .val (.ref b14), .unset] [(.int v38), (.int (3 : Int32)), (.ref b14)])) rfl rfl (hb hby at_239)
    have V_b14_39 : Arv Z h39 b14 k14 .byte (16 : Int32) [(.int (nar .byte v32)), (.int (nar .byte v34)), (.int (nar .byte v36)), (.int (nar .byte v38)), (.int (nar .byte v13)), (.int (nar .byte v13)), (.int (nar .byte v13)), (.int (nar .byte v13)), (.int (nar .byte v13)), (.int (nar .byte v13)), (.int (nar .byte v13)), (.int (nar .byte v13)), (.int (nar .byte v13)), (.int (nar .byte v13)), (.int (nar .byte v13)), (.int (nar .byte v13))] (.int (0 : Int32)) := Arv.set Ar39 Qk39 Sz39 Nn39 Hh39 Gg39 (fits_nar_byte _) W39 3 rfl (Nat.le_of_ble_eq_true rfl)
    have N39 := Fr.snoc X39 N37 g_b14
    have Z39 : n0 ≤ h39.size := Nat.le_trans Z37 (Keep.of_wr W39).1
    have K39 := K37.wr W39 (Or.inr sz_b14)
    obtain ⟨lc39, X39, N39⟩ : ∃ lc, Stand p l e room_1 s m #[(.long q1), (.int p2), (.int p3), (.int p4), (.int p5)] below meth c T39 lc 1 16 ∧ Fr n0 lc := ⟨_, X39, N39⟩
    refine OutW.back st39 ?_
    show OutW _ _ _ _ _ _ _ (T39.setTop (mkF m 240 #[.val (.long q1), .second, .val (.int p2), .val (.int p3), .val (.int p4), .val (.int p5), .val (.int v1), .val (.int v2), .val (.long v3), .second, .val (.long v7), .second, .val (.int (0 : Int32)), .val (.int v13), .val (.ref b14), .unset] []))
    refine OutW.back (fun t k => XS.aload X39.here hx rfl (hb hby at_240) rfl rfl  k) ?_
    show OutW _ _ _ _ _ _ _ (T39.setTop (mkF m 242 #[.val (.long q1), .second, .val (.int p2), .val (.int p3), .val (.int p4), .val (.int p5), .val (.int v1), .val (.int v2), .val (.long v3), .second, .val (.long v7), .second, .val (.int (0 : Int32)), .val (.int v13), .val (.ref b14), .unset] [(.ref b14)]))
    refine OutW.back (fun t k => XS.iload X39.here hx rfl (hb hby at_242) rfl  k) ?_
    show OutW _ _ _ _ _ _ _ (T39.setTop (mkF m 244 #[.val (.long q1), .second, .val (.int p2), .val (.int p3), .val (.int p4), .val (.int p5), .val (.int v1), .val (.int v2), .val (.long v3), .second, .val (.long v7), .second, .val (.int (0 : Int32)), .val (.int v13), .val (.ref b14), .unset] [(.int (0 : Int32)), (.ref b14)]))
    refine OutW.back (fun t k => XS.iconst X39.here hx rfl (hb hby at_244) k) ?_
    show OutW _ _ _ _ _ _ _ (T39.setTop (mkF m 245 #[.val (.long q1), .second, .val (.int p2), .val (.int p3), .val (.int p4), .val (.int p5), .val (.int v1), .val (.int v2), .val (.long v3), .second, .val (.long v7), .second, .val (.int (0 : Int32)), .val (.int v13), .val (.ref b14), .unset] [(.int (4 : Int32)), (.int (0 : Int32)), (.ref b14)]))
    refine OutW.back (fun t k => XS.iadd X39.here hx rfl (hb hby at_245) rfl k) ?_
    show OutW _ _ _ _ _ _ _ (T39.setTop (mkF m 246 #[.val (.long q1), .second, .val (.int p2), .val (.int p3), .val (.int p4), .val (.int p5), .val (.int v1), .val (.int v2), .val (.long v3), .second, .val (.long v7), .second, .val (.int (0 : Int32)), .val (.int v13), .val (.ref b14), .unset] [(.int ((0 : Int32) + (4 : Int32))), (.ref b14)]))
    rw [show ((0 : Int32) + (4 : Int32)) = (4 : Int32) from by decide]
    refine OutW.back (fun t k => XS.lload X39.here hx rfl (hb hby at_246) rfl  k) ?_
    show OutW _ _ _ _ _ _ _ (T39.setTop (mkF m 248 #[.val (.long q1), .second, .val (.int p2), .val (.int p3), .val (.int p4), .val (.int p5), .val (.int v1), .val (.int v2), .val (.long v3), .second, .val (.long v7), .second, .val (.int (0 : Int32)), .val (.int v13), .val (.ref b14), .unset] [(.long v7), (.int (4 : Int32)), (.ref b14)]))
    refine OutW.back (fun t k => XS.bipush X39.here hx rfl (hb hby at_248) k) ?_
    show OutW _ _ _ _ _ _ _ (T39.setTop (mkF m 250 #[.val (.long q1), .second, .val (.int p2), .val (.int p3), .val (.int p4), .val (.int p5), .val (.int v1), .val (.int v2), .val (.long v3), .second, .val (.long v7), .second, .val (.int (0 : Int32)), .val (.int v13), .val (.ref b14), .unset] [(.int (32 : Int32)), (.long v7), (.int (4 : Int32)), (.ref b14)]))
    refine OutW.back (fun t k => XS.lushr X39.here hx rfl (hb hby at_250) rfl k) ?_
    show OutW _ _ _ _ _ _ _ (T39.setTop (mkF m 251 #[.val (.long q1), .second, .val (.int p2), .val (.int p3), .val (.int p4), .val (.int p5), .val (.int v1), .val (.int v2), .val (.long v3), .second, .val (.long v7), .second, .val (.int (0 : Int32)), .val (.int v13), .val (.ref b14), .unset] [(.long ((v7.toUInt64 >>> ((32 : Int32) &&& 0x3f).toInt64.toUInt64).toInt64)), (.int (4 : Int32)), (.ref b14)]))
    refine OutW.back (fun t k => XS.l2i X39.here hx rfl (hb hby at_251) rfl k) ?_
    show OutW _ _ _ _ _ _ _ (T39.setTop (mkF m 252 #[.val (.long q1), .second, .val (.int p2), .val (.int p3), .val (.int p4), .val (.int p5), .val (.int v1), .val (.int v2), .val (.long v3), .second, .val (.long v7), .second, .val (.int (0 : Int32)), .val (.int v13), .val (.ref b14), .unset] [(.int ((v7.toUInt64 >>> ((32 : Int32) &&& 0x3f).toInt64.toUInt64).toInt64).toInt32), (.int (4 : Int32)), (.ref b14)]))
    refine OutW.back (fun t k => XS.i2b X39.here hx rfl (hb hby at_252) rfl k) ?_
    show OutW _ _ _ _ _ _ _ (T39.setTop (mkF m 253 #[.val (.long q1), .second, .val (.int p2), .val (.int p3), .val (.int p4), .val (.int p5), .val (.int v1), .val (.int v2), .val (.long v3), .second, .val (.long v7), .second, .val (.int (0 : Int32)), .val (.int v13), .val (.ref b14), .unset] [(.int ((v7.toUInt64 >>> ((32 : Int32) &&& 0x3f).toInt64.toUInt64).toInt64).toInt32.toInt8.toInt32), (.int (4 : Int32)), (.ref b14)]))
    generalize hv_v40 : ((v7.toUInt64 >>> ((32 : Int32) &&& 0x3f).toInt64.toUInt64).toInt64).toInt32.toInt8.toInt32 = v40
    obtain ⟨cl41, Ar41, Qk41, Sz41, Nn41, Hh41, Gg41⟩ := id V_b14_39
    have hin41 : ¬ ((4 : Int32) < 0 ∨ cl41.slots.size ≤ ((4 : Int32)).toNatClampNeg) := inb_of Sz41 ⟨by decide, by decide⟩
    obtain ⟨T41, h41, X41, e41, W41, st41⟩ := stB X39 hx hZ e39 Ar41 (j := (4 : Int32)) hin41 (g := (mkF m 253 #[.val (.long q1), .second, .val (.int p2), .val (.int p3), .val (.int p4), .val (.int p5), .val (.int v1), .val (.int v2), .val (.long v3), .second, .val (.long v7), .second, .val (.int (0 : Int32)), .val (.int v13), .val (.ref b14), .unset] [(.int v40), (.int (4 : Int32)), (.ref b14)])) rfl rfl (hb hby at_253)
    have V_b14_41 : Arv Z h41 b14 k14 .byte (16 : Int32) [(.int (nar .byte v32)), (.int (nar .byte v34)), (.int (nar .byte v36)), (.int (nar .byte v38)), (.int (nar .byte v40)), (.int (nar .byte v13)), (.int (nar .byte v13)), (.int (nar .byte v13)), (.int (nar .byte v13)), (.int (nar .byte v13)), (.int (nar .byte v13)), (.int (nar .byte v13)), (.int (nar .byte v13)), (.int (nar .byte v13)), (.int (nar .byte v13)), (.int (nar .byte v13))] (.int (0 : Int32)) := Arv.set Ar41 Qk41 Sz41 Nn41 Hh41 Gg41 (fits_nar_byte _) W41 4 rfl (Nat.le_of_ble_eq_true rfl)
    have N41 := Fr.snoc X41 N39 g_b14
    have Z41 : n0 ≤ h41.size := Nat.le_trans Z39 (Keep.of_wr W41).1
    have K41 := K39.wr W41 (Or.inr sz_b14)
    obtain ⟨lc41, X41, N41⟩ : ∃ lc, Stand p l e room_1 s m #[(.long q1), (.int p2), (.int p3), (.int p4), (.int p5)] below meth c T41 lc 1 16 ∧ Fr n0 lc := ⟨_, X41, N41⟩
    refine OutW.back st41 ?_
    show OutW _ _ _ _ _ _ _ (T41.setTop (mkF m 254 #[.val (.long q1), .second, .val (.int p2), .val (.int p3), .val (.int p4), .val (.int p5), .val (.int v1), .val (.int v2), .val (.long v3), .second, .val (.long v7), .second, .val (.int (0 : Int32)), .val (.int v13), .val (.ref b14), .unset] []))
    refine OutW.back (fun t k => XS.aload X41.here hx rfl (hb hby at_254) rfl rfl  k) ?_
    show OutW _ _ _ _ _ _ _ (T41.setTop (mkF m 256 #[.val (.long q1), .second, .val (.int p2), .val (.int p3), .val (.int p4), .val (.int p5), .val (.int v1), .val (.int v2), .val (.long v3), .second, .val (.long v7), .second, .val (.int (0 : Int32)), .val (.int v13), .val (.ref b14), .unset] [(.ref b14)]))
    refine OutW.back (fun t k => XS.iload X41.here hx rfl (hb hby at_256) rfl  k) ?_
    show OutW _ _ _ _ _ _ _ (T41.setTop (mkF m 258 #[.val (.long q1), .second, .val (.int p2), .val (.int p3), .val (.int p4), .val (.int p5), .val (.int v1), .val (.int v2), .val (.long v3), .second, .val (.long v7), .second, .val (.int (0 : Int32)), .val (.int v13), .val (.ref b14), .unset] [(.int (0 : Int32)), (.ref b14)]))
    refine OutW.back (fun t k => XS.iconst X41.here hx rfl (hb hby at_258) k) ?_
    show OutW _ _ _ _ _ _ _ (T41.setTop (mkF m 259 #[.val (.long q1), .second, .val (.int p2), .val (.int p3), .val (.int p4), .val (.int p5), .val (.int v1), .val (.int v2), .val (.long v3), .second, .val (.long v7), .second, .val (.int (0 : Int32)), .val (.int v13), .val (.ref b14), .unset] [(.int (5 : Int32)), (.int (0 : Int32)), (.ref b14)]))
    refine OutW.back (fun t k => XS.iadd X41.here hx rfl (hb hby at_259) rfl k) ?_
    show OutW _ _ _ _ _ _ _ (T41.setTop (mkF m 260 #[.val (.long q1), .second, .val (.int p2), .val (.int p3), .val (.int p4), .val (.int p5), .val (.int v1), .val (.int v2), .val (.long v3), .second, .val (.long v7), .second, .val (.int (0 : Int32)), .val (.int v13), .val (.ref b14), .unset] [(.int ((0 : Int32) + (5 : Int32))), (.ref b14)]))
    rw [show ((0 : Int32) + (5 : Int32)) = (5 : Int32) from by decide]
    refine OutW.back (fun t k => XS.lload X41.here hx rfl (hb hby at_260) rfl  k) ?_
    show OutW _ _ _ _ _ _ _ (T41.setTop (mkF m 262 #[.val (.long q1), .second, .val (.int p2), .val (.int p3), .val (.int p4), .val (.int p5), .val (.int v1), .val (.int v2), .val (.long v3), .second, .val (.long v7), .second, .val (.int (0 : Int32)), .val (.int v13), .val (.ref b14), .unset] [(.long v7), (.int (5 : Int32)), (.ref b14)]))
    refine OutW.back (fun t k => XS.bipush X41.here hx rfl (hb hby at_262) k) ?_
    show OutW _ _ _ _ _ _ _ (T41.setTop (mkF m 264 #[.val (.long q1), .second, .val (.int p2), .val (.int p3), .val (.int p4), .val (.int p5), .val (.int v1), .val (.int v2), .val (.long v3), .second, .val (.long v7), .second, .val (.int (0 : Int32)), .val (.int v13), .val (.ref b14), .unset] [(.int (40 : Int32)), (.long v7), (.int (5 : Int32)), (.ref b14)]))
    refine OutW.back (fun t k => XS.lushr X41.here hx rfl (hb hby at_264) rfl k) ?_
    show OutW _ _ _ _ _ _ _ (T41.setTop (mkF m 265 #[.val (.long q1), .second, .val (.int p2), .val (.int p3), .val (.int p4), .val (.int p5), .val (.int v1), .val (.int v2), .val (.long v3), .second, .val (.long v7), .second, .val (.int (0 : Int32)), .val (.int v13), .val (.ref b14), .unset] [(.long ((v7.toUInt64 >>> ((40 : Int32) &&& 0x3f).toInt64.toUInt64).toInt64)), (.int (5 : Int32)), (.ref b14)]))
    refine OutW.back (fun t k => XS.l2i X41.here hx rfl (hb hby at_265) rfl k) ?_
    show OutW _ _ _ _ _ _ _ (T41.setTop (mkF m 266 #[.val (.long q1), .second, .val (.int p2), .val (.int p3), .val (.int p4), .val (.int p5), .val (.int v1), .val (.int v2), .val (.long v3), .second, .val (.long v7), .second, .val (.int (0 : Int32)), .val (.int v13), .val (.ref b14), .unset] [(.int ((v7.toUInt64 >>> ((40 : Int32) &&& 0x3f).toInt64.toUInt64).toInt64).toInt32), (.int (5 : Int32)), (.ref b14)]))
    refine OutW.back (fun t k => XS.i2b X41.here hx rfl (hb hby at_266) rfl k) ?_
    show OutW _ _ _ _ _ _ _ (T41.setTop (mkF m 267 #[.val (.long q1), .second, .val (.int p2), .val (.int p3), .val (.int p4), .val (.int p5), .val (.int v1), .val (.int v2), .val (.long v3), .second, .val (.long v7), .second, .val (.int (0 : Int32)), .val (.int v13), .val (.ref b14), .unset] [(.int ((v7.toUInt64 >>> ((40 : Int32) &&& 0x3f).toInt64.toUInt64).toInt64).toInt32.toInt8.toInt32), (.int (5 : Int32)), (.ref b14)]))
    generalize hv_v42 : ((v7.toUInt64 >>> ((40 : Int32) &&& 0x3f).toInt64.toUInt64).toInt64).toInt32.toInt8.toInt32 = v42
    obtain ⟨cl43, Ar43, Qk43, Sz43, Nn43, Hh43, Gg43⟩ := id V_b14_41
    have hin43 : ¬ ((5 : Int32) < 0 ∨ cl43.slots.size ≤ ((5 : Int32)).toNatClampNeg) := inb_of Sz43 ⟨by decide, by decide⟩
    obtain ⟨T43, h43, X43, e43, W43, st43⟩ := stB X41 hx hZ e41 Ar43 (j := (5 : Int32)) hin43 (g := (mkF m 267 #[.val (.long q1), .second, .val (.int p2), .val (.int p3), .val (.int p4), .val (.int p5), .val (.int v1), .val (.int v2), .val (.long v3), .second, .val (.long v7), .second, .val (.int (0 : Int32)), .val (.int v13), .val (.ref b14), .unset] [(.int v42), (.int (5 : Int32)), (.ref b14)])) rfl rfl (hb hby at_267)
    have V_b14_43 : Arv Z h43 b14 k14 .byte (16 : Int32) [(.int (nar .byte v32)), (.int (nar .byte v34)), (.int (nar .byte v36)), (.int (nar .byte v38)), (.int (nar .byte v40)), (.int (nar .byte v42)), (.int (nar .byte v13)), (.int (nar .byte v13)), (.int (nar .byte v13)), (.int (nar .byte v13)), (.int (nar .byte v13)), (.int (nar .byte v13)), (.int (nar .byte v13)), (.int (nar .byte v13)), (.int (nar .byte v13)), (.int (nar .byte v13))] (.int (0 : Int32)) := Arv.set Ar43 Qk43 Sz43 Nn43 Hh43 Gg43 (fits_nar_byte _) W43 5 rfl (Nat.le_of_ble_eq_true rfl)
    have N43 := Fr.snoc X43 N41 g_b14
    have Z43 : n0 ≤ h43.size := Nat.le_trans Z41 (Keep.of_wr W43).1
    have K43 := K41.wr W43 (Or.inr sz_b14)
    obtain ⟨lc43, X43, N43⟩ : ∃ lc, Stand p l e room_1 s m #[(.long q1), (.int p2), (.int p3), (.int p4), (.int p5)] below meth c T43 lc 1 16 ∧ Fr n0 lc := ⟨_, X43, N43⟩
    refine OutW.back st43 ?_
    show OutW _ _ _ _ _ _ _ (T43.setTop (mkF m 268 #[.val (.long q1), .second, .val (.int p2), .val (.int p3), .val (.int p4), .val (.int p5), .val (.int v1), .val (.int v2), .val (.long v3), .second, .val (.long v7), .second, .val (.int (0 : Int32)), .val (.int v13), .val (.ref b14), .unset] []))
    refine OutW.back (fun t k => XS.aload X43.here hx rfl (hb hby at_268) rfl rfl  k) ?_
    show OutW _ _ _ _ _ _ _ (T43.setTop (mkF m 270 #[.val (.long q1), .second, .val (.int p2), .val (.int p3), .val (.int p4), .val (.int p5), .val (.int v1), .val (.int v2), .val (.long v3), .second, .val (.long v7), .second, .val (.int (0 : Int32)), .val (.int v13), .val (.ref b14), .unset] [(.ref b14)]))
    refine OutW.back (fun t k => XS.iload X43.here hx rfl (hb hby at_270) rfl  k) ?_
    show OutW _ _ _ _ _ _ _ (T43.setTop (mkF m 272 #[.val (.long q1), .second, .val (.int p2), .val (.int p3), .val (.int p4), .val (.int p5), .val (.int v1), .val (.int v2), .val (.long v3), .second, .val (.long v7), .second, .val (.int (0 : Int32)), .val (.int v13), .val (.ref b14), .unset] [(.int (0 : Int32)), (.ref b14)]))
    refine OutW.back (fun t k => XS.bipush X43.here hx rfl (hb hby at_272) k) ?_
    show OutW _ _ _ _ _ _ _ (T43.setTop (mkF m 274 #[.val (.long q1), .second, .val (.int p2), .val (.int p3), .val (.int p4), .val (.int p5), .val (.int v1), .val (.int v2), .val (.long v3), .second, .val (.long v7), .second, .val (.int (0 : Int32)), .val (.int v13), .val (.ref b14), .unset] [(.int (6 : Int32)), (.int (0 : Int32)), (.ref b14)]))
    refine OutW.back (fun t k => XS.iadd X43.here hx rfl (hb hby at_274) rfl k) ?_
    show OutW _ _ _ _ _ _ _ (T43.setTop (mkF m 275 #[.val (.long q1), .second, .val (.int p2), .val (.int p3), .val (.int p4), .val (.int p5), .val (.int v1), .val (.int v2), .val (.long v3), .second, .val (.long v7), .second, .val (.int (0 : Int32)), .val (.int v13), .val (.ref b14), .unset] [(.int ((0 : Int32) + (6 : Int32))), (.ref b14)]))
    rw [show ((0 : Int32) + (6 : Int32)) = (6 : Int32) from by decide]
    refine OutW.back (fun t k => XS.lload X43.here hx rfl (hb hby at_275) rfl  k) ?_
    show OutW _ _ _ _ _ _ _ (T43.setTop (mkF m 277 #[.val (.long q1), .second, .val (.int p2), .val (.int p3), .val (.int p4), .val (.int p5), .val (.int v1), .val (.int v2), .val (.long v3), .second, .val (.long v7), .second, .val (.int (0 : Int32)), .val (.int v13), .val (.ref b14), .unset] [(.long v7), (.int (6 : Int32)), (.ref b14)]))
    refine OutW.back (fun t k => XS.bipush X43.here hx rfl (hb hby at_277) k) ?_
    show OutW _ _ _ _ _ _ _ (T43.setTop (mkF m 279 #[.val (.long q1), .second, .val (.int p2), .val (.int p3), .val (.int p4), .val (.int p5), .val (.int v1), .val (.int v2), .val (.long v3), .second, .val (.long v7), .second, .val (.int (0 : Int32)), .val (.int v13), .val (.ref b14), .unset] [(.int (48 : Int32)), (.long v7), (.int (6 : Int32)), (.ref b14)]))
    refine OutW.back (fun t k => XS.lushr X43.here hx rfl (hb hby at_279) rfl k) ?_
    show OutW _ _ _ _ _ _ _ (T43.setTop (mkF m 280 #[.val (.long q1), .second, .val (.int p2), .val (.int p3), .val (.int p4), .val (.int p5), .val (.int v1), .val (.int v2), .val (.long v3), .second, .val (.long v7), .second, .val (.int (0 : Int32)), .val (.int v13), .val (.ref b14), .unset] [(.long ((v7.toUInt64 >>> ((48 : Int32) &&& 0x3f).toInt64.toUInt64).toInt64)), (.int (6 : Int32)), (.ref b14)]))
    refine OutW.back (fun t k => XS.l2i X43.here hx rfl (hb hby at_280) rfl k) ?_
    show OutW _ _ _ _ _ _ _ (T43.setTop (mkF m 281 #[.val (.long q1), .second, .val (.int p2), .val (.int p3), .val (.int p4), .val (.int p5), .val (.int v1), .val (.int v2), .val (.long v3), .second, .val (.long v7), .second, .val (.int (0 : Int32)), .val (.int v13), .val (.ref b14), .unset] [(.int ((v7.toUInt64 >>> ((48 : Int32) &&& 0x3f).toInt64.toUInt64).toInt64).toInt32), (.int (6 : Int32)), (.ref b14)]))
    refine OutW.back (fun t k => XS.i2b X43.here hx rfl (hb hby at_281) rfl k) ?_
    show OutW _ _ _ _ _ _ _ (T43.setTop (mkF m 282 #[.val (.long q1), .second, .val (.int p2), .val (.int p3), .val (.int p4), .val (.int p5), .val (.int v1), .val (.int v2), .val (.long v3), .second, .val (.long v7), .second, .val (.int (0 : Int32)), .val (.int v13), .val (.ref b14), .unset] [(.int ((v7.toUInt64 >>> ((48 : Int32) &&& 0x3f).toInt64.toUInt64).toInt64).toInt32.toInt8.toInt32), (.int (6 : Int32)), (.ref b14)]))
    generalize hv_v44 : ((v7.toUInt64 >>> ((48 : Int32) &&& 0x3f).toInt64.toUInt64).toInt64).toInt32.toInt8.toInt32 = v44
    obtain ⟨cl45, Ar45, Qk45, Sz45, Nn45, Hh45, Gg45⟩ := id V_b14_43
    have hin45 : ¬ ((6 : Int32) < 0 ∨ cl45.slots.size ≤ ((6 : Int32)).toNatClampNeg) := inb_of Sz45 ⟨by decide, by decide⟩
    obtain ⟨T45, h45, X45, e45, W45, st45⟩ := stB X43 hx hZ e43 Ar45 (j := (6 : Int32)) hin45 (g := (mkF m 282 #[.val (.long q1), .second, .val (.int p2), .val (.int p3), .val (.int p4), .val (.int p5), .val (.int v1), .val (.int v2), .val (.long v3), .second, .val (.long v7), .second, .val (.int (0 : Int32)), .val (.int v13), .val (.ref b14), .unset] [(.int v44), (.int (6 : Int32)), (.ref b14)])) rfl rfl (hb hby at_282)
    have V_b14_45 : Arv Z h45 b14 k14 .byte (16 : Int32) [(.int (nar .byte v32)), (.int (nar .byte v34)), (.int (nar .byte v36)), (.int (nar .byte v38)), (.int (nar .byte v40)), (.int (nar .byte v42)), (.int (nar .byte v44)), (.int (nar .byte v13)), (.int (nar .byte v13)), (.int (nar .byte v13)), (.int (nar .byte v13)), (.int (nar .byte v13)), (.int (nar .byte v13)), (.int (nar .byte v13)), (.int (nar .byte v13)), (.int (nar .byte v13))] (.int (0 : Int32)) := Arv.set Ar45 Qk45 Sz45 Nn45 Hh45 Gg45 (fits_nar_byte _) W45 6 rfl (Nat.le_of_ble_eq_true rfl)
    have N45 := Fr.snoc X45 N43 g_b14
    have Z45 : n0 ≤ h45.size := Nat.le_trans Z43 (Keep.of_wr W45).1
    have K45 := K43.wr W45 (Or.inr sz_b14)
    obtain ⟨lc45, X45, N45⟩ : ∃ lc, Stand p l e room_1 s m #[(.long q1), (.int p2), (.int p3), (.int p4), (.int p5)] below meth c T45 lc 1 16 ∧ Fr n0 lc := ⟨_, X45, N45⟩
    refine OutW.back st45 ?_
    show OutW _ _ _ _ _ _ _ (T45.setTop (mkF m 283 #[.val (.long q1), .second, .val (.int p2), .val (.int p3), .val (.int p4), .val (.int p5), .val (.int v1), .val (.int v2), .val (.long v3), .second, .val (.long v7), .second, .val (.int (0 : Int32)), .val (.int v13), .val (.ref b14), .unset] []))
    refine OutW.back (fun t k => XS.aload X45.here hx rfl (hb hby at_283) rfl rfl  k) ?_
    show OutW _ _ _ _ _ _ _ (T45.setTop (mkF m 285 #[.val (.long q1), .second, .val (.int p2), .val (.int p3), .val (.int p4), .val (.int p5), .val (.int v1), .val (.int v2), .val (.long v3), .second, .val (.long v7), .second, .val (.int (0 : Int32)), .val (.int v13), .val (.ref b14), .unset] [(.ref b14)]))
    refine OutW.back (fun t k => XS.iload X45.here hx rfl (hb hby at_285) rfl  k) ?_
    show OutW _ _ _ _ _ _ _ (T45.setTop (mkF m 287 #[.val (.long q1), .second, .val (.int p2), .val (.int p3), .val (.int p4), .val (.int p5), .val (.int v1), .val (.int v2), .val (.long v3), .second, .val (.long v7), .second, .val (.int (0 : Int32)), .val (.int v13), .val (.ref b14), .unset] [(.int (0 : Int32)), (.ref b14)]))
    refine OutW.back (fun t k => XS.bipush X45.here hx rfl (hb hby at_287) k) ?_
    show OutW _ _ _ _ _ _ _ (T45.setTop (mkF m 289 #[.val (.long q1), .second, .val (.int p2), .val (.int p3), .val (.int p4), .val (.int p5), .val (.int v1), .val (.int v2), .val (.long v3), .second, .val (.long v7), .second, .val (.int (0 : Int32)), .val (.int v13), .val (.ref b14), .unset] [(.int (7 : Int32)), (.int (0 : Int32)), (.ref b14)]))
    refine OutW.back (fun t k => XS.iadd X45.here hx rfl (hb hby at_289) rfl k) ?_
    show OutW _ _ _ _ _ _ _ (T45.setTop (mkF m 290 #[.val (.long q1), .second, .val (.int p2), .val (.int p3), .val (.int p4), .val (.int p5), .val (.int v1), .val (.int v2), .val (.long v3), .second, .val (.long v7), .second, .val (.int (0 : Int32)), .val (.int v13), .val (.ref b14), .unset] [(.int ((0 : Int32) + (7 : Int32))), (.ref b14)]))
    rw [show ((0 : Int32) + (7 : Int32)) = (7 : Int32) from by decide]
    refine OutW.back (fun t k => XS.lload X45.here hx rfl (hb hby at_290) rfl  k) ?_
    show OutW _ _ _ _ _ _ _ (T45.setTop (mkF m 292 #[.val (.long q1), .second, .val (.int p2), .val (.int p3), .val (.int p4), .val (.int p5), .val (.int v1), .val (.int v2), .val (.long v3), .second, .val (.long v7), .second, .val (.int (0 : Int32)), .val (.int v13), .val (.ref b14), .unset] [(.long v7), (.int (7 : Int32)), (.ref b14)]))
    refine OutW.back (fun t k => XS.bipush X45.here hx rfl (hb hby at_292) k) ?_
    show OutW _ _ _ _ _ _ _ (T45.setTop (mkF m 294 #[.val (.long q1), .second, .val (.int p2), .val (.int p3), .val (.int p4), .val (.int p5), .val (.int v1), .val (.int v2), .val (.long v3), .second, .val (.long v7), .second, .val (.int (0 : Int32)), .val (.int v13), .val (.ref b14), .unset] [(.int (56 : Int32)), (.long v7), (.int (7 : Int32)), (.ref b14)]))
    refine OutW.back (fun t k => XS.lushr X45.here hx rfl (hb hby at_294) rfl k) ?_
    show OutW _ _ _ _ _ _ _ (T45.setTop (mkF m 295 #[.val (.long q1), .second, .val (.int p2), .val (.int p3), .val (.int p4), .val (.int p5), .val (.int v1), .val (.int v2), .val (.long v3), .second, .val (.long v7), .second, .val (.int (0 : Int32)), .val (.int v13), .val (.ref b14), .unset] [(.long ((v7.toUInt64 >>> ((56 : Int32) &&& 0x3f).toInt64.toUInt64).toInt64)), (.int (7 : Int32)), (.ref b14)]))
    refine OutW.back (fun t k => XS.l2i X45.here hx rfl (hb hby at_295) rfl k) ?_
    show OutW _ _ _ _ _ _ _ (T45.setTop (mkF m 296 #[.val (.long q1), .second, .val (.int p2), .val (.int p3), .val (.int p4), .val (.int p5), .val (.int v1), .val (.int v2), .val (.long v3), .second, .val (.long v7), .second, .val (.int (0 : Int32)), .val (.int v13), .val (.ref b14), .unset] [(.int ((v7.toUInt64 >>> ((56 : Int32) &&& 0x3f).toInt64.toUInt64).toInt64).toInt32), (.int (7 : Int32)), (.ref b14)]))
    refine OutW.back (fun t k => XS.i2b X45.here hx rfl (hb hby at_296) rfl k) ?_
    show OutW _ _ _ _ _ _ _ (T45.setTop (mkF m 297 #[.val (.long q1), .second, .val (.int p2), .val (.int p3), .val (.int p4), .val (.int p5), .val (.int v1), .val (.int v2), .val (.long v3), .second, .val (.long v7), .second, .val (.int (0 : Int32)), .val (.int v13), .val (.ref b14), .unset] [(.int ((v7.toUInt64 >>> ((56 : Int32) &&& 0x3f).toInt64.toUInt64).toInt64).toInt32.toInt8.toInt32), (.int (7 : Int32)), (.ref b14)]))
    generalize hv_v46 : ((v7.toUInt64 >>> ((56 : Int32) &&& 0x3f).toInt64.toUInt64).toInt64).toInt32.toInt8.toInt32 = v46
    obtain ⟨cl47, Ar47, Qk47, Sz47, Nn47, Hh47, Gg47⟩ := id V_b14_45
    have hin47 : ¬ ((7 : Int32) < 0 ∨ cl47.slots.size ≤ ((7 : Int32)).toNatClampNeg) := inb_of Sz47 ⟨by decide, by decide⟩
    obtain ⟨T47, h47, X47, e47, W47, st47⟩ := stB X45 hx hZ e45 Ar47 (j := (7 : Int32)) hin47 (g := (mkF m 297 #[.val (.long q1), .second, .val (.int p2), .val (.int p3), .val (.int p4), .val (.int p5), .val (.int v1), .val (.int v2), .val (.long v3), .second, .val (.long v7), .second, .val (.int (0 : Int32)), .val (.int v13), .val (.ref b14), .unset] [(.int v46), (.int (7 : Int32)), (.ref b14)])) rfl rfl (hb hby at_297)
    have V_b14_47 : Arv Z h47 b14 k14 .byte (16 : Int32) [(.int (nar .byte v32)), (.int (nar .byte v34)), (.int (nar .byte v36)), (.int (nar .byte v38)), (.int (nar .byte v40)), (.int (nar .byte v42)), (.int (nar .byte v44)), (.int (nar .byte v46)), (.int (nar .byte v13)), (.int (nar .byte v13)), (.int (nar .byte v13)), (.int (nar .byte v13)), (.int (nar .byte v13)), (.int (nar .byte v13)), (.int (nar .byte v13)), (.int (nar .byte v13))] (.int (0 : Int32)) := Arv.set Ar47 Qk47 Sz47 Nn47 Hh47 Gg47 (fits_nar_byte _) W47 7 rfl (Nat.le_of_ble_eq_true rfl)
    have N47 := Fr.snoc X47 N45 g_b14
    have Z47 : n0 ≤ h47.size := Nat.le_trans Z45 (Keep.of_wr W47).1
    have K47 := K45.wr W47 (Or.inr sz_b14)
    obtain ⟨lc47, X47, N47⟩ : ∃ lc, Stand p l e room_1 s m #[(.long q1), (.int p2), (.int p3), (.int p4), (.int p5)] below meth c T47 lc 1 16 ∧ Fr n0 lc := ⟨_, X47, N47⟩
    refine OutW.back st47 ?_
    show OutW _ _ _ _ _ _ _ (T47.setTop (mkF m 298 #[.val (.long q1), .second, .val (.int p2), .val (.int p3), .val (.int p4), .val (.int p5), .val (.int v1), .val (.int v2), .val (.long v3), .second, .val (.long v7), .second, .val (.int (0 : Int32)), .val (.int v13), .val (.ref b14), .unset] []))
    refine OutW.back (fun t k => XS.lload X47.here hx rfl (hb hby at_298) rfl  k) ?_
    show OutW _ _ _ _ _ _ _ (T47.setTop (mkF m 300 #[.val (.long q1), .second, .val (.int p2), .val (.int p3), .val (.int p4), .val (.int p5), .val (.int v1), .val (.int v2), .val (.long v3), .second, .val (.long v7), .second, .val (.int (0 : Int32)), .val (.int v13), .val (.ref b14), .unset] [(.long v7)]))
    refine OutW.back (X47.ldc2Long hx hown (mvT hZ (hw _ (List.mem_of_getElem? (i := 1) rfl))) (g := (mkF m 300 #[.val (.long q1), .second, .val (.int p2), .val (.int p3), .val (.int p4), .val (.int p5), .val (.int v1), .val (.int v2), .val (.long v3), .second, .val (.long v7), .second, .val (.int (0 : Int32)), .val (.int v13), .val (.ref b14), .unset] [(.long v7)])) rfl (hb hby at_300)) ?_
    show OutW _ _ _ _ _ _ _ (T47.setTop (mkF m 303 #[.val (.long q1), .second, .val (.int p2), .val (.int p3), .val (.int p4), .val (.int p5), .val (.int v1), .val (.int v2), .val (.long v3), .second, .val (.long v7), .second, .val (.int (0 : Int32)), .val (.int v13), .val (.ref b14), .unset] [(.long (-9223372036854775808 : Int64)), (.long v7)]))
    refine OutW.back (fun t k => XS.lcmp X47.here hx rfl (hb hby at_303) rfl k) ?_
    show OutW _ _ _ _ _ _ _ (T47.setTop (mkF m 304 #[.val (.long q1), .second, .val (.int p2), .val (.int p3), .val (.int p4), .val (.int p5), .val (.int v1), .val (.int v2), .val (.long v3), .second, .val (.long v7), .second, .val (.int (0 : Int32)), .val (.int v13), .val (.ref b14), .unset] [(.int (lcmpW v7 (-9223372036854775808 : Int64)))]))
    obtain ⟨v49, hv_v49⟩ : ∃ z : Int32, z = (if v7 = (-9223372036854775808 : Int64) then (1 : Int32) else (0 : Int32)) := ⟨_, rfl⟩
    have j50 : ∀ t, Steps p.tables e below (T47.setTop (mkF m 312 #[.val (.long q1), .second, .val (.int p2), .val (.int p3), .val (.int p4), .val (.int p5), .val (.int v1), .val (.int v2), .val (.long v3), .second, .val (.long v7), .second, .val (.int (0 : Int32)), .val (.int v13), .val (.ref b14), .unset] [(.int v49)])) t → Steps p.tables e below (T47.setTop (mkF m 304 #[.val (.long q1), .second, .val (.int p2), .val (.int p3), .val (.int p4), .val (.int p5), .val (.int v1), .val (.int v2), .val (.long v3), .second, .val (.long v7), .second, .val (.int (0 : Int32)), .val (.int v13), .val (.ref b14), .unset] [(.int (lcmpW v7 (-9223372036854775808 : Int64)))])) t := by
      intro t k
      by_cases c304_51 : v7 = (-9223372036854775808 : Int64)
      · skip
        refine XS.ifNo X47.here hx rfl (hb hby at_304) rfl ((if0 _ _).trans (teq ((lw_eq _ _).mpr c304_51)).2) ?_
        show Steps p.tables e below (T47.setTop (mkF m 307 #[.val (.long q1), .second, .val (.int p2), .val (.int p3), .val (.int p4), .val (.int p5), .val (.int v1), .val (.int v2), .val (.long v3), .second, .val (.long v7), .second, .val (.int (0 : Int32)), .val (.int v13), .val (.ref b14), .unset] [])) t
        refine XS.iconst X47.here hx rfl (hb hby at_307) ?_
        show Steps p.tables e below (T47.setTop (mkF m 308 #[.val (.long q1), .second, .val (.int p2), .val (.int p3), .val (.int p4), .val (.int p5), .val (.int v1), .val (.int v2), .val (.long v3), .second, .val (.long v7), .second, .val (.int (0 : Int32)), .val (.int v13), .val (.ref b14), .unset] [(.int (1 : Int32))])) t
        refine XS.goto X47.here hx rfl (pc0 := 308) (pc' := 312) rfl (hb hby at_308) (by decide) (by decide) ?_
        show Steps p.tables e below (T47.setTop (mkF m 312 #[.val (.long q1), .second, .val (.int p2), .val (.int p3), .val (.int p4), .val (.int p5), .val (.int v1), .val (.int v2), .val (.long v3), .second, .val (.long v7), .second, .val (.int (0 : Int32)), .val (.int v13), .val (.ref b14), .unset] [(.int (1 : Int32))])) t
        have q_v49 : v49 = (1 : Int32) := by rw [hv_v49, if_pos c304_51]
        rw [q_v49] at k
        exact k
      · skip
        refine XS.ifYes X47.here hx rfl (pc0 := 304) (pc' := 311) rfl (hb hby at_304) rfl ((if0 _ _).trans (feq (fun q => c304_51 ((lw_eq _ _).mp q))).2) (by decide) (by decide) ?_
        show Steps p.tables e below (T47.setTop (mkF m 311 #[.val (.long q1), .second, .val (.int p2), .val (.int p3), .val (.int p4), .val (.int p5), .val (.int v1), .val (.int v2), .val (.long v3), .second, .val (.long v7), .second, .val (.int (0 : Int32)), .val (.int v13), .val (.ref b14), .unset] [])) t
        refine XS.iconst X47.here hx rfl (hb hby at_311) ?_
        show Steps p.tables e below (T47.setTop (mkF m 312 #[.val (.long q1), .second, .val (.int p2), .val (.int p3), .val (.int p4), .val (.int p5), .val (.int v1), .val (.int v2), .val (.long v3), .second, .val (.long v7), .second, .val (.int (0 : Int32)), .val (.int v13), .val (.ref b14), .unset] [(.int (0 : Int32))])) t
        have q_v49 : v49 = (0 : Int32) := by rw [hv_v49, if_neg c304_51]
        rw [q_v49] at k
        exact k
    refine OutW.back j50 ?_
    show OutW _ _ _ _ _ _ _ (T47.setTop (mkF m 312 #[.val (.long q1), .second, .val (.int p2), .val (.int p3), .val (.int p4), .val (.int p5), .val (.int v1), .val (.int v2), .val (.long v3), .second, .val (.long v7), .second, .val (.int (0 : Int32)), .val (.int v13), .val (.ref b14), .unset] [(.int v49)]))
    refine OutW.back (fun t k => XS.istore X47.here hx rfl (hb hby at_312) rfl (l' := #[.val (.long q1), .second, .val (.int p2), .val (.int p3), .val (.int p4), .val (.int p5), .val (.int v1), .val (.int v2), .val (.long v3), .second, .val (.long v7), .second, .val (.int (0 : Int32)), .val (.int v13), .val (.ref b14), .val (.int v49)]) rfl k) ?_
    show OutW _ _ _ _ _ _ _ (T47.setTop (mkF m 314 #[.val (.long q1), .second, .val (.int p2), .val (.int p3), .val (.int p4), .val (.int p5), .val (.int v1), .val (.int v2), .val (.long v3), .second, .val (.long v7), .second, .val (.int (0 : Int32)), .val (.int v13), .val (.ref b14), .val (.int v49)] []))
    refine OutW.back (fun t k => XS.aload X47.here hx rfl (hb hby at_314) rfl rfl  k) ?_
    show OutW _ _ _ _ _ _ _ (T47.setTop (mkF m 316 #[.val (.long q1), .second, .val (.int p2), .val (.int p3), .val (.int p4), .val (.int p5), .val (.int v1), .val (.int v2), .val (.long v3), .second, .val (.long v7), .second, .val (.int (0 : Int32)), .val (.int v13), .val (.ref b14), .val (.int v49)] [(.ref b14)]))
    refine OutW.back (fun t k => XS.iload X47.here hx rfl (hb hby at_316) rfl  k) ?_
    show OutW _ _ _ _ _ _ _ (T47.setTop (mkF m 318 #[.val (.long q1), .second, .val (.int p2), .val (.int p3), .val (.int p4), .val (.int p5), .val (.int v1), .val (.int v2), .val (.long v3), .second, .val (.long v7), .second, .val (.int (0 : Int32)), .val (.int v13), .val (.ref b14), .val (.int v49)] [(.int (0 : Int32)), (.ref b14)]))
    obtain ⟨_, _, ⟨T52, L52, k52, n52⟩, -, X52, ⟨Lc52, hQ52, l52, y52, z52⟩, st52⟩ := Jvm.LawKit.callS X47 hx (y := (⟨"com/example/patchloom/patchloom/delta/SignMagnitude", "isNegativeZero", "([BI)Z"⟩ : MethodName)) hown (mvT hZ (hw _ (List.mem_of_getElem? (i := 3) rfl))) (mvT hZ (hw _ (List.mem_of_getElem? (i := 4) rfl))) (mvT hZ (hw _ (List.mem_of_getElem? (i := 5) rfl))) (mvT hZ (hw _ (List.mem_of_getElem? (i := 6) rfl))) (by decide) (backOf (W := 0) (rm1_0 l Z a0 hw [] b14 (nar .byte v32) (nar .byte v34) (nar .byte v36) (nar .byte v38) (nar .byte v40) (nar .byte v42) (nar .byte v44) (nar .byte v46) (nar .byte v13) (nar .byte v13) (nar .byte v13) (nar .byte v13) (nar .byte v13) (nar .byte v13) (nar .byte v13) (nar .byte v13) k14 h47 n0 Z47 V_b14_47) hZ (hw _ (List.mem_of_getElem? (i := 6) rfl)) (hw _ (List.mem_of_getElem? (i := 5) rfl)) (by decide) (by decide)) (g := (mkF m 318 #[.val (.long q1), .second, .val (.int p2), .val (.int p3), .val (.int p4), .val (.int p5), .val (.int v1), .val (.int v2), .val (.long v3), .second, .val (.long v7), .second, .val (.int (0 : Int32)), .val (.int v13), .val (.ref b14), .val (.int v49)] [(.int (0 : Int32)), (.ref b14)])) rfl (by rw [hml]; rfl) (argsL := [(.ref b14), (.int (0 : Int32))]) (rest := []) (lenOf pd_0 rfl) rfl (by show 2 * 0 + _ ≤ _; exact Nat.le_of_eq rfl) (hb hby at_318) (fun _ _ => ⟨rfl, e47, (by decide : 1 + 0 ≤ _), (by decide : 16 + 0 ≤ _)⟩)
    dsimp only [Pt.U, Pt.locs, Pt.cells, Pt.slots] at X52 l52 y52 z52 st52 hQ52
    subst l52 y52 z52
    obtain ⟨rfl, Nq52, e52⟩ := hQ52
    have N52 := Fr.app N47 Nq52
    obtain ⟨lc52, X52, N52⟩ : ∃ lc, Stand p l e room_1 s m #[(.long q1), (.int p2), (.int p3), (.int p4), (.int p5)] below meth c T52 lc 1 16 ∧ Fr n0 lc := ⟨_, X52, N52⟩
    refine OutW.back st52 ?_
    show OutW _ _ _ _ _ _ _ (T52.setTop (mkF m 321 #[.val (.long q1), .second, .val (.int p2), .val (.int p3), .val (.int p4), .val (.int p5), .val (.int v1), .val (.int v2), .val (.long v3), .second, .val (.long v7), .second, .val (.int (0 : Int32)), .val (.int v13), .val (.ref b14), .val (.int v49)] [(.int (negz0 (nar .byte v32) (nar .byte v34) (nar .byte v36) (nar .byte v38) (nar .byte v40) (nar .byte v42) (nar .byte v44) (nar .byte v46)))]))
    refine OutW.back (fun t k => XS.iload X52.here hx rfl (hb hby at_321) rfl  k) ?_
    show OutW _ _ _ _ _ _ _ (T52.setTop (mkF m 323 #[.val (.long q1), .second, .val (.int p2), .val (.int p3), .val (.int p4), .val (.int p5), .val (.int v1), .val (.int v2), .val (.long v3), .second, .val (.long v7), .second, .val (.int (0 : Int32)), .val (.int v13), .val (.ref b14), .val (.int v49)] [(.int v49), (.int (negz0 (nar .byte v32) (nar .byte v34) (nar .byte v36) (nar .byte v38) (nar .byte v40) (nar .byte v42) (nar .byte v44) (nar .byte v46)))]))
    obtain ⟨v54, hv_v54⟩ : ∃ z : Int32, z = (if (negz0 (nar .byte v32) (nar .byte v34) (nar .byte v36) (nar .byte v38) (nar .byte v40) (nar .byte v42) (nar .byte v44) (nar .byte v46)) = v49 then (1 : Int32) else (0 : Int32)) := ⟨_, rfl⟩
    have j55 : ∀ t, Steps p.tables e below (T52.setTop (mkF m 331 #[.val (.long q1), .second, .val (.int p2), .val (.int p3), .val (.int p4), .val (.int p5), .val (.int v1), .val (.int v2), .val (.long v3), .second, .val (.long v7), .second, .val (.int (0 : Int32)), .val (.int v13), .val (.ref b14), .val (.int v49)] [(.int v54)])) t → Steps p.tables e below (T52.setTop (mkF m 323 #[.val (.long q1), .second, .val (.int p2), .val (.int p3), .val (.int p4), .val (.int p5), .val (.int v1), .val (.int v2), .val (.long v3), .second, .val (.long v7), .second, .val (.int (0 : Int32)), .val (.int v13), .val (.ref b14), .val (.int v49)] [(.int v49), (.int (negz0 (nar .byte v32) (nar .byte v34) (nar .byte v36) (nar .byte v38) (nar .byte v40) (nar .byte v42) (nar .byte v44) (nar .byte v46)))])) t := by
      intro t k
      by_cases c323_56 : (negz0 (nar .byte v32) (nar .byte v34) (nar .byte v36) (nar .byte v38) (nar .byte v40) (nar .byte v42) (nar .byte v44) (nar .byte v46)) = v49
      · skip
        refine XS.icmpNo X52.here hx rfl (hb hby at_323) rfl (teq c323_56).2 ?_
        show Steps p.tables e below (T52.setTop (mkF m 326 #[.val (.long q1), .second, .val (.int p2), .val (.int p3), .val (.int p4), .val (.int p5), .val (.int v1), .val (.int v2), .val (.long v3), .second, .val (.long v7), .second, .val (.int (0 : Int32)), .val (.int v13), .val (.ref b14), .val (.int v49)] [])) t
        refine XS.iconst X52.here hx rfl (hb hby at_326) ?_
        show Steps p.tables e below (T52.setTop (mkF m 327 #[.val (.long q1), .second, .val (.int p2), .val (.int p3), .val (.int p4), .val (.int p5), .val (.int v1), .val (.int v2), .val (.long v3), .second, .val (.long v7), .second, .val (.int (0 : Int32)), .val (.int v13), .val (.ref b14), .val (.int v49)] [(.int (1 : Int32))])) t
        refine XS.goto X52.here hx rfl (pc0 := 327) (pc' := 331) rfl (hb hby at_327) (by decide) (by decide) ?_
        show Steps p.tables e below (T52.setTop (mkF m 331 #[.val (.long q1), .second, .val (.int p2), .val (.int p3), .val (.int p4), .val (.int p5), .val (.int v1), .val (.int v2), .val (.long v3), .second, .val (.long v7), .second, .val (.int (0 : Int32)), .val (.int v13), .val (.ref b14), .val (.int v49)] [(.int (1 : Int32))])) t
        have q_v54 : v54 = (1 : Int32) := by rw [hv_v54, if_pos c323_56]
        rw [q_v54] at k
        exact k
      · skip
        refine XS.icmpYes X52.here hx rfl (pc0 := 323) (pc' := 330) rfl (hb hby at_323) rfl (feq c323_56).2 (by decide) (by decide) ?_
        show Steps p.tables e below (T52.setTop (mkF m 330 #[.val (.long q1), .second, .val (.int p2), .val (.int p3), .val (.int p4), .val (.int p5), .val (.int v1), .val (.int v2), .val (.long v3), .second, .val (.long v7), .second, .val (.int (0 : Int32)), .val (.int v13), .val (.ref b14), .val (.int v49)] [])) t
        refine XS.iconst X52.here hx rfl (hb hby at_330) ?_
        show Steps p.tables e below (T52.setTop (mkF m 331 #[.val (.long q1), .second, .val (.int p2), .val (.int p3), .val (.int p4), .val (.int p5), .val (.int v1), .val (.int v2), .val (.long v3), .second, .val (.long v7), .second, .val (.int (0 : Int32)), .val (.int v13), .val (.ref b14), .val (.int v49)] [(.int (0 : Int32))])) t
        have q_v54 : v54 = (0 : Int32) := by rw [hv_v54, if_neg c323_56]
        rw [q_v54] at k
        exact k
    refine OutW.back j55 ?_
    show OutW _ _ _ _ _ _ _ (T52.setTop (mkF m 331 #[.val (.long q1), .second, .val (.int p2), .val (.int p3), .val (.int p4), .val (.int p5), .val (.int v1), .val (.int v2), .val (.long v3), .second, .val (.long v7), .second, .val (.int (0 : Int32)), .val (.int v13), .val (.ref b14), .val (.int v49)] [(.int v54)]))
    refine OutW.retN X52 hx (t := .boolean) (z' := 1) Bd.returns (by simp) hlk (hb hby at_331) ?hz (by decide) (by decide) ?_
    case hz =>
      have hfin : v54 = (1 : Int32) := by
        have e : (negz0 (nar .byte v32) (nar .byte v34) (nar .byte v36) (nar .byte v38) (nar .byte v40) (nar .byte v42) (nar .byte v44) (nar .byte v46)) = v49 := by
          rw [← hv_v32, ← hv_v34, ← hv_v36, ← hv_v38, ← hv_v40, ← hv_v42, ← hv_v44, ← hv_v46, hv_v49]
          exact own_neg _
        rw [hv_v54, if_pos e]
      rw [hfin]; rfl
    show Q0 Z q1 p2 p3 p4 p5 h0 n0 _ T52.heap _
    rw [e52]
    exact ⟨rfl, N52⟩
  · skip
    show OutW _ _ _ _ _ _ _ (T30.setTop (mkF m 189 #[.val (.long q1), .second, .val (.int p2), .val (.int p3), .val (.int p4), .val (.int p5), .val (.int v1), .val (.int v2), .val (.long v3), .second, .val (.long v7), .second, .val (.int (1 : Int32)), .val (.int v13), .val (.ref b14), .unset] []))
    refine OutW.back (fun t k => XS.aload X30.here hx rfl (hb hby at_189) rfl rfl  k) ?_
    show OutW _ _ _ _ _ _ _ (T30.setTop (mkF m 191 #[.val (.long q1), .second, .val (.int p2), .val (.int p3), .val (.int p4), .val (.int p5), .val (.int v1), .val (.int v2), .val (.long v3), .second, .val (.long v7), .second, .val (.int (1 : Int32)), .val (.int v13), .val (.ref b14), .unset] [(.ref b14)]))
    refine OutW.back (fun t k => XS.iload X30.here hx rfl (hb hby at_191) rfl  k) ?_
    show OutW _ _ _ _ _ _ _ (T30.setTop (mkF m 193 #[.val (.long q1), .second, .val (.int p2), .val (.int p3), .val (.int p4), .val (.int p5), .val (.int v1), .val (.int v2), .val (.long v3), .second, .val (.long v7), .second, .val (.int (1 : Int32)), .val (.int v13), .val (.ref b14), .unset] [(.int (1 : Int32)), (.ref b14)]))
    refine OutW.back (fun t k => XS.lload X30.here hx rfl (hb hby at_193) rfl  k) ?_
    show OutW _ _ _ _ _ _ _ (T30.setTop (mkF m 195 #[.val (.long q1), .second, .val (.int p2), .val (.int p3), .val (.int p4), .val (.int p5), .val (.int v1), .val (.int v2), .val (.long v3), .second, .val (.long v7), .second, .val (.int (1 : Int32)), .val (.int v13), .val (.ref b14), .unset] [(.long v7), (.int (1 : Int32)), (.ref b14)]))
    refine OutW.back (fun t k => XS.l2i X30.here hx rfl (hb hby at_195) rfl k) ?_
    show OutW _ _ _ _ _ _ _ (T30.setTop (mkF m 196 #[.val (.long q1), .second, .val (.int p2), .val (.int p3), .val (.int p4), .val (.int p5), .val (.int v1), .val (.int v2), .val (.long v3), .second, .val (.long v7), .second, .val (.int (1 : Int32)), .val (.int v13), .val (.ref b14), .unset] [(.int v7.toInt32), (.int (1 : Int32)), (.ref b14)]))
    refine OutW.back (fun t k => XS.i2b X30.here hx rfl (hb hby at_196) rfl k) ?_
    show OutW _ _ _ _ _ _ _ (T30.setTop (mkF m 197 #[.val (.long q1), .second, .val (.int p2), .val (.int p3), .val (.int p4), .val (.int p5), .val (.int v1), .val (.int v2), .val (.long v3), .second, .val (.long v7), .second, .val (.int (1 : Int32)), .val (.int v13), .val (.ref b14), .unset] [(.int v7.toInt32.toInt8.toInt32), (.int (1 : Int32)), (.ref b14)]))
    generalize hv_v57 : v7.toInt32.toInt8.toInt32 = v57
    obtain ⟨cl58, Ar58, Qk58, Sz58, Nn58, Hh58, Gg58⟩ := id V_b14_30
    have hin58 : ¬ ((1 : Int32) < 0 ∨ cl58.slots.size ≤ ((1 : Int32)).toNatClampNeg) := inb_of Sz58 ⟨by decide, by decide⟩
    obtain ⟨T58, h58, X58, e58, W58, st58⟩ := stB X30 hx hZ e30 Ar58 (j := (1 : Int32)) hin58 (g := (mkF m 197 #[.val (.long q1), .second, .val (.int p2), .val (.int p3), .val (.int p4), .val (.int p5), .val (.int v1), .val (.int v2), .val (.long v3), .second, .val (.long v7), .second, .val (.int (1 : Int32)), .val (.int v13), .val (.ref b14), .unset] [(.int v57), (.int (1 : Int32)), (.ref b14)])) rfl rfl (hb hby at_197)
    have V_b14_58 : Arv Z h58 b14 k14 .byte (16 : Int32) [(.int (nar .byte v13)), (.int (nar .byte v57)), (.int (nar .byte v13)), (.int (nar .byte v13)), (.int (nar .byte v13)), (.int (nar .byte v13)), (.int (nar .byte v13)), (.int (nar .byte v13)), (.int (nar .byte v13)), (.int (nar .byte v13)), (.int (nar .byte v13)), (.int (nar .byte v13)), (.int (nar .byte v13)), (.int (nar .byte v13)), (.int (nar .byte v13)), (.int (nar .byte v13))] (.int (0 : Int32)) := Arv.set Ar58 Qk58 Sz58 Nn58 Hh58 Gg58 (fits_nar_byte _) W58 1 rfl (Nat.le_of_ble_eq_true rfl)
    have N58 := Fr.snoc X58 N30 g_b14
    have Z58 : n0 ≤ h58.size := Nat.le_trans Z30 (Keep.of_wr W58).1
    have K58 := K30.wr W58 (Or.inr sz_b14)
    obtain ⟨lc58, X58, N58⟩ : ∃ lc, Stand p l e room_1 s m #[(.long q1), (.int p2), (.int p3), (.int p4), (.int p5)] below meth c T58 lc 1 16 ∧ Fr n0 lc := ⟨_, X58, N58⟩
    refine OutW.back st58 ?_
    show OutW _ _ _ _ _ _ _ (T58.setTop (mkF m 198 #[.val (.long q1), .second, .val (.int p2), .val (.int p3), .val (.int p4), .val (.int p5), .val (.int v1), .val (.int v2), .val (.long v3), .second, .val (.long v7), .second, .val (.int (1 : Int32)), .val (.int v13), .val (.ref b14), .unset] []))
    refine OutW.back (fun t k => XS.aload X58.here hx rfl (hb hby at_198) rfl rfl  k) ?_
    show OutW _ _ _ _ _ _ _ (T58.setTop (mkF m 200 #[.val (.long q1), .second, .val (.int p2), .val (.int p3), .val (.int p4), .val (.int p5), .val (.int v1), .val (.int v2), .val (.long v3), .second, .val (.long v7), .second, .val (.int (1 : Int32)), .val (.int v13), .val (.ref b14), .unset] [(.ref b14)]))
    refine OutW.back (fun t k => XS.iload X58.here hx rfl (hb hby at_200) rfl  k) ?_
    show OutW _ _ _ _ _ _ _ (T58.setTop (mkF m 202 #[.val (.long q1), .second, .val (.int p2), .val (.int p3), .val (.int p4), .val (.int p5), .val (.int v1), .val (.int v2), .val (.long v3), .second, .val (.long v7), .second, .val (.int (1 : Int32)), .val (.int v13), .val (.ref b14), .unset] [(.int (1 : Int32)), (.ref b14)]))
    refine OutW.back (fun t k => XS.iconst X58.here hx rfl (hb hby at_202) k) ?_
    show OutW _ _ _ _ _ _ _ (T58.setTop (mkF m 203 #[.val (.long q1), .second, .val (.int p2), .val (.int p3), .val (.int p4), .val (.int p5), .val (.int v1), .val (.int v2), .val (.long v3), .second, .val (.long v7), .second, .val (.int (1 : Int32)), .val (.int v13), .val (.ref b14), .unset] [(.int (1 : Int32)), (.int (1 : Int32)), (.ref b14)]))
    refine OutW.back (fun t k => XS.iadd X58.here hx rfl (hb hby at_203) rfl k) ?_
    show OutW _ _ _ _ _ _ _ (T58.setTop (mkF m 204 #[.val (.long q1), .second, .val (.int p2), .val (.int p3), .val (.int p4), .val (.int p5), .val (.int v1), .val (.int v2), .val (.long v3), .second, .val (.long v7), .second, .val (.int (1 : Int32)), .val (.int v13), .val (.ref b14), .unset] [(.int ((1 : Int32) + (1 : Int32))), (.ref b14)]))
    rw [show ((1 : Int32) + (1 : Int32)) = (2 : Int32) from by decide]
    refine OutW.back (fun t k => XS.lload X58.here hx rfl (hb hby at_204) rfl  k) ?_
    show OutW _ _ _ _ _ _ _ (T58.setTop (mkF m 206 #[.val (.long q1), .second, .val (.int p2), .val (.int p3), .val (.int p4), .val (.int p5), .val (.int v1), .val (.int v2), .val (.long v3), .second, .val (.long v7), .second, .val (.int (1 : Int32)), .val (.int v13), .val (.ref b14), .unset] [(.long v7), (.int (2 : Int32)), (.ref b14)]))
    refine OutW.back (fun t k => XS.bipush X58.here hx rfl (hb hby at_206) k) ?_
    show OutW _ _ _ _ _ _ _ (T58.setTop (mkF m 208 #[.val (.long q1), .second, .val (.int p2), .val (.int p3), .val (.int p4), .val (.int p5), .val (.int v1), .val (.int v2), .val (.long v3), .second, .val (.long v7), .second, .val (.int (1 : Int32)), .val (.int v13), .val (.ref b14), .unset] [(.int (8 : Int32)), (.long v7), (.int (2 : Int32)), (.ref b14)]))
    refine OutW.back (fun t k => XS.lushr X58.here hx rfl (hb hby at_208) rfl k) ?_
    show OutW _ _ _ _ _ _ _ (T58.setTop (mkF m 209 #[.val (.long q1), .second, .val (.int p2), .val (.int p3), .val (.int p4), .val (.int p5), .val (.int v1), .val (.int v2), .val (.long v3), .second, .val (.long v7), .second, .val (.int (1 : Int32)), .val (.int v13), .val (.ref b14), .unset] [(.long ((v7.toUInt64 >>> ((8 : Int32) &&& 0x3f).toInt64.toUInt64).toInt64)), (.int (2 : Int32)), (.ref b14)]))
    refine OutW.back (fun t k => XS.l2i X58.here hx rfl (hb hby at_209) rfl k) ?_
    show OutW _ _ _ _ _ _ _ (T58.setTop (mkF m 210 #[.val (.long q1), .second, .val (.int p2), .val (.int p3), .val (.int p4), .val (.int p5), .val (.int v1), .val (.int v2), .val (.long v3), .second, .val (.long v7), .second, .val (.int (1 : Int32)), .val (.int v13), .val (.ref b14), .unset] [(.int ((v7.toUInt64 >>> ((8 : Int32) &&& 0x3f).toInt64.toUInt64).toInt64).toInt32), (.int (2 : Int32)), (.ref b14)]))
    refine OutW.back (fun t k => XS.i2b X58.here hx rfl (hb hby at_210) rfl k) ?_
    show OutW _ _ _ _ _ _ _ (T58.setTop (mkF m 211 #[.val (.long q1), .second, .val (.int p2), .val (.int p3), .val (.int p4), .val (.int p5), .val (.int v1), .val (.int v2), .val (.long v3), .second, .val (.long v7), .second, .val (.int (1 : Int32)), .val (.int v13), .val (.ref b14), .unset] [(.int ((v7.toUInt64 >>> ((8 : Int32) &&& 0x3f).toInt64.toUInt64).toInt64).toInt32.toInt8.toInt32), (.int (2 : Int32)), (.ref b14)]))
    generalize hv_v59 : ((v7.toUInt64 >>> ((8 : Int32) &&& 0x3f).toInt64.toUInt64).toInt64).toInt32.toInt8.toInt32 = v59
    obtain ⟨cl60, Ar60, Qk60, Sz60, Nn60, Hh60, Gg60⟩ := id V_b14_58
    have hin60 : ¬ ((2 : Int32) < 0 ∨ cl60.slots.size ≤ ((2 : Int32)).toNatClampNeg) := inb_of Sz60 ⟨by decide, by decide⟩
    obtain ⟨T60, h60, X60, e60, W60, st60⟩ := stB X58 hx hZ e58 Ar60 (j := (2 : Int32)) hin60 (g := (mkF m 211 #[.val (.long q1), .second, .val (.int p2), .val (.int p3), .val (.int p4), .val (.int p5), .val (.int v1), .val (.int v2), .val (.long v3), .second, .val (.long v7), .second, .val (.int (1 : Int32)), .val (.int v13), .val (.ref b14), .unset] [(.int v59), (.int (2 : Int32)), (.ref b14)])) rfl rfl (hb hby at_211)
    have V_b14_60 : Arv Z h60 b14 k14 .byte (16 : Int32) [(.int (nar .byte v13)), (.int (nar .byte v57)), (.int (nar .byte v59)), (.int (nar .byte v13)), (.int (nar .byte v13)), (.int (nar .byte v13)), (.int (nar .byte v13)), (.int (nar .byte v13)), (.int (nar .byte v13)), (.int (nar .byte v13)), (.int (nar .byte v13)), (.int (nar .byte v13)), (.int (nar .byte v13)), (.int (nar .byte v13)), (.int (nar .byte v13)), (.int (nar .byte v13))] (.int (0 : Int32)) := Arv.set Ar60 Qk60 Sz60 Nn60 Hh60 Gg60 (fits_nar_byte _) W60 2 rfl (Nat.le_of_ble_eq_true rfl)
    have N60 := Fr.snoc X60 N58 g_b14
    have Z60 : n0 ≤ h60.size := Nat.le_trans Z58 (Keep.of_wr W60).1
    have K60 := K58.wr W60 (Or.inr sz_b14)
    obtain ⟨lc60, X60, N60⟩ : ∃ lc, Stand p l e room_1 s m #[(.long q1), (.int p2), (.int p3), (.int p4), (.int p5)] below meth c T60 lc 1 16 ∧ Fr n0 lc := ⟨_, X60, N60⟩
    refine OutW.back st60 ?_
    show OutW _ _ _ _ _ _ _ (T60.setTop (mkF m 212 #[.val (.long q1), .second, .val (.int p2), .val (.int p3), .val (.int p4), .val (.int p5), .val (.int v1), .val (.int v2), .val (.long v3), .second, .val (.long v7), .second, .val (.int (1 : Int32)), .val (.int v13), .val (.ref b14), .unset] []))
    refine OutW.back (fun t k => XS.aload X60.here hx rfl (hb hby at_212) rfl rfl  k) ?_
    show OutW _ _ _ _ _ _ _ (T60.setTop (mkF m 214 #[.val (.long q1), .second, .val (.int p2), .val (.int p3), .val (.int p4), .val (.int p5), .val (.int v1), .val (.int v2), .val (.long v3), .second, .val (.long v7), .second, .val (.int (1 : Int32)), .val (.int v13), .val (.ref b14), .unset] [(.ref b14)]))
    refine OutW.back (fun t k => XS.iload X60.here hx rfl (hb hby at_214) rfl  k) ?_
    show OutW _ _ _ _ _ _ _ (T60.setTop (mkF m 216 #[.val (.long q1), .second, .val (.int p2), .val (.int p3), .val (.int p4), .val (.int p5), .val (.int v1), .val (.int v2), .val (.long v3), .second, .val (.long v7), .second, .val (.int (1 : Int32)), .val (.int v13), .val (.ref b14), .unset] [(.int (1 : Int32)), (.ref b14)]))
    refine OutW.back (fun t k => XS.iconst X60.here hx rfl (hb hby at_216) k) ?_
    show OutW _ _ _ _ _ _ _ (T60.setTop (mkF m 217 #[.val (.long q1), .second, .val (.int p2), .val (.int p3), .val (.int p4), .val (.int p5), .val (.int v1), .val (.int v2), .val (.long v3), .second, .val (.long v7), .second, .val (.int (1 : Int32)), .val (.int v13), .val (.ref b14), .unset] [(.int (2 : Int32)), (.int (1 : Int32)), (.ref b14)]))
    refine OutW.back (fun t k => XS.iadd X60.here hx rfl (hb hby at_217) rfl k) ?_
    show OutW _ _ _ _ _ _ _ (T60.setTop (mkF m 218 #[.val (.long q1), .second, .val (.int p2), .val (.int p3), .val (.int p4), .val (.int p5), .val (.int v1), .val (.int v2), .val (.long v3), .second, .val (.long v7), .second, .val (.int (1 : Int32)), .val (.int v13), .val (.ref b14), .unset] [(.int ((1 : Int32) + (2 : Int32))), (.ref b14)]))
    rw [show ((1 : Int32) + (2 : Int32)) = (3 : Int32) from by decide]
    refine OutW.back (fun t k => XS.lload X60.here hx rfl (hb hby at_218) rfl  k) ?_
    show OutW _ _ _ _ _ _ _ (T60.setTop (mkF m 220 #[.val (.long q1), .second, .val (.int p2), .val (.int p3), .val (.int p4), .val (.int p5), .val (.int v1), .val (.int v2), .val (.long v3), .second, .val (.long v7), .second, .val (.int (1 : Int32)), .val (.int v13), .val (.ref b14), .unset] [(.long v7), (.int (3 : Int32)), (.ref b14)]))
    refine OutW.back (fun t k => XS.bipush X60.here hx rfl (hb hby at_220) k) ?_
    show OutW _ _ _ _ _ _ _ (T60.setTop (mkF m 222 #[.val (.long q1), .second, .val (.int p2), .val (.int p3), .val (.int p4), .val (.int p5), .val (.int v1), .val (.int v2), .val (.long v3), .second, .val (.long v7), .second, .val (.int (1 : Int32)), .val (.int v13), .val (.ref b14), .unset] [(.int (16 : Int32)), (.long v7), (.int (3 : Int32)), (.ref b14)]))
    refine OutW.back (fun t k => XS.lushr X60.here hx rfl (hb hby at_222) rfl k) ?_
    show OutW _ _ _ _ _ _ _ (T60.setTop (mkF m 223 #[.val (.long q1), .second, .val (.int p2), .val (.int p3), .val (.int p4), .val (.int p5), .val (.int v1), .val (.int v2), .val (.long v3), .second, .val (.long v7), .second, .val (.int (1 : Int32)), .val (.int v13), .val (.ref b14), .unset] [(.long ((v7.toUInt64 >>> ((16 : Int32) &&& 0x3f).toInt64.toUInt64).toInt64)), (.int (3 : Int32)), (.ref b14)]))
    refine OutW.back (fun t k => XS.l2i X60.here hx rfl (hb hby at_223) rfl k) ?_
    show OutW _ _ _ _ _ _ _ (T60.setTop (mkF m 224 #[.val (.long q1), .second, .val (.int p2), .val (.int p3), .val (.int p4), .val (.int p5), .val (.int v1), .val (.int v2), .val (.long v3), .second, .val (.long v7), .second, .val (.int (1 : Int32)), .val (.int v13), .val (.ref b14), .unset] [(.int ((v7.toUInt64 >>> ((16 : Int32) &&& 0x3f).toInt64.toUInt64).toInt64).toInt32), (.int (3 : Int32)), (.ref b14)]))
    refine OutW.back (fun t k => XS.i2b X60.here hx rfl (hb hby at_224) rfl k) ?_
    show OutW _ _ _ _ _ _ _ (T60.setTop (mkF m 225 #[.val (.long q1), .second, .val (.int p2), .val (.int p3), .val (.int p4), .val (.int p5), .val (.int v1), .val (.int v2), .val (.long v3), .second, .val (.long v7), .second, .val (.int (1 : Int32)), .val (.int v13), .val (.ref b14), .unset] [(.int ((v7.toUInt64 >>> ((16 : Int32) &&& 0x3f).toInt64.toUInt64).toInt64).toInt32.toInt8.toInt32), (.int (3 : Int32)), (.ref b14)]))
    generalize hv_v61 : ((v7.toUInt64 >>> ((16 : Int32) &&& 0x3f).toInt64.toUInt64).toInt64).toInt32.toInt8.toInt32 = v61
    obtain ⟨cl62, Ar62, Qk62, Sz62, Nn62, Hh62, Gg62⟩ := id V_b14_60
    have hin62 : ¬ ((3 : Int32) < 0 ∨ cl62.slots.size ≤ ((3 : Int32)).toNatClampNeg) := inb_of Sz62 ⟨by decide, by decide⟩
    obtain ⟨T62, h62, X62, e62, W62, st62⟩ := stB X60 hx hZ e60 Ar62 (j := (3 : Int32)) hin62 (g := (mkF m 225 #[.val (.long q1), .second, .val (.int p2), .val (.int p3), .val (.int p4), .val (.int p5), .val (.int v1), .val (.int v2), .val (.long v3), .second, .val (.long v7), .second, .val (.int (1 : Int32)), .val (.int v13), .val (.ref b14), .unset] [(.int v61), (.int (3 : Int32)), (.ref b14)])) rfl rfl (hb hby at_225)
    have V_b14_62 : Arv Z h62 b14 k14 .byte (16 : Int32) [(.int (nar .byte v13)), (.int (nar .byte v57)), (.int (nar .byte v59)), (.int (nar .byte v61)), (.int (nar .byte v13)), (.int (nar .byte v13)), (.int (nar .byte v13)), (.int (nar .byte v13)), (.int (nar .byte v13)), (.int (nar .byte v13)), (.int (nar .byte v13)), (.int (nar .byte v13)), (.int (nar .byte v13)), (.int (nar .byte v13)), (.int (nar .byte v13)), (.int (nar .byte v13))] (.int (0 : Int32)) := Arv.set Ar62 Qk62 Sz62 Nn62 Hh62 Gg62 (fits_nar_byte _) W62 3 rfl (Nat.le_of_ble_eq_true rfl)
    have N62 := Fr.snoc X62 N60 g_b14
    have Z62 : n0 ≤ h62.size := Nat.le_trans Z60 (Keep.of_wr W62).1
    have K62 := K60.wr W62 (Or.inr sz_b14)
    obtain ⟨lc62, X62, N62⟩ : ∃ lc, Stand p l e room_1 s m #[(.long q1), (.int p2), (.int p3), (.int p4), (.int p5)] below meth c T62 lc 1 16 ∧ Fr n0 lc := ⟨_, X62, N62⟩
    refine OutW.back st62 ?_
    show OutW _ _ _ _ _ _ _ (T62.setTop (mkF m 226 #[.val (.long q1), .second, .val (.int p2), .val (.int p3), .val (.int p4), .val (.int p5), .val (.int v1), .val (.int v2), .val (.long v3), .second, .val (.long v7), .second, .val (.int (1 : Int32)), .val (.int v13), .val (.ref b14), .unset] []))
    refine OutW.back (fun t k => XS.aload X62.here hx rfl (hb hby at_226) rfl rfl  k) ?_
    show OutW _ _ _ _ _ _ _ (T62.setTop (mkF m 228 #[.val (.long q1), .second, .val (.int p2), .val (.int p3), .val (.int p4), .val (.int p5), .val (.int v1), .val (.int v2), .val (.long v3), .second, .val (.long v7), .second, .val (.int (1 : Int32)), .val (.int v13), .val (.ref b14), .unset] [(.ref b14)]))
    refine OutW.back (fun t k => XS.iload X62.here hx rfl (hb hby at_228) rfl  k) ?_
    show OutW _ _ _ _ _ _ _ (T62.setTop (mkF m 230 #[.val (.long q1), .second, .val (.int p2), .val (.int p3), .val (.int p4), .val (.int p5), .val (.int v1), .val (.int v2), .val (.long v3), .second, .val (.long v7), .second, .val (.int (1 : Int32)), .val (.int v13), .val (.ref b14), .unset] [(.int (1 : Int32)), (.ref b14)]))
    refine OutW.back (fun t k => XS.iconst X62.here hx rfl (hb hby at_230) k) ?_
    show OutW _ _ _ _ _ _ _ (T62.setTop (mkF m 231 #[.val (.long q1), .second, .val (.int p2), .val (.int p3), .val (.int p4), .val (.int p5), .val (.int v1), .val (.int v2), .val (.long v3), .second, .val (.long v7), .second, .val (.int (1 : Int32)), .val (.int v13), .val (.ref b14), .unset] [(.int (3 : Int32)), (.int (1 : Int32)), (.ref b14)]))
    refine OutW.back (fun t k => XS.iadd X62.here hx rfl (hb hby at_231) rfl k) ?_
    show OutW _ _ _ _ _ _ _ (T62.setTop (mkF m 232 #[.val (.long q1), .second, .val (.int p2), .val (.int p3), .val (.int p4), .val (.int p5), .val (.int v1), .val (.int v2), .val (.long v3), .second, .val (.long v7), .second, .val (.int (1 : Int32)), .val (.int v13), .val (.ref b14), .unset] [(.int ((1 : Int32) + (3 : Int32))), (.ref b14)]))
    rw [show ((1 : Int32) + (3 : Int32)) = (4 : Int32) from by decide]
    refine OutW.back (fun t k => XS.lload X62.here hx rfl (hb hby at_232) rfl  k) ?_
    show OutW _ _ _ _ _ _ _ (T62.setTop (mkF m 234 #[.val (.long q1), .second, .val (.int p2), .val (.int p3), .val (.int p4), .val (.int p5), .val (.int v1), .val (.int v2), .val (.long v3), .second, .val (.long v7), .second, .val (.int (1 : Int32)), .val (.int v13), .val (.ref b14), .unset] [(.long v7), (.int (4 : Int32)), (.ref b14)]))
    refine OutW.back (fun t k => XS.bipush X62.here hx rfl (hb hby at_234) k) ?_
    show OutW _ _ _ _ _ _ _ (T62.setTop (mkF m 236 #[.val (.long q1), .second, .val (.int p2), .val (.int p3), .val (.int p4), .val (.int p5), .val (.int v1), .val (.int v2), .val (.long v3), .second, .val (.long v7), .second, .val (.int (1 : Int32)), .val (.int v13), .val (.ref b14), .unset] [(.int (24 : Int32)), (.long v7), (.int (4 : Int32)), (.ref b14)]))
    refine OutW.back (fun t k => XS.lushr X62.here hx rfl (hb hby at_236) rfl k) ?_
    show OutW _ _ _ _ _ _ _ (T62.setTop (mkF m 237 #[.val (.long q1), .second, .val (.int p2), .val (.int p3), .val (.int p4), .val (.int p5), .val (.int v1), .val (.int v2), .val (.long v3), .second, .val (.long v7), .second, .val (.int (1 : Int32)), .val (.int v13), .val (.ref b14), .unset] [(.long ((v7.toUInt64 >>> ((24 : Int32) &&& 0x3f).toInt64.toUInt64).toInt64)), (.int (4 : Int32)), (.ref b14)]))
    refine OutW.back (fun t k => XS.l2i X62.here hx rfl (hb hby at_237) rfl k) ?_
    show OutW _ _ _ _ _ _ _ (T62.setTop (mkF m 238 #[.val (.long q1), .second, .val (.int p2), .val (.int p3), .val (.int p4), .val (.int p5), .val (.int v1), .val (.int v2), .val (.long v3), .second, .val (.long v7), .second, .val (.int (1 : Int32)), .val (.int v13), .val (.ref b14), .unset] [(.int ((v7.toUInt64 >>> ((24 : Int32) &&& 0x3f).toInt64.toUInt64).toInt64).toInt32), (.int (4 : Int32)), (.ref b14)]))
    refine OutW.back (fun t k => XS.i2b X62.here hx rfl (hb hby at_238) rfl k) ?_
    show OutW _ _ _ _ _ _ _ (T62.setTop (mkF m 239 #[.val (.long q1), .second, .val (.int p2), .val (.int p3), .val (.int p4), .val (.int p5), .val (.int v1), .val (.int v2), .val (.long v3), .second, .val (.long v7), .second, .val (.int (1 : Int32)), .val (.int v13), .val (.ref b14), .unset] [(.int ((v7.toUInt64 >>> ((24 : Int32) &&& 0x3f).toInt64.toUInt64).toInt64).toInt32.toInt8.toInt32), (.int (4 : Int32)), (.ref b14)]))
    generalize hv_v63 : ((v7.toUInt64 >>> ((24 : Int32) &&& 0x3f).toInt64.toUInt64).toInt64).toInt32.toInt8.toInt32 = v63
    obtain ⟨cl64, Ar64, Qk64, Sz64, Nn64, Hh64, Gg64⟩ := id V_b14_62
    have hin64 : ¬ ((4 : Int32) < 0 ∨ cl64.slots.size ≤ ((4 : Int32)).toNatClampNeg) := inb_of Sz64 ⟨by decide, by decide⟩
    obtain ⟨T64, h64, X64, e64, W64, st64⟩ := stB X62 hx hZ e62 Ar64 (j := (4 : Int32)) hin64 (g := (mkF m 239 #[.val (.long q1), .second, .val (.int p2), .val (.int p3), .val (.int p4), .val (.int p5), .val (.int v1), .val (.int v2), .val (.long v3), .second, .val (.long v7), .second, .val (.int (1 : Int32)), .val (.int v13), .val (.ref b14), .unset] [(.int v63), (.int (4 : Int32)), (.ref b14)])) rfl rfl (hb hby at_239)
    have V_b14_64 : Arv Z h64 b14 k14 .byte (16 : Int32) [(.int (nar .byte v13)), (.int (nar .byte v57)), (.int (nar .byte v59)), (.int (nar .byte v61)), (.int (nar .byte v63)), (.int (nar .byte v13)), (.int (nar .byte v13)), (.int (nar .byte v13)), (.int (nar .byte v13)), (.int (nar .byte v13)), (.int (nar .byte v13)), (.int (nar .byte v13)), (.int (nar .byte v13)), (.int (nar .byte v13)), (.int (nar .byte v13)), (.int (nar .byte v13))] (.int (0 : Int32)) := Arv.set Ar64 Qk64 Sz64 Nn64 Hh64 Gg64 (fits_nar_byte _) W64 4 rfl (Nat.le_of_ble_eq_true rfl)
    have N64 := Fr.snoc X64 N62 g_b14
    have Z64 : n0 ≤ h64.size := Nat.le_trans Z62 (Keep.of_wr W64).1
    have K64 := K62.wr W64 (Or.inr sz_b14)
    obtain ⟨lc64, X64, N64⟩ : ∃ lc, Stand p l e room_1 s m #[(.long q1), (.int p2), (.int p3), (.int p4), (.int p5)] below meth c T64 lc 1 16 ∧ Fr n0 lc := ⟨_, X64, N64⟩
    refine OutW.back st64 ?_
    show OutW _ _ _ _ _ _ _ (T64.setTop (mkF m 240 #[.val (.long q1), .second, .val (.int p2), .val (.int p3), .val (.int p4), .val (.int p5), .val (.int v1), .val (.int v2), .val (.long v3), .second, .val (.long v7), .second, .val (.int (1 : Int32)), .val (.int v13), .val (.ref b14), .unset] []))
    refine OutW.back (fun t k => XS.aload X64.here hx rfl (hb hby at_240) rfl rfl  k) ?_
    show OutW _ _ _ _ _ _ _ (T64.setTop (mkF m 242 #[.val (.long q1), .second, .val (.int p2), .val (.int p3), .val (.int p4), .val (.int p5), .val (.int v1), .val (.int v2), .val (.long v3), .second, .val (.long v7), .second, .val (.int (1 : Int32)), .val (.int v13), .val (.ref b14), .unset] [(.ref b14)]))
    refine OutW.back (fun t k => XS.iload X64.here hx rfl (hb hby at_242) rfl  k) ?_
    show OutW _ _ _ _ _ _ _ (T64.setTop (mkF m 244 #[.val (.long q1), .second, .val (.int p2), .val (.int p3), .val (.int p4), .val (.int p5), .val (.int v1), .val (.int v2), .val (.long v3), .second, .val (.long v7), .second, .val (.int (1 : Int32)), .val (.int v13), .val (.ref b14), .unset] [(.int (1 : Int32)), (.ref b14)]))
    refine OutW.back (fun t k => XS.iconst X64.here hx rfl (hb hby at_244) k) ?_
    show OutW _ _ _ _ _ _ _ (T64.setTop (mkF m 245 #[.val (.long q1), .second, .val (.int p2), .val (.int p3), .val (.int p4), .val (.int p5), .val (.int v1), .val (.int v2), .val (.long v3), .second, .val (.long v7), .second, .val (.int (1 : Int32)), .val (.int v13), .val (.ref b14), .unset] [(.int (4 : Int32)), (.int (1 : Int32)), (.ref b14)]))
    refine OutW.back (fun t k => XS.iadd X64.here hx rfl (hb hby at_245) rfl k) ?_
    show OutW _ _ _ _ _ _ _ (T64.setTop (mkF m 246 #[.val (.long q1), .second, .val (.int p2), .val (.int p3), .val (.int p4), .val (.int p5), .val (.int v1), .val (.int v2), .val (.long v3), .second, .val (.long v7), .second, .val (.int (1 : Int32)), .val (.int v13), .val (.ref b14), .unset] [(.int ((1 : Int32) + (4 : Int32))), (.ref b14)]))
    rw [show ((1 : Int32) + (4 : Int32)) = (5 : Int32) from by decide]
    refine OutW.back (fun t k => XS.lload X64.here hx rfl (hb hby at_246) rfl  k) ?_
    show OutW _ _ _ _ _ _ _ (T64.setTop (mkF m 248 #[.val (.long q1), .second, .val (.int p2), .val (.int p3), .val (.int p4), .val (.int p5), .val (.int v1), .val (.int v2), .val (.long v3), .second, .val (.long v7), .second, .val (.int (1 : Int32)), .val (.int v13), .val (.ref b14), .unset] [(.long v7), (.int (5 : Int32)), (.ref b14)]))
    refine OutW.back (fun t k => XS.bipush X64.here hx rfl (hb hby at_248) k) ?_
    show OutW _ _ _ _ _ _ _ (T64.setTop (mkF m 250 #[.val (.long q1), .second, .val (.int p2), .val (.int p3), .val (.int p4), .val (.int p5), .val (.int v1), .val (.int v2), .val (.long v3), .second, .val (.long v7), .second, .val (.int (1 : Int32)), .val (.int v13), .val (.ref b14), .unset] [(.int (32 : Int32)), (.long v7), (.int (5 : Int32)), (.ref b14)]))
    refine OutW.back (fun t k => XS.lushr X64.here hx rfl (hb hby at_250) rfl k) ?_
    show OutW _ _ _ _ _ _ _ (T64.setTop (mkF m 251 #[.val (.long q1), .second, .val (.int p2), .val (.int p3), .val (.int p4), .val (.int p5), .val (.int v1), .val (.int v2), .val (.long v3), .second, .val (.long v7), .second, .val (.int (1 : Int32)), .val (.int v13), .val (.ref b14), .unset] [(.long ((v7.toUInt64 >>> ((32 : Int32) &&& 0x3f).toInt64.toUInt64).toInt64)), (.int (5 : Int32)), (.ref b14)]))
    refine OutW.back (fun t k => XS.l2i X64.here hx rfl (hb hby at_251) rfl k) ?_
    show OutW _ _ _ _ _ _ _ (T64.setTop (mkF m 252 #[.val (.long q1), .second, .val (.int p2), .val (.int p3), .val (.int p4), .val (.int p5), .val (.int v1), .val (.int v2), .val (.long v3), .second, .val (.long v7), .second, .val (.int (1 : Int32)), .val (.int v13), .val (.ref b14), .unset] [(.int ((v7.toUInt64 >>> ((32 : Int32) &&& 0x3f).toInt64.toUInt64).toInt64).toInt32), (.int (5 : Int32)), (.ref b14)]))
    refine OutW.back (fun t k => XS.i2b X64.here hx rfl (hb hby at_252) rfl k) ?_
    show OutW _ _ _ _ _ _ _ (T64.setTop (mkF m 253 #[.val (.long q1), .second, .val (.int p2), .val (.int p3), .val (.int p4), .val (.int p5), .val (.int v1), .val (.int v2), .val (.long v3), .second, .val (.long v7), .second, .val (.int (1 : Int32)), .val (.int v13), .val (.ref b14), .unset] [(.int ((v7.toUInt64 >>> ((32 : Int32) &&& 0x3f).toInt64.toUInt64).toInt64).toInt32.toInt8.toInt32), (.int (5 : Int32)), (.ref b14)]))
    generalize hv_v65 : ((v7.toUInt64 >>> ((32 : Int32) &&& 0x3f).toInt64.toUInt64).toInt64).toInt32.toInt8.toInt32 = v65
    obtain ⟨cl66, Ar66, Qk66, Sz66, Nn66, Hh66, Gg66⟩ := id V_b14_64
    have hin66 : ¬ ((5 : Int32) < 0 ∨ cl66.slots.size ≤ ((5 : Int32)).toNatClampNeg) := inb_of Sz66 ⟨by decide, by decide⟩
    obtain ⟨T66, h66, X66, e66, W66, st66⟩ := stB X64 hx hZ e64 Ar66 (j := (5 : Int32)) hin66 (g := (mkF m 253 #[.val (.long q1), .second, .val (.int p2), .val (.int p3), .val (.int p4), .val (.int p5), .val (.int v1), .val (.int v2), .val (.long v3), .second, .val (.long v7), .second, .val (.int (1 : Int32)), .val (.int v13), .val (.ref b14), .unset] [(.int v65), (.int (5 : Int32)), (.ref b14)])) rfl rfl (hb hby at_253)
    have V_b14_66 : Arv Z h66 b14 k14 .byte (16 : Int32) [(.int (nar .byte v13)), (.int (nar .byte v57)), (.int (nar .byte v59)), (.int (nar .byte v61)), (.int (nar .byte v63)), (.int (nar .byte v65)), (.int (nar .byte v13)), (.int (nar .byte v13)), (.int (nar .byte v13)), (.int (nar .byte v13)), (.int (nar .byte v13)), (.int (nar .byte v13)), (.int (nar .byte v13)), (.int (nar .byte v13)), (.int (nar .byte v13)), (.int (nar .byte v13))] (.int (0 : Int32)) := Arv.set Ar66 Qk66 Sz66 Nn66 Hh66 Gg66 (fits_nar_byte _) W66 5 rfl (Nat.le_of_ble_eq_true rfl)
    have N66 := Fr.snoc X66 N64 g_b14
    have Z66 : n0 ≤ h66.size := Nat.le_trans Z64 (Keep.of_wr W66).1
    have K66 := K64.wr W66 (Or.inr sz_b14)
    obtain ⟨lc66, X66, N66⟩ : ∃ lc, Stand p l e room_1 s m #[(.long q1), (.int p2), (.int p3), (.int p4), (.int p5)] below meth c T66 lc 1 16 ∧ Fr n0 lc := ⟨_, X66, N66⟩
    refine OutW.back st66 ?_
    show OutW _ _ _ _ _ _ _ (T66.setTop (mkF m 254 #[.val (.long q1), .second, .val (.int p2), .val (.int p3), .val (.int p4), .val (.int p5), .val (.int v1), .val (.int v2), .val (.long v3), .second, .val (.long v7), .second, .val (.int (1 : Int32)), .val (.int v13), .val (.ref b14), .unset] []))
    refine OutW.back (fun t k => XS.aload X66.here hx rfl (hb hby at_254) rfl rfl  k) ?_
    show OutW _ _ _ _ _ _ _ (T66.setTop (mkF m 256 #[.val (.long q1), .second, .val (.int p2), .val (.int p3), .val (.int p4), .val (.int p5), .val (.int v1), .val (.int v2), .val (.long v3), .second, .val (.long v7), .second, .val (.int (1 : Int32)), .val (.int v13), .val (.ref b14), .unset] [(.ref b14)]))
    refine OutW.back (fun t k => XS.iload X66.here hx rfl (hb hby at_256) rfl  k) ?_
    show OutW _ _ _ _ _ _ _ (T66.setTop (mkF m 258 #[.val (.long q1), .second, .val (.int p2), .val (.int p3), .val (.int p4), .val (.int p5), .val (.int v1), .val (.int v2), .val (.long v3), .second, .val (.long v7), .second, .val (.int (1 : Int32)), .val (.int v13), .val (.ref b14), .unset] [(.int (1 : Int32)), (.ref b14)]))
    refine OutW.back (fun t k => XS.iconst X66.here hx rfl (hb hby at_258) k) ?_
    show OutW _ _ _ _ _ _ _ (T66.setTop (mkF m 259 #[.val (.long q1), .second, .val (.int p2), .val (.int p3), .val (.int p4), .val (.int p5), .val (.int v1), .val (.int v2), .val (.long v3), .second, .val (.long v7), .second, .val (.int (1 : Int32)), .val (.int v13), .val (.ref b14), .unset] [(.int (5 : Int32)), (.int (1 : Int32)), (.ref b14)]))
    refine OutW.back (fun t k => XS.iadd X66.here hx rfl (hb hby at_259) rfl k) ?_
    show OutW _ _ _ _ _ _ _ (T66.setTop (mkF m 260 #[.val (.long q1), .second, .val (.int p2), .val (.int p3), .val (.int p4), .val (.int p5), .val (.int v1), .val (.int v2), .val (.long v3), .second, .val (.long v7), .second, .val (.int (1 : Int32)), .val (.int v13), .val (.ref b14), .unset] [(.int ((1 : Int32) + (5 : Int32))), (.ref b14)]))
    rw [show ((1 : Int32) + (5 : Int32)) = (6 : Int32) from by decide]
    refine OutW.back (fun t k => XS.lload X66.here hx rfl (hb hby at_260) rfl  k) ?_
    show OutW _ _ _ _ _ _ _ (T66.setTop (mkF m 262 #[.val (.long q1), .second, .val (.int p2), .val (.int p3), .val (.int p4), .val (.int p5), .val (.int v1), .val (.int v2), .val (.long v3), .second, .val (.long v7), .second, .val (.int (1 : Int32)), .val (.int v13), .val (.ref b14), .unset] [(.long v7), (.int (6 : Int32)), (.ref b14)]))
    refine OutW.back (fun t k => XS.bipush X66.here hx rfl (hb hby at_262) k) ?_
    show OutW _ _ _ _ _ _ _ (T66.setTop (mkF m 264 #[.val (.long q1), .second, .val (.int p2), .val (.int p3), .val (.int p4), .val (.int p5), .val (.int v1), .val (.int v2), .val (.long v3), .second, .val (.long v7), .second, .val (.int (1 : Int32)), .val (.int v13), .val (.ref b14), .unset] [(.int (40 : Int32)), (.long v7), (.int (6 : Int32)), (.ref b14)]))
    refine OutW.back (fun t k => XS.lushr X66.here hx rfl (hb hby at_264) rfl k) ?_
    show OutW _ _ _ _ _ _ _ (T66.setTop (mkF m 265 #[.val (.long q1), .second, .val (.int p2), .val (.int p3), .val (.int p4), .val (.int p5), .val (.int v1), .val (.int v2), .val (.long v3), .second, .val (.long v7), .second, .val (.int (1 : Int32)), .val (.int v13), .val (.ref b14), .unset] [(.long ((v7.toUInt64 >>> ((40 : Int32) &&& 0x3f).toInt64.toUInt64).toInt64)), (.int (6 : Int32)), (.ref b14)]))
    refine OutW.back (fun t k => XS.l2i X66.here hx rfl (hb hby at_265) rfl k) ?_
    show OutW _ _ _ _ _ _ _ (T66.setTop (mkF m 266 #[.val (.long q1), .second, .val (.int p2), .val (.int p3), .val (.int p4), .val (.int p5), .val (.int v1), .val (.int v2), .val (.long v3), .second, .val (.long v7), .second, .val (.int (1 : Int32)), .val (.int v13), .val (.ref b14), .unset] [(.int ((v7.toUInt64 >>> ((40 : Int32) &&& 0x3f).toInt64.toUInt64).toInt64).toInt32), (.int (6 : Int32)), (.ref b14)]))
    refine OutW.back (fun t k => XS.i2b X66.here hx rfl (hb hby at_266) rfl k) ?_
    show OutW _ _ _ _ _ _ _ (T66.setTop (mkF m 267 #[.val (.long q1), .second, .val (.int p2), .val (.int p3), .val (.int p4), .val (.int p5), .val (.int v1), .val (.int v2), .val (.long v3), .second, .val (.long v7), .second, .val (.int (1 : Int32)), .val (.int v13), .val (.ref b14), .unset] [(.int ((v7.toUInt64 >>> ((40 : Int32) &&& 0x3f).toInt64.toUInt64).toInt64).toInt32.toInt8.toInt32), (.int (6 : Int32)), (.ref b14)]))
    generalize hv_v67 : ((v7.toUInt64 >>> ((40 : Int32) &&& 0x3f).toInt64.toUInt64).toInt64).toInt32.toInt8.toInt32 = v67
    obtain ⟨cl68, Ar68, Qk68, Sz68, Nn68, Hh68, Gg68⟩ := id V_b14_66
    have hin68 : ¬ ((6 : Int32) < 0 ∨ cl68.slots.size ≤ ((6 : Int32)).toNatClampNeg) := inb_of Sz68 ⟨by decide, by decide⟩
    obtain ⟨T68, h68, X68, e68, W68, st68⟩ := stB X66 hx hZ e66 Ar68 (j := (6 : Int32)) hin68 (g := (mkF m 267 #[.val (.long q1), .second, .val (.int p2), .val (.int p3), .val (.int p4), .val (.int p5), .val (.int v1), .val (.int v2), .val (.long v3), .second, .val (.long v7), .second, .val (.int (1 : Int32)), .val (.int v13), .val (.ref b14), .unset] [(.int v67), (.int (6 : Int32)), (.ref b14)])) rfl rfl (hb hby at_267)
    have V_b14_68 : Arv Z h68 b14 k14 .byte (16 : Int32) [(.int (nar .byte v13)), (.int (nar .byte v57)), (.int (nar .byte v59)), (.int (nar .byte v61)), (.int (nar .byte v63)), (.int (nar .byte v65)), (.int (nar .byte v67)), (.int (nar .byte v13)), (.int (nar .byte v13)), (.int (nar .byte v13)), (.int (nar .byte v13)), (.int (nar .byte v13)), (.int (nar .byte v13)), (.int (nar .byte v13)), (.int (nar .byte v13)), (.int (nar .byte v13))] (.int (0 : Int32)) := Arv.set Ar68 Qk68 Sz68 Nn68 Hh68 Gg68 (fits_nar_byte _) W68 6 rfl (Nat.le_of_ble_eq_true rfl)
    have N68 := Fr.snoc X68 N66 g_b14
    have Z68 : n0 ≤ h68.size := Nat.le_trans Z66 (Keep.of_wr W68).1
    have K68 := K66.wr W68 (Or.inr sz_b14)
    obtain ⟨lc68, X68, N68⟩ : ∃ lc, Stand p l e room_1 s m #[(.long q1), (.int p2), (.int p3), (.int p4), (.int p5)] below meth c T68 lc 1 16 ∧ Fr n0 lc := ⟨_, X68, N68⟩
    refine OutW.back st68 ?_
    show OutW _ _ _ _ _ _ _ (T68.setTop (mkF m 268 #[.val (.long q1), .second, .val (.int p2), .val (.int p3), .val (.int p4), .val (.int p5), .val (.int v1), .val (.int v2), .val (.long v3), .second, .val (.long v7), .second, .val (.int (1 : Int32)), .val (.int v13), .val (.ref b14), .unset] []))
    refine OutW.back (fun t k => XS.aload X68.here hx rfl (hb hby at_268) rfl rfl  k) ?_
    show OutW _ _ _ _ _ _ _ (T68.setTop (mkF m 270 #[.val (.long q1), .second, .val (.int p2), .val (.int p3), .val (.int p4), .val (.int p5), .val (.int v1), .val (.int v2), .val (.long v3), .second, .val (.long v7), .second, .val (.int (1 : Int32)), .val (.int v13), .val (.ref b14), .unset] [(.ref b14)]))
    refine OutW.back (fun t k => XS.iload X68.here hx rfl (hb hby at_270) rfl  k) ?_
    show OutW _ _ _ _ _ _ _ (T68.setTop (mkF m 272 #[.val (.long q1), .second, .val (.int p2), .val (.int p3), .val (.int p4), .val (.int p5), .val (.int v1), .val (.int v2), .val (.long v3), .second, .val (.long v7), .second, .val (.int (1 : Int32)), .val (.int v13), .val (.ref b14), .unset] [(.int (1 : Int32)), (.ref b14)]))
    refine OutW.back (fun t k => XS.bipush X68.here hx rfl (hb hby at_272) k) ?_
    show OutW _ _ _ _ _ _ _ (T68.setTop (mkF m 274 #[.val (.long q1), .second, .val (.int p2), .val (.int p3), .val (.int p4), .val (.int p5), .val (.int v1), .val (.int v2), .val (.long v3), .second, .val (.long v7), .second, .val (.int (1 : Int32)), .val (.int v13), .val (.ref b14), .unset] [(.int (6 : Int32)), (.int (1 : Int32)), (.ref b14)]))
    refine OutW.back (fun t k => XS.iadd X68.here hx rfl (hb hby at_274) rfl k) ?_
    show OutW _ _ _ _ _ _ _ (T68.setTop (mkF m 275 #[.val (.long q1), .second, .val (.int p2), .val (.int p3), .val (.int p4), .val (.int p5), .val (.int v1), .val (.int v2), .val (.long v3), .second, .val (.long v7), .second, .val (.int (1 : Int32)), .val (.int v13), .val (.ref b14), .unset] [(.int ((1 : Int32) + (6 : Int32))), (.ref b14)]))
    rw [show ((1 : Int32) + (6 : Int32)) = (7 : Int32) from by decide]
    refine OutW.back (fun t k => XS.lload X68.here hx rfl (hb hby at_275) rfl  k) ?_
    show OutW _ _ _ _ _ _ _ (T68.setTop (mkF m 277 #[.val (.long q1), .second, .val (.int p2), .val (.int p3), .val (.int p4), .val (.int p5), .val (.int v1), .val (.int v2), .val (.long v3), .second, .val (.long v7), .second, .val (.int (1 : Int32)), .val (.int v13), .val (.ref b14), .unset] [(.long v7), (.int (7 : Int32)), (.ref b14)]))
    refine OutW.back (fun t k => XS.bipush X68.here hx rfl (hb hby at_277) k) ?_
    show OutW _ _ _ _ _ _ _ (T68.setTop (mkF m 279 #[.val (.long q1), .second, .val (.int p2), .val (.int p3), .val (.int p4), .val (.int p5), .val (.int v1), .val (.int v2), .val (.long v3), .second, .val (.long v7), .second, .val (.int (1 : Int32)), .val (.int v13), .val (.ref b14), .unset] [(.int (48 : Int32)), (.long v7), (.int (7 : Int32)), (.ref b14)]))
    refine OutW.back (fun t k => XS.lushr X68.here hx rfl (hb hby at_279) rfl k) ?_
    show OutW _ _ _ _ _ _ _ (T68.setTop (mkF m 280 #[.val (.long q1), .second, .val (.int p2), .val (.int p3), .val (.int p4), .val (.int p5), .val (.int v1), .val (.int v2), .val (.long v3), .second, .val (.long v7), .second, .val (.int (1 : Int32)), .val (.int v13), .val (.ref b14), .unset] [(.long ((v7.toUInt64 >>> ((48 : Int32) &&& 0x3f).toInt64.toUInt64).toInt64)), (.int (7 : Int32)), (.ref b14)]))
    refine OutW.back (fun t k => XS.l2i X68.here hx rfl (hb hby at_280) rfl k) ?_
    show OutW _ _ _ _ _ _ _ (T68.setTop (mkF m 281 #[.val (.long q1), .second, .val (.int p2), .val (.int p3), .val (.int p4), .val (.int p5), .val (.int v1), .val (.int v2), .val (.long v3), .second, .val (.long v7), .second, .val (.int (1 : Int32)), .val (.int v13), .val (.ref b14), .unset] [(.int ((v7.toUInt64 >>> ((48 : Int32) &&& 0x3f).toInt64.toUInt64).toInt64).toInt32), (.int (7 : Int32)), (.ref b14)]))
    refine OutW.back (fun t k => XS.i2b X68.here hx rfl (hb hby at_281) rfl k) ?_
    show OutW _ _ _ _ _ _ _ (T68.setTop (mkF m 282 #[.val (.long q1), .second, .val (.int p2), .val (.int p3), .val (.int p4), .val (.int p5), .val (.int v1), .val (.int v2), .val (.long v3), .second, .val (.long v7), .second, .val (.int (1 : Int32)), .val (.int v13), .val (.ref b14), .unset] [(.int ((v7.toUInt64 >>> ((48 : Int32) &&& 0x3f).toInt64.toUInt64).toInt64).toInt32.toInt8.toInt32), (.int (7 : Int32)), (.ref b14)]))
    generalize hv_v69 : ((v7.toUInt64 >>> ((48 : Int32) &&& 0x3f).toInt64.toUInt64).toInt64).toInt32.toInt8.toInt32 = v69
    obtain ⟨cl70, Ar70, Qk70, Sz70, Nn70, Hh70, Gg70⟩ := id V_b14_68
    have hin70 : ¬ ((7 : Int32) < 0 ∨ cl70.slots.size ≤ ((7 : Int32)).toNatClampNeg) := inb_of Sz70 ⟨by decide, by decide⟩
    obtain ⟨T70, h70, X70, e70, W70, st70⟩ := stB X68 hx hZ e68 Ar70 (j := (7 : Int32)) hin70 (g := (mkF m 282 #[.val (.long q1), .second, .val (.int p2), .val (.int p3), .val (.int p4), .val (.int p5), .val (.int v1), .val (.int v2), .val (.long v3), .second, .val (.long v7), .second, .val (.int (1 : Int32)), .val (.int v13), .val (.ref b14), .unset] [(.int v69), (.int (7 : Int32)), (.ref b14)])) rfl rfl (hb hby at_282)
    have V_b14_70 : Arv Z h70 b14 k14 .byte (16 : Int32) [(.int (nar .byte v13)), (.int (nar .byte v57)), (.int (nar .byte v59)), (.int (nar .byte v61)), (.int (nar .byte v63)), (.int (nar .byte v65)), (.int (nar .byte v67)), (.int (nar .byte v69)), (.int (nar .byte v13)), (.int (nar .byte v13)), (.int (nar .byte v13)), (.int (nar .byte v13)), (.int (nar .byte v13)), (.int (nar .byte v13)), (.int (nar .byte v13)), (.int (nar .byte v13))] (.int (0 : Int32)) := Arv.set Ar70 Qk70 Sz70 Nn70 Hh70 Gg70 (fits_nar_byte _) W70 7 rfl (Nat.le_of_ble_eq_true rfl)
    have N70 := Fr.snoc X70 N68 g_b14
    have Z70 : n0 ≤ h70.size := Nat.le_trans Z68 (Keep.of_wr W70).1
    have K70 := K68.wr W70 (Or.inr sz_b14)
    obtain ⟨lc70, X70, N70⟩ : ∃ lc, Stand p l e room_1 s m #[(.long q1), (.int p2), (.int p3), (.int p4), (.int p5)] below meth c T70 lc 1 16 ∧ Fr n0 lc := ⟨_, X70, N70⟩
    refine OutW.back st70 ?_
    show OutW _ _ _ _ _ _ _ (T70.setTop (mkF m 283 #[.val (.long q1), .second, .val (.int p2), .val (.int p3), .val (.int p4), .val (.int p5), .val (.int v1), .val (.int v2), .val (.long v3), .second, .val (.long v7), .second, .val (.int (1 : Int32)), .val (.int v13), .val (.ref b14), .unset] []))
    refine OutW.back (fun t k => XS.aload X70.here hx rfl (hb hby at_283) rfl rfl  k) ?_
    show OutW _ _ _ _ _ _ _ (T70.setTop (mkF m 285 #[.val (.long q1), .second, .val (.int p2), .val (.int p3), .val (.int p4), .val (.int p5), .val (.int v1), .val (.int v2), .val (.long v3), .second, .val (.long v7), .second, .val (.int (1 : Int32)), .val (.int v13), .val (.ref b14), .unset] [(.ref b14)]))
    refine OutW.back (fun t k => XS.iload X70.here hx rfl (hb hby at_285) rfl  k) ?_
    show OutW _ _ _ _ _ _ _ (T70.setTop (mkF m 287 #[.val (.long q1), .second, .val (.int p2), .val (.int p3), .val (.int p4), .val (.int p5), .val (.int v1), .val (.int v2), .val (.long v3), .second, .val (.long v7), .second, .val (.int (1 : Int32)), .val (.int v13), .val (.ref b14), .unset] [(.int (1 : Int32)), (.ref b14)]))
    refine OutW.back (fun t k => XS.bipush X70.here hx rfl (hb hby at_287) k) ?_
    show OutW _ _ _ _ _ _ _ (T70.setTop (mkF m 289 #[.val (.long q1), .second, .val (.int p2), .val (.int p3), .val (.int p4), .val (.int p5), .val (.int v1), .val (.int v2), .val (.long v3), .second, .val (.long v7), .second, .val (.int (1 : Int32)), .val (.int v13), .val (.ref b14), .unset] [(.int (7 : Int32)), (.int (1 : Int32)), (.ref b14)]))
    refine OutW.back (fun t k => XS.iadd X70.here hx rfl (hb hby at_289) rfl k) ?_
    show OutW _ _ _ _ _ _ _ (T70.setTop (mkF m 290 #[.val (.long q1), .second, .val (.int p2), .val (.int p3), .val (.int p4), .val (.int p5), .val (.int v1), .val (.int v2), .val (.long v3), .second, .val (.long v7), .second, .val (.int (1 : Int32)), .val (.int v13), .val (.ref b14), .unset] [(.int ((1 : Int32) + (7 : Int32))), (.ref b14)]))
    rw [show ((1 : Int32) + (7 : Int32)) = (8 : Int32) from by decide]
    refine OutW.back (fun t k => XS.lload X70.here hx rfl (hb hby at_290) rfl  k) ?_
    show OutW _ _ _ _ _ _ _ (T70.setTop (mkF m 292 #[.val (.long q1), .second, .val (.int p2), .val (.int p3), .val (.int p4), .val (.int p5), .val (.int v1), .val (.int v2), .val (.long v3), .second, .val (.long v7), .second, .val (.int (1 : Int32)), .val (.int v13), .val (.ref b14), .unset] [(.long v7), (.int (8 : Int32)), (.ref b14)]))
    refine OutW.back (fun t k => XS.bipush X70.here hx rfl (hb hby at_292) k) ?_
    show OutW _ _ _ _ _ _ _ (T70.setTop (mkF m 294 #[.val (.long q1), .second, .val (.int p2), .val (.int p3), .val (.int p4), .val (.int p5), .val (.int v1), .val (.int v2), .val (.long v3), .second, .val (.long v7), .second, .val (.int (1 : Int32)), .val (.int v13), .val (.ref b14), .unset] [(.int (56 : Int32)), (.long v7), (.int (8 : Int32)), (.ref b14)]))
    refine OutW.back (fun t k => XS.lushr X70.here hx rfl (hb hby at_294) rfl k) ?_
    show OutW _ _ _ _ _ _ _ (T70.setTop (mkF m 295 #[.val (.long q1), .second, .val (.int p2), .val (.int p3), .val (.int p4), .val (.int p5), .val (.int v1), .val (.int v2), .val (.long v3), .second, .val (.long v7), .second, .val (.int (1 : Int32)), .val (.int v13), .val (.ref b14), .unset] [(.long ((v7.toUInt64 >>> ((56 : Int32) &&& 0x3f).toInt64.toUInt64).toInt64)), (.int (8 : Int32)), (.ref b14)]))
    refine OutW.back (fun t k => XS.l2i X70.here hx rfl (hb hby at_295) rfl k) ?_
    show OutW _ _ _ _ _ _ _ (T70.setTop (mkF m 296 #[.val (.long q1), .second, .val (.int p2), .val (.int p3), .val (.int p4), .val (.int p5), .val (.int v1), .val (.int v2), .val (.long v3), .second, .val (.long v7), .second, .val (.int (1 : Int32)), .val (.int v13), .val (.ref b14), .unset] [(.int ((v7.toUInt64 >>> ((56 : Int32) &&& 0x3f).toInt64.toUInt64).toInt64).toInt32), (.int (8 : Int32)), (.ref b14)]))
    refine OutW.back (fun t k => XS.i2b X70.here hx rfl (hb hby at_296) rfl k) ?_
    show OutW _ _ _ _ _ _ _ (T70.setTop (mkF m 297 #[.val (.long q1), .second, .val (.int p2), .val (.int p3), .val (.int p4), .val (.int p5), .val (.int v1), .val (.int v2), .val (.long v3), .second, .val (.long v7), .second, .val (.int (1 : Int32)), .val (.int v13), .val (.ref b14), .unset] [(.int ((v7.toUInt64 >>> ((56 : Int32) &&& 0x3f).toInt64.toUInt64).toInt64).toInt32.toInt8.toInt32), (.int (8 : Int32)), (.ref b14)]))
    generalize hv_v71 : ((v7.toUInt64 >>> ((56 : Int32) &&& 0x3f).toInt64.toUInt64).toInt64).toInt32.toInt8.toInt32 = v71
    obtain ⟨cl72, Ar72, Qk72, Sz72, Nn72, Hh72, Gg72⟩ := id V_b14_70
    have hin72 : ¬ ((8 : Int32) < 0 ∨ cl72.slots.size ≤ ((8 : Int32)).toNatClampNeg) := inb_of Sz72 ⟨by decide, by decide⟩
    obtain ⟨T72, h72, X72, e72, W72, st72⟩ := stB X70 hx hZ e70 Ar72 (j := (8 : Int32)) hin72 (g := (mkF m 297 #[.val (.long q1), .second, .val (.int p2), .val (.int p3), .val (.int p4), .val (.int p5), .val (.int v1), .val (.int v2), .val (.long v3), .second, .val (.long v7), .second, .val (.int (1 : Int32)), .val (.int v13), .val (.ref b14), .unset] [(.int v71), (.int (8 : Int32)), (.ref b14)])) rfl rfl (hb hby at_297)
    have V_b14_72 : Arv Z h72 b14 k14 .byte (16 : Int32) [(.int (nar .byte v13)), (.int (nar .byte v57)), (.int (nar .byte v59)), (.int (nar .byte v61)), (.int (nar .byte v63)), (.int (nar .byte v65)), (.int (nar .byte v67)), (.int (nar .byte v69)), (.int (nar .byte v71)), (.int (nar .byte v13)), (.int (nar .byte v13)), (.int (nar .byte v13)), (.int (nar .byte v13)), (.int (nar .byte v13)), (.int (nar .byte v13)), (.int (nar .byte v13))] (.int (0 : Int32)) := Arv.set Ar72 Qk72 Sz72 Nn72 Hh72 Gg72 (fits_nar_byte _) W72 8 rfl (Nat.le_of_ble_eq_true rfl)
    have N72 := Fr.snoc X72 N70 g_b14
    have Z72 : n0 ≤ h72.size := Nat.le_trans Z70 (Keep.of_wr W72).1
    have K72 := K70.wr W72 (Or.inr sz_b14)
    obtain ⟨lc72, X72, N72⟩ : ∃ lc, Stand p l e room_1 s m #[(.long q1), (.int p2), (.int p3), (.int p4), (.int p5)] below meth c T72 lc 1 16 ∧ Fr n0 lc := ⟨_, X72, N72⟩
    refine OutW.back st72 ?_
    show OutW _ _ _ _ _ _ _ (T72.setTop (mkF m 298 #[.val (.long q1), .second, .val (.int p2), .val (.int p3), .val (.int p4), .val (.int p5), .val (.int v1), .val (.int v2), .val (.long v3), .second, .val (.long v7), .second, .val (.int (1 : Int32)), .val (.int v13), .val (.ref b14), .unset] []))
    refine OutW.back (fun t k => XS.lload X72.here hx rfl (hb hby at_298) rfl  k) ?_
    show OutW _ _ _ _ _ _ _ (T72.setTop (mkF m 300 #[.val (.long q1), .second, .val (.int p2), .val (.int p3), .val (.int p4), .val (.int p5), .val (.int v1), .val (.int v2), .val (.long v3), .second, .val (.long v7), .second, .val (.int (1 : Int32)), .val (.int v13), .val (.ref b14), .unset] [(.long v7)]))
    refine OutW.back (X72.ldc2Long hx hown (mvT hZ (hw _ (List.mem_of_getElem? (i := 1) rfl))) (g := (mkF m 300 #[.val (.long q1), .second, .val (.int p2), .val (.int p3), .val (.int p4), .val (.int p5), .val (.int v1), .val (.int v2), .val (.long v3), .second, .val (.long v7), .second, .val (.int (1 : Int32)), .val (.int v13), .val (.ref b14), .unset] [(.long v7)])) rfl (hb hby at_300)) ?_
    show OutW _ _ _ _ _ _ _ (T72.setTop (mkF m 303 #[.val (.long q1), .second, .val (.int p2), .val (.int p3), .val (.int p4), .val (.int p5), .val (.int v1), .val (.int v2), .val (.long v3), .second, .val (.long v7), .second, .val (.int (1 : Int32)), .val (.int v13), .val (.ref b14), .unset] [(.long (-9223372036854775808 : Int64)), (.long v7)]))
    refine OutW.back (fun t k => XS.lcmp X72.here hx rfl (hb hby at_303) rfl k) ?_
    show OutW _ _ _ _ _ _ _ (T72.setTop (mkF m 304 #[.val (.long q1), .second, .val (.int p2), .val (.int p3), .val (.int p4), .val (.int p5), .val (.int v1), .val (.int v2), .val (.long v3), .second, .val (.long v7), .second, .val (.int (1 : Int32)), .val (.int v13), .val (.ref b14), .unset] [(.int (lcmpW v7 (-9223372036854775808 : Int64)))]))
    obtain ⟨v74, hv_v74⟩ : ∃ z : Int32, z = (if v7 = (-9223372036854775808 : Int64) then (1 : Int32) else (0 : Int32)) := ⟨_, rfl⟩
    have j75 : ∀ t, Steps p.tables e below (T72.setTop (mkF m 312 #[.val (.long q1), .second, .val (.int p2), .val (.int p3), .val (.int p4), .val (.int p5), .val (.int v1), .val (.int v2), .val (.long v3), .second, .val (.long v7), .second, .val (.int (1 : Int32)), .val (.int v13), .val (.ref b14), .unset] [(.int v74)])) t → Steps p.tables e below (T72.setTop (mkF m 304 #[.val (.long q1), .second, .val (.int p2), .val (.int p3), .val (.int p4), .val (.int p5), .val (.int v1), .val (.int v2), .val (.long v3), .second, .val (.long v7), .second, .val (.int (1 : Int32)), .val (.int v13), .val (.ref b14), .unset] [(.int (lcmpW v7 (-9223372036854775808 : Int64)))])) t := by
      intro t k
      by_cases c304_76 : v7 = (-9223372036854775808 : Int64)
      · skip
        refine XS.ifNo X72.here hx rfl (hb hby at_304) rfl ((if0 _ _).trans (teq ((lw_eq _ _).mpr c304_76)).2) ?_
        show Steps p.tables e below (T72.setTop (mkF m 307 #[.val (.long q1), .second, .val (.int p2), .val (.int p3), .val (.int p4), .val (.int p5), .val (.int v1), .val (.int v2), .val (.long v3), .second, .val (.long v7), .second, .val (.int (1 : Int32)), .val (.int v13), .val (.ref b14), .unset] [])) t
        refine XS.iconst X72.here hx rfl (hb hby at_307) ?_
        show Steps p.tables e below (T72.setTop (mkF m 308 #[.val (.long q1), .second, .val (.int p2), .val (.int p3), .val (.int p4), .val (.int p5), .val (.int v1), .val (.int v2), .val (.long v3), .second, .val (.long v7), .second, .val (.int (1 : Int32)), .val (.int v13), .val (.ref b14), .unset] [(.int (1 : Int32))])) t
        refine XS.goto X72.here hx rfl (pc0 := 308) (pc' := 312) rfl (hb hby at_308) (by decide) (by decide) ?_
        show Steps p.tables e below (T72.setTop (mkF m 312 #[.val (.long q1), .second, .val (.int p2), .val (.int p3), .val (.int p4), .val (.int p5), .val (.int v1), .val (.int v2), .val (.long v3), .second, .val (.long v7), .second, .val (.int (1 : Int32)), .val (.int v13), .val (.ref b14), .unset] [(.int (1 : Int32))])) t
        have q_v74 : v74 = (1 : Int32) := by rw [hv_v74, if_pos c304_76]
        rw [q_v74] at k
        exact k
      · skip
        refine XS.ifYes X72.here hx rfl (pc0 := 304) (pc' := 311) rfl (hb hby at_304) rfl ((if0 _ _).trans (feq (fun q => c304_76 ((lw_eq _ _).mp q))).2) (by decide) (by decide) ?_
        show Steps p.tables e below (T72.setTop (mkF m 311 #[.val (.long q1), .second, .val (.int p2), .val (.int p3), .val (.int p4), .val (.int p5), .val (.int v1), .val (.int v2), .val (.long v3), .second, .val (.long v7), .second, .val (.int (1 : Int32)), .val (.int v13), .val (.ref b14), .unset] [])) t
        refine XS.iconst X72.here hx rfl (hb hby at_311) ?_
        show Steps p.tables e below (T72.setTop (mkF m 312 #[.val (.long q1), .second, .val (.int p2), .val (.int p3), .val (.int p4), .val (.int p5), .val (.int v1), .val (.int v2), .val (.long v3), .second, .val (.long v7), .second, .val (.int (1 : Int32)), .val (.int v13), .val (.ref b14), .unset] [(.int (0 : Int32))])) t
        have q_v74 : v74 = (0 : Int32) := by rw [hv_v74, if_neg c304_76]
        rw [q_v74] at k
        exact k
    refine OutW.back j75 ?_
    show OutW _ _ _ _ _ _ _ (T72.setTop (mkF m 312 #[.val (.long q1), .second, .val (.int p2), .val (.int p3), .val (.int p4), .val (.int p5), .val (.int v1), .val (.int v2), .val (.long v3), .second, .val (.long v7), .second, .val (.int (1 : Int32)), .val (.int v13), .val (.ref b14), .unset] [(.int v74)]))
    refine OutW.back (fun t k => XS.istore X72.here hx rfl (hb hby at_312) rfl (l' := #[.val (.long q1), .second, .val (.int p2), .val (.int p3), .val (.int p4), .val (.int p5), .val (.int v1), .val (.int v2), .val (.long v3), .second, .val (.long v7), .second, .val (.int (1 : Int32)), .val (.int v13), .val (.ref b14), .val (.int v74)]) rfl k) ?_
    show OutW _ _ _ _ _ _ _ (T72.setTop (mkF m 314 #[.val (.long q1), .second, .val (.int p2), .val (.int p3), .val (.int p4), .val (.int p5), .val (.int v1), .val (.int v2), .val (.long v3), .second, .val (.long v7), .second, .val (.int (1 : Int32)), .val (.int v13), .val (.ref b14), .val (.int v74)] []))
    refine OutW.back (fun t k => XS.aload X72.here hx rfl (hb hby at_314) rfl rfl  k) ?_
    show OutW _ _ _ _ _ _ _ (T72.setTop (mkF m 316 #[.val (.long q1), .second, .val (.int p2), .val (.int p3), .val (.int p4), .val (.int p5), .val (.int v1), .val (.int v2), .val (.long v3), .second, .val (.long v7), .second, .val (.int (1 : Int32)), .val (.int v13), .val (.ref b14), .val (.int v74)] [(.ref b14)]))
    refine OutW.back (fun t k => XS.iload X72.here hx rfl (hb hby at_316) rfl  k) ?_
    show OutW _ _ _ _ _ _ _ (T72.setTop (mkF m 318 #[.val (.long q1), .second, .val (.int p2), .val (.int p3), .val (.int p4), .val (.int p5), .val (.int v1), .val (.int v2), .val (.long v3), .second, .val (.long v7), .second, .val (.int (1 : Int32)), .val (.int v13), .val (.ref b14), .val (.int v74)] [(.int (1 : Int32)), (.ref b14)]))
    obtain ⟨_, _, ⟨T77, L77, k77, n77⟩, -, X77, ⟨Lc77, hQ77, l77, y77, z77⟩, st77⟩ := Jvm.LawKit.callS X72 hx (y := (⟨"com/example/patchloom/patchloom/delta/SignMagnitude", "isNegativeZero", "([BI)Z"⟩ : MethodName)) hown (mvT hZ (hw _ (List.mem_of_getElem? (i := 3) rfl))) (mvT hZ (hw _ (List.mem_of_getElem? (i := 4) rfl))) (mvT hZ (hw _ (List.mem_of_getElem? (i := 5) rfl))) (mvT hZ (hw _ (List.mem_of_getElem? (i := 6) rfl))) (by decide) (backOf (W := 0) (rm1_1 l Z a0 hw [] b14 (nar .byte v13) (nar .byte v57) (nar .byte v59) (nar .byte v61) (nar .byte v63) (nar .byte v65) (nar .byte v67) (nar .byte v69) (nar .byte v71) (nar .byte v13) (nar .byte v13) (nar .byte v13) (nar .byte v13) (nar .byte v13) (nar .byte v13) (nar .byte v13) k14 h72 n0 Z72 V_b14_72) hZ (hw _ (List.mem_of_getElem? (i := 6) rfl)) (hw _ (List.mem_of_getElem? (i := 5) rfl)) (by decide) (by decide)) (g := (mkF m 318 #[.val (.long q1), .second, .val (.int p2), .val (.int p3), .val (.int p4), .val (.int p5), .val (.int v1), .val (.int v2), .val (.long v3), .second, .val (.long v7), .second, .val (.int (1 : Int32)), .val (.int v13), .val (.ref b14), .val (.int v74)] [(.int (1 : Int32)), (.ref b14)])) rfl (by rw [hml]; rfl) (argsL := [(.ref b14), (.int (1 : Int32))]) (rest := []) (lenOf pd_0 rfl) rfl (by show 2 * 0 + _ ≤ _; exact Nat.le_of_eq rfl) (hb hby at_318) (fun _ _ => ⟨rfl, e72, (by decide : 1 + 0 ≤ _), (by decide : 16 + 0 ≤ _)⟩)
    dsimp only [Pt.U, Pt.locs, Pt.cells, Pt.slots] at X77 l77 y77 z77 st77 hQ77
    subst l77 y77 z77
    obtain ⟨rfl, Nq77, e77⟩ := hQ77
    have N77 := Fr.app N72 Nq77
    obtain ⟨lc77, X77, N77⟩ : ∃ lc, Stand p l e room_1 s m #[(.long q1), (.int p2), (.int p3), (.int p4), (.int p5)] below meth c T77 lc 1 16 ∧ Fr n0 lc := ⟨_, X77, N77⟩
    refine OutW.back st77 ?_
    show OutW _ _ _ _ _ _ _ (T77.setTop (mkF m 321 #[.val (.long q1), .second, .val (.int p2), .val (.int p3), .val (.int p4), .val (.int p5), .val (.int v1), .val (.int v2), .val (.long v3), .second, .val (.long v7), .second, .val (.int (1 : Int32)), .val (.int v13), .val (.ref b14), .val (.int v74)] [(.int (negz1 (nar .byte v57) (nar .byte v59) (nar .byte v61) (nar .byte v63) (nar .byte v65) (nar .byte v67) (nar .byte v69) (nar .byte v71)))]))
    refine OutW.back (fun t k => XS.iload X77.here hx rfl (hb hby at_321) rfl  k) ?_
    show OutW _ _ _ _ _ _ _ (T77.setTop (mkF m 323 #[.val (.long q1), .second, .val (.int p2), .val (.int p3), .val (.int p4), .val (.int p5), .val (.int v1), .val (.int v2), .val (.long v3), .second, .val (.long v7), .second, .val (.int (1 : Int32)), .val (.int v13), .val (.ref b14), .val (.int v74)] [(.int v74), (.int (negz1 (nar .byte v57) (nar .byte v59) (nar .byte v61) (nar .byte v63) (nar .byte v65) (nar .byte v67) (nar .byte v69) (nar .byte v71)))]))
    obtain ⟨v79, hv_v79⟩ : ∃ z : Int32, z = (if (negz1 (nar .byte v57) (nar .byte v59) (nar .byte v61) (nar .byte v63) (nar .byte v65) (nar .byte v67) (nar .byte v69) (nar .byte v71)) = v74 then (1 : Int32) else (0 : Int32)) := ⟨_, rfl⟩
    have j80 : ∀ t, Steps p.tables e below (T77.setTop (mkF m 331 #[.val (.long q1), .second, .val (.int p2), .val (.int p3), .val (.int p4), .val (.int p5), .val (.int v1), .val (.int v2), .val (.long v3), .second, .val (.long v7), .second, .val (.int (1 : Int32)), .val (.int v13), .val (.ref b14), .val (.int v74)] [(.int v79)])) t → Steps p.tables e below (T77.setTop (mkF m 323 #[.val (.long q1), .second, .val (.int p2), .val (.int p3), .val (.int p4), .val (.int p5), .val (.int v1), .val (.int v2), .val (.long v3), .second, .val (.long v7), .second, .val (.int (1 : Int32)), .val (.int v13), .val (.ref b14), .val (.int v74)] [(.int v74), (.int (negz1 (nar .byte v57) (nar .byte v59) (nar .byte v61) (nar .byte v63) (nar .byte v65) (nar .byte v67) (nar .byte v69) (nar .byte v71)))])) t := by
      intro t k
      by_cases c323_81 : (negz1 (nar .byte v57) (nar .byte v59) (nar .byte v61) (nar .byte v63) (nar .byte v65) (nar .byte v67) (nar .byte v69) (nar .byte v71)) = v74
      · skip
        refine XS.icmpNo X77.here hx rfl (hb hby at_323) rfl (teq c323_81).2 ?_
        show Steps p.tables e below (T77.setTop (mkF m 326 #[.val (.long q1), .second, .val (.int p2), .val (.int p3), .val (.int p4), .val (.int p5), .val (.int v1), .val (.int v2), .val (.long v3), .second, .val (.long v7), .second, .val (.int (1 : Int32)), .val (.int v13), .val (.ref b14), .val (.int v74)] [])) t
        refine XS.iconst X77.here hx rfl (hb hby at_326) ?_
        show Steps p.tables e below (T77.setTop (mkF m 327 #[.val (.long q1), .second, .val (.int p2), .val (.int p3), .val (.int p4), .val (.int p5), .val (.int v1), .val (.int v2), .val (.long v3), .second, .val (.long v7), .second, .val (.int (1 : Int32)), .val (.int v13), .val (.ref b14), .val (.int v74)] [(.int (1 : Int32))])) t
        refine XS.goto X77.here hx rfl (pc0 := 327) (pc' := 331) rfl (hb hby at_327) (by decide) (by decide) ?_
        show Steps p.tables e below (T77.setTop (mkF m 331 #[.val (.long q1), .second, .val (.int p2), .val (.int p3), .val (.int p4), .val (.int p5), .val (.int v1), .val (.int v2), .val (.long v3), .second, .val (.long v7), .second, .val (.int (1 : Int32)), .val (.int v13), .val (.ref b14), .val (.int v74)] [(.int (1 : Int32))])) t
        have q_v79 : v79 = (1 : Int32) := by rw [hv_v79, if_pos c323_81]
        rw [q_v79] at k
        exact k
      · skip
        refine XS.icmpYes X77.here hx rfl (pc0 := 323) (pc' := 330) rfl (hb hby at_323) rfl (feq c323_81).2 (by decide) (by decide) ?_
        show Steps p.tables e below (T77.setTop (mkF m 330 #[.val (.long q1), .second, .val (.int p2), .val (.int p3), .val (.int p4), .val (.int p5), .val (.int v1), .val (.int v2), .val (.long v3), .second, .val (.long v7), .second, .val (.int (1 : Int32)), .val (.int v13), .val (.ref b14), .val (.int v74)] [])) t
        refine XS.iconst X77.here hx rfl (hb hby at_330) ?_
        show Steps p.tables e below (T77.setTop (mkF m 331 #[.val (.long q1), .second, .val (.int p2), .val (.int p3), .val (.int p4), .val (.int p5), .val (.int v1), .val (.int v2), .val (.long v3), .second, .val (.long v7), .second, .val (.int (1 : Int32)), .val (.int v13), .val (.ref b14), .val (.int v74)] [(.int (0 : Int32))])) t
        have q_v79 : v79 = (0 : Int32) := by rw [hv_v79, if_neg c323_81]
        rw [q_v79] at k
        exact k
    refine OutW.back j80 ?_
    show OutW _ _ _ _ _ _ _ (T77.setTop (mkF m 331 #[.val (.long q1), .second, .val (.int p2), .val (.int p3), .val (.int p4), .val (.int p5), .val (.int v1), .val (.int v2), .val (.long v3), .second, .val (.long v7), .second, .val (.int (1 : Int32)), .val (.int v13), .val (.ref b14), .val (.int v74)] [(.int v79)]))
    refine OutW.retN X77 hx (t := .boolean) (z' := 1) Bd.returns (by simp) hlk (hb hby at_331) ?hz (by decide) (by decide) ?_
    case hz =>
      have hfin : v79 = (1 : Int32) := by
        have e : (negz1 (nar .byte v57) (nar .byte v59) (nar .byte v61) (nar .byte v63) (nar .byte v65) (nar .byte v67) (nar .byte v69) (nar .byte v71)) = v74 := by
          rw [← hv_v57, ← hv_v59, ← hv_v61, ← hv_v63, ← hv_v65, ← hv_v67, ← hv_v69, ← hv_v71, hv_v74]
          exact own_neg _
        rw [hv_v79, if_pos e]
      rw [hfin]; rfl
    show Q0 Z q1 p2 p3 p4 p5 h0 n0 _ T77.heap _
    rw [e77]
    exact ⟨rfl, N77⟩
  · skip
    show OutW _ _ _ _ _ _ _ (T30.setTop (mkF m 189 #[.val (.long q1), .second, .val (.int p2), .val (.int p3), .val (.int p4), .val (.int p5), .val (.int v1), .val (.int v2), .val (.long v3), .second, .val (.long v7), .second, .val (.int (2 : Int32)), .val (.int v13), .val (.ref b14), .unset] []))
    refine OutW.back (fun t k => XS.aload X30.here hx rfl (hb hby at_189) rfl rfl  k) ?_
    show OutW _ _ _ _ _ _ _ (T30.setTop (mkF m 191 #[.val (.long q1), .second, .val (.int p2), .val (.int p3), .val (.int p4), .val (.int p5), .val (.int v1), .val (.int v2), .val (.long v3), .second, .val (.long v7), .second, .val (.int (2 : Int32)), .val (.int v13), .val (.ref b14), .unset] [(.ref b14)]))
    refine OutW.back (fun t k => XS.iload X30.here hx rfl (hb hby at_191) rfl  k) ?_
    show OutW _ _ _ _ _ _ _ (T30.setTop (mkF m 193 #[.val (.long q1), .second, .val (.int p2), .val (.int p3), .val (.int p4), .val (.int p5), .val (.int v1), .val (.int v2), .val (.long v3), .second, .val (.long v7), .second, .val (.int (2 : Int32)), .val (.int v13), .val (.ref b14), .unset] [(.int (2 : Int32)), (.ref b14)]))
    refine OutW.back (fun t k => XS.lload X30.here hx rfl (hb hby at_193) rfl  k) ?_
    show OutW _ _ _ _ _ _ _ (T30.setTop (mkF m 195 #[.val (.long q1), .second, .val (.int p2), .val (.int p3), .val (.int p4), .val (.int p5), .val (.int v1), .val (.int v2), .val (.long v3), .second, .val (.long v7), .second, .val (.int (2 : Int32)), .val (.int v13), .val (.ref b14), .unset] [(.long v7), (.int (2 : Int32)), (.ref b14)]))
    refine OutW.back (fun t k => XS.l2i X30.here hx rfl (hb hby at_195) rfl k) ?_
    show OutW _ _ _ _ _ _ _ (T30.setTop (mkF m 196 #[.val (.long q1), .second, .val (.int p2), .val (.int p3), .val (.int p4), .val (.int p5), .val (.int v1), .val (.int v2), .val (.long v3), .second, .val (.long v7), .second, .val (.int (2 : Int32)), .val (.int v13), .val (.ref b14), .unset] [(.int v7.toInt32), (.int (2 : Int32)), (.ref b14)]))
    refine OutW.back (fun t k => XS.i2b X30.here hx rfl (hb hby at_196) rfl k) ?_
    show OutW _ _ _ _ _ _ _ (T30.setTop (mkF m 197 #[.val (.long q1), .second, .val (.int p2), .val (.int p3), .val (.int p4), .val (.int p5), .val (.int v1), .val (.int v2), .val (.long v3), .second, .val (.long v7), .second, .val (.int (2 : Int32)), .val (.int v13), .val (.ref b14), .unset] [(.int v7.toInt32.toInt8.toInt32), (.int (2 : Int32)), (.ref b14)]))
    generalize hv_v82 : v7.toInt32.toInt8.toInt32 = v82
    obtain ⟨cl83, Ar83, Qk83, Sz83, Nn83, Hh83, Gg83⟩ := id V_b14_30
    have hin83 : ¬ ((2 : Int32) < 0 ∨ cl83.slots.size ≤ ((2 : Int32)).toNatClampNeg) := inb_of Sz83 ⟨by decide, by decide⟩
    obtain ⟨T83, h83, X83, e83, W83, st83⟩ := stB X30 hx hZ e30 Ar83 (j := (2 : Int32)) hin83 (g := (mkF m 197 #[.val (.long q1), .second, .val (.int p2), .val (.int p3), .val (.int p4), .val (.int p5), .val (.int v1), .val (.int v2), .val (.long v3), .second, .val (.long v7), .second, .val (.int (2 : Int32)), .val (.int v13), .val (.ref b14), .unset] [(.int v82), (.int (2 : Int32)), (.ref b14)])) rfl rfl (hb hby at_197)
    have V_b14_83 : Arv Z h83 b14 k14 .byte (16 : Int32) [(.int (nar .byte v13)), (.int (nar .byte v13)), (.int (nar .byte v82)), (.int (nar .byte v13)), (.int (nar .byte v13)), (.int (nar .byte v13)), (.int (nar .byte v13)), (.int (nar .byte v13)), (.int (nar .byte v13)), (.int (nar .byte v13)), (.int (nar .byte v13)), (.int (nar .byte v13)), (.int (nar .byte v13)), (.int (nar .byte v13)), (.int (nar .byte v13)), (.int (nar .byte v13))] (.int (0 : Int32)) := Arv.set Ar83 Qk83 Sz83 Nn83 Hh83 Gg83 (fits_nar_byte _) W83 2 rfl (Nat.le_of_ble_eq_true rfl)
    have N83 := Fr.snoc X83 N30 g_b14
    have Z83 : n0 ≤ h83.size := Nat.le_trans Z30 (Keep.of_wr W83).1
    have K83 := K30.wr W83 (Or.inr sz_b14)
    obtain ⟨lc83, X83, N83⟩ : ∃ lc, Stand p l e room_1 s m #[(.long q1), (.int p2), (.int p3), (.int p4), (.int p5)] below meth c T83 lc 1 16 ∧ Fr n0 lc := ⟨_, X83, N83⟩
    refine OutW.back st83 ?_
    show OutW _ _ _ _ _ _ _ (T83.setTop (mkF m 198 #[.val (.long q1), .second, .val (.int p2), .val (.int p3), .val (.int p4), .val (.int p5), .val (.int v1), .val (.int v2), .val (.long v3), .second, .val (.long v7), .second, .val (.int (2 : Int32)), .val (.int v13), .val (.ref b14), .unset] []))
    refine OutW.back (fun t k => XS.aload X83.here hx rfl (hb hby at_198) rfl rfl  k) ?_
    show OutW _ _ _ _ _ _ _ (T83.setTop (mkF m 200 #[.val (.long q1), .second, .val (.int p2), .val (.int p3), .val (.int p4), .val (.int p5), .val (.int v1), .val (.int v2), .val (.long v3), .second, .val (.long v7), .second, .val (.int (2 : Int32)), .val (.int v13), .val (.ref b14), .unset] [(.ref b14)]))
    refine OutW.back (fun t k => XS.iload X83.here hx rfl (hb hby at_200) rfl  k) ?_
    show OutW _ _ _ _ _ _ _ (T83.setTop (mkF m 202 #[.val (.long q1), .second, .val (.int p2), .val (.int p3), .val (.int p4), .val (.int p5), .val (.int v1), .val (.int v2), .val (.long v3), .second, .val (.long v7), .second, .val (.int (2 : Int32)), .val (.int v13), .val (.ref b14), .unset] [(.int (2 : Int32)), (.ref b14)]))
    refine OutW.back (fun t k => XS.iconst X83.here hx rfl (hb hby at_202) k) ?_
    show OutW _ _ _ _ _ _ _ (T83.setTop (mkF m 203 #[.val (.long q1), .second, .val (.int p2), .val (.int p3), .val (.int p4), .val (.int p5), .val (.int v1), .val (.int v2), .val (.long v3), .second, .val (.long v7), .second, .val (.int (2 : Int32)), .val (.int v13), .val (.ref b14), .unset] [(.int (1 : Int32)), (.int (2 : Int32)), (.ref b14)]))
    refine OutW.back (fun t k => XS.iadd X83.here hx rfl (hb hby at_203) rfl k) ?_
    show OutW _ _ _ _ _ _ _ (T83.setTop (mkF m 204 #[.val (.long q1), .second, .val (.int p2), .val (.int p3), .val (.int p4), .val (.int p5), .val (.int v1), .val (.int v2), .val (.long v3), .second, .val (.long v7), .second, .val (.int (2 : Int32)), .val (.int v13), .val (.ref b14), .unset] [(.int ((2 : Int32) + (1 : Int32))), (.ref b14)]))
    rw [show ((2 : Int32) + (1 : Int32)) = (3 : Int32) from by decide]
    refine OutW.back (fun t k => XS.lload X83.here hx rfl (hb hby at_204) rfl  k) ?_
    show OutW _ _ _ _ _ _ _ (T83.setTop (mkF m 206 #[.val (.long q1), .second, .val (.int p2), .val (.int p3), .val (.int p4), .val (.int p5), .val (.int v1), .val (.int v2), .val (.long v3), .second, .val (.long v7), .second, .val (.int (2 : Int32)), .val (.int v13), .val (.ref b14), .unset] [(.long v7), (.int (3 : Int32)), (.ref b14)]))
    refine OutW.back (fun t k => XS.bipush X83.here hx rfl (hb hby at_206) k) ?_
    show OutW _ _ _ _ _ _ _ (T83.setTop (mkF m 208 #[.val (.long q1), .second, .val (.int p2), .val (.int p3), .val (.int p4), .val (.int p5), .val (.int v1), .val (.int v2), .val (.long v3), .second, .val (.long v7), .second, .val (.int (2 : Int32)), .val (.int v13), .val (.ref b14), .unset] [(.int (8 : Int32)), (.long v7), (.int (3 : Int32)), (.ref b14)]))
    refine OutW.back (fun t k => XS.lushr X83.here hx rfl (hb hby at_208) rfl k) ?_
    show OutW _ _ _ _ _ _ _ (T83.setTop (mkF m 209 #[.val (.long q1), .second, .val (.int p2), .val (.int p3), .val (.int p4), .val (.int p5), .val (.int v1), .val (.int v2), .val (.long v3), .second, .val (.long v7), .second, .val (.int (2 : Int32)), .val (.int v13), .val (.ref b14), .unset] [(.long ((v7.toUInt64 >>> ((8 : Int32) &&& 0x3f).toInt64.toUInt64).toInt64)), (.int (3 : Int32)), (.ref b14)]))
    refine OutW.back (fun t k => XS.l2i X83.here hx rfl (hb hby at_209) rfl k) ?_
    show OutW _ _ _ _ _ _ _ (T83.setTop (mkF m 210 #[.val (.long q1), .second, .val (.int p2), .val (.int p3), .val (.int p4), .val (.int p5), .val (.int v1), .val (.int v2), .val (.long v3), .second, .val (.long v7), .second, .val (.int (2 : Int32)), .val (.int v13), .val (.ref b14), .unset] [(.int ((v7.toUInt64 >>> ((8 : Int32) &&& 0x3f).toInt64.toUInt64).toInt64).toInt32), (.int (3 : Int32)), (.ref b14)]))
    refine OutW.back (fun t k => XS.i2b X83.here hx rfl (hb hby at_210) rfl k) ?_
    show OutW _ _ _ _ _ _ _ (T83.setTop (mkF m 211 #[.val (.long q1), .second, .val (.int p2), .val (.int p3), .val (.int p4), .val (.int p5), .val (.int v1), .val (.int v2), .val (.long v3), .second, .val (.long v7), .second, .val (.int (2 : Int32)), .val (.int v13), .val (.ref b14), .unset] [(.int ((v7.toUInt64 >>> ((8 : Int32) &&& 0x3f).toInt64.toUInt64).toInt64).toInt32.toInt8.toInt32), (.int (3 : Int32)), (.ref b14)]))
    generalize hv_v84 : ((v7.toUInt64 >>> ((8 : Int32) &&& 0x3f).toInt64.toUInt64).toInt64).toInt32.toInt8.toInt32 = v84
    obtain ⟨cl85, Ar85, Qk85, Sz85, Nn85, Hh85, Gg85⟩ := id V_b14_83
    have hin85 : ¬ ((3 : Int32) < 0 ∨ cl85.slots.size ≤ ((3 : Int32)).toNatClampNeg) := inb_of Sz85 ⟨by decide, by decide⟩
    obtain ⟨T85, h85, X85, e85, W85, st85⟩ := stB X83 hx hZ e83 Ar85 (j := (3 : Int32)) hin85 (g := (mkF m 211 #[.val (.long q1), .second, .val (.int p2), .val (.int p3), .val (.int p4), .val (.int p5), .val (.int v1), .val (.int v2), .val (.long v3), .second, .val (.long v7), .second, .val (.int (2 : Int32)), .val (.int v13), .val (.ref b14), .unset] [(.int v84), (.int (3 : Int32)), (.ref b14)])) rfl rfl (hb hby at_211)
    have V_b14_85 : Arv Z h85 b14 k14 .byte (16 : Int32) [(.int (nar .byte v13)), (.int (nar .byte v13)), (.int (nar .byte v82)), (.int (nar .byte v84)), (.int (nar .byte v13)), (.int (nar .byte v13)), (.int (nar .byte v13)), (.int (nar .byte v13)), (.int (nar .byte v13)), (.int (nar .byte v13)), (.int (nar .byte v13)), (.int (nar .byte v13)), (.int (nar .byte v13)), (.int (nar .byte v13)), (.int (nar .byte v13)), (.int (nar .byte v13))] (.int (0 : Int32)) := Arv.set Ar85 Qk85 Sz85 Nn85 Hh85 Gg85 (fits_nar_byte _) W85 3 rfl (Nat.le_of_ble_eq_true rfl)
    have N85 := Fr.snoc X85 N83 g_b14
    have Z85 : n0 ≤ h85.size := Nat.le_trans Z83 (Keep.of_wr W85).1
    have K85 := K83.wr W85 (Or.inr sz_b14)
    obtain ⟨lc85, X85, N85⟩ : ∃ lc, Stand p l e room_1 s m #[(.long q1), (.int p2), (.int p3), (.int p4), (.int p5)] below meth c T85 lc 1 16 ∧ Fr n0 lc := ⟨_, X85, N85⟩
    refine OutW.back st85 ?_
    show OutW _ _ _ _ _ _ _ (T85.setTop (mkF m 212 #[.val (.long q1), .second, .val (.int p2), .val (.int p3), .val (.int p4), .val (.int p5), .val (.int v1), .val (.int v2), .val (.long v3), .second, .val (.long v7), .second, .val (.int (2 : Int32)), .val (.int v13), .val (.ref b14), .unset] []))
    refine OutW.back (fun t k => XS.aload X85.here hx rfl (hb hby at_212) rfl rfl  k) ?_
    show OutW _ _ _ _ _ _ _ (T85.setTop (mkF m 214 #[.val (.long q1), .second, .val (.int p2), .val (.int p3), .val (.int p4), .val (.int p5), .val (.int v1), .val (.int v2), .val (.long v3), .second, .val (.long v7), .second, .val (.int (2 : Int32)), .val (.int v13), .val (.ref b14), .unset] [(.ref b14)]))
    refine OutW.back (fun t k => XS.iload X85.here hx rfl (hb hby at_214) rfl  k) ?_
    show OutW _ _ _ _ _ _ _ (T85.setTop (mkF m 216 #[.val (.long q1), .second, .val (.int p2), .val (.int p3), .val (.int p4), .val (.int p5), .val (.int v1), .val (.int v2), .val (.long v3), .second, .val (.long v7), .second, .val (.int (2 : Int32)), .val (.int v13), .val (.ref b14), .unset] [(.int (2 : Int32)), (.ref b14)]))
    refine OutW.back (fun t k => XS.iconst X85.here hx rfl (hb hby at_216) k) ?_
    show OutW _ _ _ _ _ _ _ (T85.setTop (mkF m 217 #[.val (.long q1), .second, .val (.int p2), .val (.int p3), .val (.int p4), .val (.int p5), .val (.int v1), .val (.int v2), .val (.long v3), .second, .val (.long v7), .second, .val (.int (2 : Int32)), .val (.int v13), .val (.ref b14), .unset] [(.int (2 : Int32)), (.int (2 : Int32)), (.ref b14)]))
    refine OutW.back (fun t k => XS.iadd X85.here hx rfl (hb hby at_217) rfl k) ?_
    show OutW _ _ _ _ _ _ _ (T85.setTop (mkF m 218 #[.val (.long q1), .second, .val (.int p2), .val (.int p3), .val (.int p4), .val (.int p5), .val (.int v1), .val (.int v2), .val (.long v3), .second, .val (.long v7), .second, .val (.int (2 : Int32)), .val (.int v13), .val (.ref b14), .unset] [(.int ((2 : Int32) + (2 : Int32))), (.ref b14)]))
    rw [show ((2 : Int32) + (2 : Int32)) = (4 : Int32) from by decide]
    refine OutW.back (fun t k => XS.lload X85.here hx rfl (hb hby at_218) rfl  k) ?_
    show OutW _ _ _ _ _ _ _ (T85.setTop (mkF m 220 #[.val (.long q1), .second, .val (.int p2), .val (.int p3), .val (.int p4), .val (.int p5), .val (.int v1), .val (.int v2), .val (.long v3), .second, .val (.long v7), .second, .val (.int (2 : Int32)), .val (.int v13), .val (.ref b14), .unset] [(.long v7), (.int (4 : Int32)), (.ref b14)]))
    refine OutW.back (fun t k => XS.bipush X85.here hx rfl (hb hby at_220) k) ?_
    show OutW _ _ _ _ _ _ _ (T85.setTop (mkF m 222 #[.val (.long q1), .second, .val (.int p2), .val (.int p3), .val (.int p4), .val (.int p5), .val (.int v1), .val (.int v2), .val (.long v3), .second, .val (.long v7), .second, .val (.int (2 : Int32)), .val (.int v13), .val (.ref b14), .unset] [(.int (16 : Int32)), (.long v7), (.int (4 : Int32)), (.ref b14)]))
    refine OutW.back (fun t k => XS.lushr X85.here hx rfl (hb hby at_222) rfl k) ?_
    show OutW _ _ _ _ _ _ _ (T85.setTop (mkF m 223 #[.val (.long q1), .second, .val (.int p2), .val (.int p3), .val (.int p4), .val (.int p5), .val (.int v1), .val (.int v2), .val (.long v3), .second, .val (.long v7), .second, .val (.int (2 : Int32)), .val (.int v13), .val (.ref b14), .unset] [(.long ((v7.toUInt64 >>> ((16 : Int32) &&& 0x3f).toInt64.toUInt64).toInt64)), (.int (4 : Int32)), (.ref b14)]))
    refine OutW.back (fun t k => XS.l2i X85.here hx rfl (hb hby at_223) rfl k) ?_
    show OutW _ _ _ _ _ _ _ (T85.setTop (mkF m 224 #[.val (.long q1), .second, .val (.int p2), .val (.int p3), .val (.int p4), .val (.int p5), .val (.int v1), .val (.int v2), .val (.long v3), .second, .val (.long v7), .second, .val (.int (2 : Int32)), .val (.int v13), .val (.ref b14), .unset] [(.int ((v7.toUInt64 >>> ((16 : Int32) &&& 0x3f).toInt64.toUInt64).toInt64).toInt32), (.int (4 : Int32)), (.ref b14)]))
    refine OutW.back (fun t k => XS.i2b X85.here hx rfl (hb hby at_224) rfl k) ?_
    show OutW _ _ _ _ _ _ _ (T85.setTop (mkF m 225 #[.val (.long q1), .second, .val (.int p2), .val (.int p3), .val (.int p4), .val (.int p5), .val (.int v1), .val (.int v2), .val (.long v3), .second, .val (.long v7), .second, .val (.int (2 : Int32)), .val (.int v13), .val (.ref b14), .unset] [(.int ((v7.toUInt64 >>> ((16 : Int32) &&& 0x3f).toInt64.toUInt64).toInt64).toInt32.toInt8.toInt32), (.int (4 : Int32)), (.ref b14)]))
    generalize hv_v86 : ((v7.toUInt64 >>> ((16 : Int32) &&& 0x3f).toInt64.toUInt64).toInt64).toInt32.toInt8.toInt32 = v86
    obtain ⟨cl87, Ar87, Qk87, Sz87, Nn87, Hh87, Gg87⟩ := id V_b14_85
    have hin87 : ¬ ((4 : Int32) < 0 ∨ cl87.slots.size ≤ ((4 : Int32)).toNatClampNeg) := inb_of Sz87 ⟨by decide, by decide⟩
    obtain ⟨T87, h87, X87, e87, W87, st87⟩ := stB X85 hx hZ e85 Ar87 (j := (4 : Int32)) hin87 (g := (mkF m 225 #[.val (.long q1), .second, .val (.int p2), .val (.int p3), .val (.int p4), .val (.int p5), .val (.int v1), .val (.int v2), .val (.long v3), .second, .val (.long v7), .second, .val (.int (2 : Int32)), .val (.int v13), .val (.ref b14), .unset] [(.int v86), (.int (4 : Int32)), (.ref b14)])) rfl rfl (hb hby at_225)
    have V_b14_87 : Arv Z h87 b14 k14 .byte (16 : Int32) [(.int (nar .byte v13)), (.int (nar .byte v13)), (.int (nar .byte v82)), (.int (nar .byte v84)), (.int (nar .byte v86)), (.int (nar .byte v13)), (.int (nar .byte v13)), (.int (nar .byte v13)), (.int (nar .byte v13)), (.int (nar .byte v13)), (.int (nar .byte v13)), (.int (nar .byte v13)), (.int (nar .byte v13)), (.int (nar .byte v13)), (.int (nar .byte v13)), (.int (nar .byte v13))] (.int (0 : Int32)) := Arv.set Ar87 Qk87 Sz87 Nn87 Hh87 Gg87 (fits_nar_byte _) W87 4 rfl (Nat.le_of_ble_eq_true rfl)
    have N87 := Fr.snoc X87 N85 g_b14
    have Z87 : n0 ≤ h87.size := Nat.le_trans Z85 (Keep.of_wr W87).1
    have K87 := K85.wr W87 (Or.inr sz_b14)
    obtain ⟨lc87, X87, N87⟩ : ∃ lc, Stand p l e room_1 s m #[(.long q1), (.int p2), (.int p3), (.int p4), (.int p5)] below meth c T87 lc 1 16 ∧ Fr n0 lc := ⟨_, X87, N87⟩
    refine OutW.back st87 ?_
    show OutW _ _ _ _ _ _ _ (T87.setTop (mkF m 226 #[.val (.long q1), .second, .val (.int p2), .val (.int p3), .val (.int p4), .val (.int p5), .val (.int v1), .val (.int v2), .val (.long v3), .second, .val (.long v7), .second, .val (.int (2 : Int32)), .val (.int v13), .val (.ref b14), .unset] []))
    refine OutW.back (fun t k => XS.aload X87.here hx rfl (hb hby at_226) rfl rfl  k) ?_
    show OutW _ _ _ _ _ _ _ (T87.setTop (mkF m 228 #[.val (.long q1), .second, .val (.int p2), .val (.int p3), .val (.int p4), .val (.int p5), .val (.int v1), .val (.int v2), .val (.long v3), .second, .val (.long v7), .second, .val (.int (2 : Int32)), .val (.int v13), .val (.ref b14), .unset] [(.ref b14)]))
    refine OutW.back (fun t k => XS.iload X87.here hx rfl (hb hby at_228) rfl  k) ?_
    show OutW _ _ _ _ _ _ _ (T87.setTop (mkF m 230 #[.val (.long q1), .second, .val (.int p2), .val (.int p3), .val (.int p4), .val (.int p5), .val (.int v1), .val (.int v2), .val (.long v3), .second, .val (.long v7), .second, .val (.int (2 : Int32)), .val (.int v13), .val (.ref b14), .unset] [(.int (2 : Int32)), (.ref b14)]))
    refine OutW.back (fun t k => XS.iconst X87.here hx rfl (hb hby at_230) k) ?_
    show OutW _ _ _ _ _ _ _ (T87.setTop (mkF m 231 #[.val (.long q1), .second, .val (.int p2), .val (.int p3), .val (.int p4), .val (.int p5), .val (.int v1), .val (.int v2), .val (.long v3), .second, .val (.long v7), .second, .val (.int (2 : Int32)), .val (.int v13), .val (.ref b14), .unset] [(.int (3 : Int32)), (.int (2 : Int32)), (.ref b14)]))
    refine OutW.back (fun t k => XS.iadd X87.here hx rfl (hb hby at_231) rfl k) ?_
    show OutW _ _ _ _ _ _ _ (T87.setTop (mkF m 232 #[.val (.long q1), .second, .val (.int p2), .val (.int p3), .val (.int p4), .val (.int p5), .val (.int v1), .val (.int v2), .val (.long v3), .second, .val (.long v7), .second, .val (.int (2 : Int32)), .val (.int v13), .val (.ref b14), .unset] [(.int ((2 : Int32) + (3 : Int32))), (.ref b14)]))
    rw [show ((2 : Int32) + (3 : Int32)) = (5 : Int32) from by decide]
    refine OutW.back (fun t k => XS.lload X87.here hx rfl (hb hby at_232) rfl  k) ?_
    show OutW _ _ _ _ _ _ _ (T87.setTop (mkF m 234 #[.val (.long q1), .second, .val (.int p2), .val (.int p3), .val (.int p4), .val (.int p5), .val (.int v1), .val (.int v2), .val (.long v3), .second, .val (.long v7), .second, .val (.int (2 : Int32)), .val (.int v13), .val (.ref b14), .unset] [(.long v7), (.int (5 : Int32)), (.ref b14)]))
    refine OutW.back (fun t k => XS.bipush X87.here hx rfl (hb hby at_234) k) ?_
    show OutW _ _ _ _ _ _ _ (T87.setTop (mkF m 236 #[.val (.long q1), .second, .val (.int p2), .val (.int p3), .val (.int p4), .val (.int p5), .val (.int v1), .val (.int v2), .val (.long v3), .second, .val (.long v7), .second, .val (.int (2 : Int32)), .val (.int v13), .val (.ref b14), .unset] [(.int (24 : Int32)), (.long v7), (.int (5 : Int32)), (.ref b14)]))
    refine OutW.back (fun t k => XS.lushr X87.here hx rfl (hb hby at_236) rfl k) ?_
    show OutW _ _ _ _ _ _ _ (T87.setTop (mkF m 237 #[.val (.long q1), .second, .val (.int p2), .val (.int p3), .val (.int p4), .val (.int p5), .val (.int v1), .val (.int v2), .val (.long v3), .second, .val (.long v7), .second, .val (.int (2 : Int32)), .val (.int v13), .val (.ref b14), .unset] [(.long ((v7.toUInt64 >>> ((24 : Int32) &&& 0x3f).toInt64.toUInt64).toInt64)), (.int (5 : Int32)), (.ref b14)]))
    refine OutW.back (fun t k => XS.l2i X87.here hx rfl (hb hby at_237) rfl k) ?_
    show OutW _ _ _ _ _ _ _ (T87.setTop (mkF m 238 #[.val (.long q1), .second, .val (.int p2), .val (.int p3), .val (.int p4), .val (.int p5), .val (.int v1), .val (.int v2), .val (.long v3), .second, .val (.long v7), .second, .val (.int (2 : Int32)), .val (.int v13), .val (.ref b14), .unset] [(.int ((v7.toUInt64 >>> ((24 : Int32) &&& 0x3f).toInt64.toUInt64).toInt64).toInt32), (.int (5 : Int32)), (.ref b14)]))
    refine OutW.back (fun t k => XS.i2b X87.here hx rfl (hb hby at_238) rfl k) ?_
    show OutW _ _ _ _ _ _ _ (T87.setTop (mkF m 239 #[.val (.long q1), .second, .val (.int p2), .val (.int p3), .val (.int p4), .val (.int p5), .val (.int v1), .val (.int v2), .val (.long v3), .second, .val (.long v7), .second, .val (.int (2 : Int32)), .val (.int v13), .val (.ref b14), .unset] [(.int ((v7.toUInt64 >>> ((24 : Int32) &&& 0x3f).toInt64.toUInt64).toInt64).toInt32.toInt8.toInt32), (.int (5 : Int32)), (.ref b14)]))
    generalize hv_v88 : ((v7.toUInt64 >>> ((24 : Int32) &&& 0x3f).toInt64.toUInt64).toInt64).toInt32.toInt8.toInt32 = v88
    obtain ⟨cl89, Ar89, Qk89, Sz89, Nn89, Hh89, Gg89⟩ := id V_b14_87
    have hin89 : ¬ ((5 : Int32) < 0 ∨ cl89.slots.size ≤ ((5 : Int32)).toNatClampNeg) := inb_of Sz89 ⟨by decide, by decide⟩
    obtain ⟨T89, h89, X89, e89, W89, st89⟩ := stB X87 hx hZ e87 Ar89 (j := (5 : Int32)) hin89 (g := (mkF m 239 #[.val (.long q1), .second, .val (.int p2), .val (.int p3), .val (.int p4), .val (.int p5), .val (.int v1), .val (.int v2), .val (.long v3), .second, .val (.long v7), .second, .val (.int (2 : Int32)), .val (.int v13), .val (.ref b14), .unset] [(.int v88), (.int (5 : Int32)), (.ref b14)])) rfl rfl (hb hby at_239)
    have V_b14_89 : Arv Z h89 b14 k14 .byte (16 : Int32) [(.int (nar .byte v13)), (.int (nar .byte v13)), (.int (nar .byte v82)), (.int (nar .byte v84)), (.int (nar .byte v86)), (.int (nar .byte v88)), (.int (nar .byte v13)), (.int (nar .byte v13)), (.int (nar .byte v13)), (.int (nar .byte v13)), (.int (nar .byte v13)), (.int (nar .byte v13)), (.int (nar .byte v13)), (.int (nar .byte v13)), (.int (nar .byte v13)), (.int (nar .byte v13))] (.int (0 : Int32)) := Arv.set Ar89 Qk89 Sz89 Nn89 Hh89 Gg89 (fits_nar_byte _) W89 5 rfl (Nat.le_of_ble_eq_true rfl)
    have N89 := Fr.snoc X89 N87 g_b14
    have Z89 : n0 ≤ h89.size := Nat.le_trans Z87 (Keep.of_wr W89).1
    have K89 := K87.wr W89 (Or.inr sz_b14)
    obtain ⟨lc89, X89, N89⟩ : ∃ lc, Stand p l e room_1 s m #[(.long q1), (.int p2), (.int p3), (.int p4), (.int p5)] below meth c T89 lc 1 16 ∧ Fr n0 lc := ⟨_, X89, N89⟩
    refine OutW.back st89 ?_
    show OutW _ _ _ _ _ _ _ (T89.setTop (mkF m 240 #[.val (.long q1), .second, .val (.int p2), .val (.int p3), .val (.int p4), .val (.int p5), .val (.int v1), .val (.int v2), .val (.long v3), .second, .val (.long v7), .second, .val (.int (2 : Int32)), .val (.int v13), .val (.ref b14), .unset] []))
    refine OutW.back (fun t k => XS.aload X89.here hx rfl (hb hby at_240) rfl rfl  k) ?_
    show OutW _ _ _ _ _ _ _ (T89.setTop (mkF m 242 #[.val (.long q1), .second, .val (.int p2), .val (.int p3), .val (.int p4), .val (.int p5), .val (.int v1), .val (.int v2), .val (.long v3), .second, .val (.long v7), .second, .val (.int (2 : Int32)), .val (.int v13), .val (.ref b14), .unset] [(.ref b14)]))
    refine OutW.back (fun t k => XS.iload X89.here hx rfl (hb hby at_242) rfl  k) ?_
    show OutW _ _ _ _ _ _ _ (T89.setTop (mkF m 244 #[.val (.long q1), .second, .val (.int p2), .val (.int p3), .val (.int p4), .val (.int p5), .val (.int v1), .val (.int v2), .val (.long v3), .second, .val (.long v7), .second, .val (.int (2 : Int32)), .val (.int v13), .val (.ref b14), .unset] [(.int (2 : Int32)), (.ref b14)]))
    refine OutW.back (fun t k => XS.iconst X89.here hx rfl (hb hby at_244) k) ?_
    show OutW _ _ _ _ _ _ _ (T89.setTop (mkF m 245 #[.val (.long q1), .second, .val (.int p2), .val (.int p3), .val (.int p4), .val (.int p5), .val (.int v1), .val (.int v2), .val (.long v3), .second, .val (.long v7), .second, .val (.int (2 : Int32)), .val (.int v13), .val (.ref b14), .unset] [(.int (4 : Int32)), (.int (2 : Int32)), (.ref b14)]))
    refine OutW.back (fun t k => XS.iadd X89.here hx rfl (hb hby at_245) rfl k) ?_
    show OutW _ _ _ _ _ _ _ (T89.setTop (mkF m 246 #[.val (.long q1), .second, .val (.int p2), .val (.int p3), .val (.int p4), .val (.int p5), .val (.int v1), .val (.int v2), .val (.long v3), .second, .val (.long v7), .second, .val (.int (2 : Int32)), .val (.int v13), .val (.ref b14), .unset] [(.int ((2 : Int32) + (4 : Int32))), (.ref b14)]))
    rw [show ((2 : Int32) + (4 : Int32)) = (6 : Int32) from by decide]
    refine OutW.back (fun t k => XS.lload X89.here hx rfl (hb hby at_246) rfl  k) ?_
    show OutW _ _ _ _ _ _ _ (T89.setTop (mkF m 248 #[.val (.long q1), .second, .val (.int p2), .val (.int p3), .val (.int p4), .val (.int p5), .val (.int v1), .val (.int v2), .val (.long v3), .second, .val (.long v7), .second, .val (.int (2 : Int32)), .val (.int v13), .val (.ref b14), .unset] [(.long v7), (.int (6 : Int32)), (.ref b14)]))
    refine OutW.back (fun t k => XS.bipush X89.here hx rfl (hb hby at_248) k) ?_
    show OutW _ _ _ _ _ _ _ (T89.setTop (mkF m 250 #[.val (.long q1), .second, .val (.int p2), .val (.int p3), .val (.int p4), .val (.int p5), .val (.int v1), .val (.int v2), .val (.long v3), .second, .val (.long v7), .second, .val (.int (2 : Int32)), .val (.int v13), .val (.ref b14), .unset] [(.int (32 : Int32)), (.long v7), (.int (6 : Int32)), (.ref b14)]))
    refine OutW.back (fun t k => XS.lushr X89.here hx rfl (hb hby at_250) rfl k) ?_
    show OutW _ _ _ _ _ _ _ (T89.setTop (mkF m 251 #[.val (.long q1), .second, .val (.int p2), .val (.int p3), .val (.int p4), .val (.int p5), .val (.int v1), .val (.int v2), .val (.long v3), .second, .val (.long v7), .second, .val (.int (2 : Int32)), .val (.int v13), .val (.ref b14), .unset] [(.long ((v7.toUInt64 >>> ((32 : Int32) &&& 0x3f).toInt64.toUInt64).toInt64)), (.int (6 : Int32)), (.ref b14)]))
    refine OutW.back (fun t k => XS.l2i X89.here hx rfl (hb hby at_251) rfl k) ?_
    show OutW _ _ _ _ _ _ _ (T89.setTop (mkF m 252 #[.val (.long q1), .second, .val (.int p2), .val (.int p3), .val (.int p4), .val (.int p5), .val (.int v1), .val (.int v2), .val (.long v3), .second, .val (.long v7), .second, .val (.int (2 : Int32)), .val (.int v13), .val (.ref b14), .unset] [(.int ((v7.toUInt64 >>> ((32 : Int32) &&& 0x3f).toInt64.toUInt64).toInt64).toInt32), (.int (6 : Int32)), (.ref b14)]))
    refine OutW.back (fun t k => XS.i2b X89.here hx rfl (hb hby at_252) rfl k) ?_
    show OutW _ _ _ _ _ _ _ (T89.setTop (mkF m 253 #[.val (.long q1), .second, .val (.int p2), .val (.int p3), .val (.int p4), .val (.int p5), .val (.int v1), .val (.int v2), .val (.long v3), .second, .val (.long v7), .second, .val (.int (2 : Int32)), .val (.int v13), .val (.ref b14), .unset] [(.int ((v7.toUInt64 >>> ((32 : Int32) &&& 0x3f).toInt64.toUInt64).toInt64).toInt32.toInt8.toInt32), (.int (6 : Int32)), (.ref b14)]))
    generalize hv_v90 : ((v7.toUInt64 >>> ((32 : Int32) &&& 0x3f).toInt64.toUInt64).toInt64).toInt32.toInt8.toInt32 = v90
    obtain ⟨cl91, Ar91, Qk91, Sz91, Nn91, Hh91, Gg91⟩ := id V_b14_89
    have hin91 : ¬ ((6 : Int32) < 0 ∨ cl91.slots.size ≤ ((6 : Int32)).toNatClampNeg) := inb_of Sz91 ⟨by decide, by decide⟩
    obtain ⟨T91, h91, X91, e91, W91, st91⟩ := stB X89 hx hZ e89 Ar91 (j := (6 : Int32)) hin91 (g := (mkF m 253 #[.val (.long q1), .second, .val (.int p2), .val (.int p3), .val (.int p4), .val (.int p5), .val (.int v1), .val (.int v2), .val (.long v3), .second, .val (.long v7), .second, .val (.int (2 : Int32)), .val (.int v13), .val (.ref b14), .unset] [(.int v90), (.int (6 : Int32)), (.ref b14)])) rfl rfl (hb hby at_253)
    have V_b14_91 : Arv Z h91 b14 k14 .byte (16 : Int32) [(.int (nar .byte v13)), (.int (nar .byte v13)), (.int (nar .byte v82)), (.int (nar .byte v84)), (.int (nar .byte v86)), (.int (nar .byte v88)), (.int (nar .byte v90)), (.int (nar .byte v13)), (.int (nar .byte v13)), (.int (nar .byte v13)), (.int (nar .byte v13)), (.int (nar .byte v13)), (.int (nar .byte v13)), (.int (nar .byte v13)), (.int (nar .byte v13)), (.int (nar .byte v13))] (.int (0 : Int32)) := Arv.set Ar91 Qk91 Sz91 Nn91 Hh91 Gg91 (fits_nar_byte _) W91 6 rfl (Nat.le_of_ble_eq_true rfl)
    have N91 := Fr.snoc X91 N89 g_b14
    have Z91 : n0 ≤ h91.size := Nat.le_trans Z89 (Keep.of_wr W91).1
    have K91 := K89.wr W91 (Or.inr sz_b14)
    obtain ⟨lc91, X91, N91⟩ : ∃ lc, Stand p l e room_1 s m #[(.long q1), (.int p2), (.int p3), (.int p4), (.int p5)] below meth c T91 lc 1 16 ∧ Fr n0 lc := ⟨_, X91, N91⟩
    refine OutW.back st91 ?_
    show OutW _ _ _ _ _ _ _ (T91.setTop (mkF m 254 #[.val (.long q1), .second, .val (.int p2), .val (.int p3), .val (.int p4), .val (.int p5), .val (.int v1), .val (.int v2), .val (.long v3), .second, .val (.long v7), .second, .val (.int (2 : Int32)), .val (.int v13), .val (.ref b14), .unset] []))
    refine OutW.back (fun t k => XS.aload X91.here hx rfl (hb hby at_254) rfl rfl  k) ?_
    show OutW _ _ _ _ _ _ _ (T91.setTop (mkF m 256 #[.val (.long q1), .second, .val (.int p2), .val (.int p3), .val (.int p4), .val (.int p5), .val (.int v1), .val (.int v2), .val (.long v3), .second, .val (.long v7), .second, .val (.int (2 : Int32)), .val (.int v13), .val (.ref b14), .unset] [(.ref b14)]))
    refine OutW.back (fun t k => XS.iload X91.here hx rfl (hb hby at_256) rfl  k) ?_
    show OutW _ _ _ _ _ _ _ (T91.setTop (mkF m 258 #[.val (.long q1), .second, .val (.int p2), .val (.int p3), .val (.int p4), .val (.int p5), .val (.int v1), .val (.int v2), .val (.long v3), .second, .val (.long v7), .second, .val (.int (2 : Int32)), .val (.int v13), .val (.ref b14), .unset] [(.int (2 : Int32)), (.ref b14)]))
    refine OutW.back (fun t k => XS.iconst X91.here hx rfl (hb hby at_258) k) ?_
    show OutW _ _ _ _ _ _ _ (T91.setTop (mkF m 259 #[.val (.long q1), .second, .val (.int p2), .val (.int p3), .val (.int p4), .val (.int p5), .val (.int v1), .val (.int v2), .val (.long v3), .second, .val (.long v7), .second, .val (.int (2 : Int32)), .val (.int v13), .val (.ref b14), .unset] [(.int (5 : Int32)), (.int (2 : Int32)), (.ref b14)]))
    refine OutW.back (fun t k => XS.iadd X91.here hx rfl (hb hby at_259) rfl k) ?_
    show OutW _ _ _ _ _ _ _ (T91.setTop (mkF m 260 #[.val (.long q1), .second, .val (.int p2), .val (.int p3), .val (.int p4), .val (.int p5), .val (.int v1), .val (.int v2), .val (.long v3), .second, .val (.long v7), .second, .val (.int (2 : Int32)), .val (.int v13), .val (.ref b14), .unset] [(.int ((2 : Int32) + (5 : Int32))), (.ref b14)]))
    rw [show ((2 : Int32) + (5 : Int32)) = (7 : Int32) from by decide]
    refine OutW.back (fun t k => XS.lload X91.here hx rfl (hb hby at_260) rfl  k) ?_
    show OutW _ _ _ _ _ _ _ (T91.setTop (mkF m 262 #[.val (.long q1), .second, .val (.int p2), .val (.int p3), .val (.int p4), .val (.int p5), .val (.int v1), .val (.int v2), .val (.long v3), .second, .val (.long v7), .second, .val (.int (2 : Int32)), .val (.int v13), .val (.ref b14), .unset] [(.long v7), (.int (7 : Int32)), (.ref b14)]))
    refine OutW.back (fun t k => XS.bipush X91.here hx rfl (hb hby at_262) k) ?_
    show OutW _ _ _ _ _ _ _ (T91.setTop (mkF m 264 #[.val (.long q1), .second, .val (.int p2), .val (.int p3), .val (.int p4), .val (.int p5), .val (.int v1), .val (.int v2), .val (.long v3), .second, .val (.long v7), .second, .val (.int (2 : Int32)), .val (.int v13), .val (.ref b14), .unset] [(.int (40 : Int32)), (.long v7), (.int (7 : Int32)), (.ref b14)]))
    refine OutW.back (fun t k => XS.lushr X91.here hx rfl (hb hby at_264) rfl k) ?_
    show OutW _ _ _ _ _ _ _ (T91.setTop (mkF m 265 #[.val (.long q1), .second, .val (.int p2), .val (.int p3), .val (.int p4), .val (.int p5), .val (.int v1), .val (.int v2), .val (.long v3), .second, .val (.long v7), .second, .val (.int (2 : Int32)), .val (.int v13), .val (.ref b14), .unset] [(.long ((v7.toUInt64 >>> ((40 : Int32) &&& 0x3f).toInt64.toUInt64).toInt64)), (.int (7 : Int32)), (.ref b14)]))
    refine OutW.back (fun t k => XS.l2i X91.here hx rfl (hb hby at_265) rfl k) ?_
    show OutW _ _ _ _ _ _ _ (T91.setTop (mkF m 266 #[.val (.long q1), .second, .val (.int p2), .val (.int p3), .val (.int p4), .val (.int p5), .val (.int v1), .val (.int v2), .val (.long v3), .second, .val (.long v7), .second, .val (.int (2 : Int32)), .val (.int v13), .val (.ref b14), .unset] [(.int ((v7.toUInt64 >>> ((40 : Int32) &&& 0x3f).toInt64.toUInt64).toInt64).toInt32), (.int (7 : Int32)), (.ref b14)]))
    refine OutW.back (fun t k => XS.i2b X91.here hx rfl (hb hby at_266) rfl k) ?_
    show OutW _ _ _ _ _ _ _ (T91.setTop (mkF m 267 #[.val (.long q1), .second, .val (.int p2), .val (.int p3), .val (.int p4), .val (.int p5), .val (.int v1), .val (.int v2), .val (.long v3), .second, .val (.long v7), .second, .val (.int (2 : Int32)), .val (.int v13), .val (.ref b14), .unset] [(.int ((v7.toUInt64 >>> ((40 : Int32) &&& 0x3f).toInt64.toUInt64).toInt64).toInt32.toInt8.toInt32), (.int (7 : Int32)), (.ref b14)]))
    generalize hv_v92 : ((v7.toUInt64 >>> ((40 : Int32) &&& 0x3f).toInt64.toUInt64).toInt64).toInt32.toInt8.toInt32 = v92
    obtain ⟨cl93, Ar93, Qk93, Sz93, Nn93, Hh93, Gg93⟩ := id V_b14_91
    have hin93 : ¬ ((7 : Int32) < 0 ∨ cl93.slots.size ≤ ((7 : Int32)).toNatClampNeg) := inb_of Sz93 ⟨by decide, by decide⟩
    obtain ⟨T93, h93, X93, e93, W93, st93⟩ := stB X91 hx hZ e91 Ar93 (j := (7 : Int32)) hin93 (g := (mkF m 267 #[.val (.long q1), .second, .val (.int p2), .val (.int p3), .val (.int p4), .val (.int p5), .val (.int v1), .val (.int v2), .val (.long v3), .second, .val (.long v7), .second, .val (.int (2 : Int32)), .val (.int v13), .val (.ref b14), .unset] [(.int v92), (.int (7 : Int32)), (.ref b14)])) rfl rfl (hb hby at_267)
    have V_b14_93 : Arv Z h93 b14 k14 .byte (16 : Int32) [(.int (nar .byte v13)), (.int (nar .byte v13)), (.int (nar .byte v82)), (.int (nar .byte v84)), (.int (nar .byte v86)), (.int (nar .byte v88)), (.int (nar .byte v90)), (.int (nar .byte v92)), (.int (nar .byte v13)), (.int (nar .byte v13)), (.int (nar .byte v13)), (.int (nar .byte v13)), (.int (nar .byte v13)), (.int (nar .byte v13)), (.int (nar .byte v13)), (.int (nar .byte v13))] (.int (0 : Int32)) := Arv.set Ar93 Qk93 Sz93 Nn93 Hh93 Gg93 (fits_nar_byte _) W93 7 rfl (Nat.le_of_ble_eq_true rfl)
    have N93 := Fr.snoc X93 N91 g_b14
    have Z93 : n0 ≤ h93.size := Nat.le_trans Z91 (Keep.of_wr W93).1
    have K93 := K91.wr W93 (Or.inr sz_b14)
    obtain ⟨lc93, X93, N93⟩ : ∃ lc, Stand p l e room_1 s m #[(.long q1), (.int p2), (.int p3), (.int p4), (.int p5)] below meth c T93 lc 1 16 ∧ Fr n0 lc := ⟨_, X93, N93⟩
    refine OutW.back st93 ?_
    show OutW _ _ _ _ _ _ _ (T93.setTop (mkF m 268 #[.val (.long q1), .second, .val (.int p2), .val (.int p3), .val (.int p4), .val (.int p5), .val (.int v1), .val (.int v2), .val (.long v3), .second, .val (.long v7), .second, .val (.int (2 : Int32)), .val (.int v13), .val (.ref b14), .unset] []))
    refine OutW.back (fun t k => XS.aload X93.here hx rfl (hb hby at_268) rfl rfl  k) ?_
    show OutW _ _ _ _ _ _ _ (T93.setTop (mkF m 270 #[.val (.long q1), .second, .val (.int p2), .val (.int p3), .val (.int p4), .val (.int p5), .val (.int v1), .val (.int v2), .val (.long v3), .second, .val (.long v7), .second, .val (.int (2 : Int32)), .val (.int v13), .val (.ref b14), .unset] [(.ref b14)]))
    refine OutW.back (fun t k => XS.iload X93.here hx rfl (hb hby at_270) rfl  k) ?_
    show OutW _ _ _ _ _ _ _ (T93.setTop (mkF m 272 #[.val (.long q1), .second, .val (.int p2), .val (.int p3), .val (.int p4), .val (.int p5), .val (.int v1), .val (.int v2), .val (.long v3), .second, .val (.long v7), .second, .val (.int (2 : Int32)), .val (.int v13), .val (.ref b14), .unset] [(.int (2 : Int32)), (.ref b14)]))
    refine OutW.back (fun t k => XS.bipush X93.here hx rfl (hb hby at_272) k) ?_
    show OutW _ _ _ _ _ _ _ (T93.setTop (mkF m 274 #[.val (.long q1), .second, .val (.int p2), .val (.int p3), .val (.int p4), .val (.int p5), .val (.int v1), .val (.int v2), .val (.long v3), .second, .val (.long v7), .second, .val (.int (2 : Int32)), .val (.int v13), .val (.ref b14), .unset] [(.int (6 : Int32)), (.int (2 : Int32)), (.ref b14)]))
    refine OutW.back (fun t k => XS.iadd X93.here hx rfl (hb hby at_274) rfl k) ?_
    show OutW _ _ _ _ _ _ _ (T93.setTop (mkF m 275 #[.val (.long q1), .second, .val (.int p2), .val (.int p3), .val (.int p4), .val (.int p5), .val (.int v1), .val (.int v2), .val (.long v3), .second, .val (.long v7), .second, .val (.int (2 : Int32)), .val (.int v13), .val (.ref b14), .unset] [(.int ((2 : Int32) + (6 : Int32))), (.ref b14)]))
    rw [show ((2 : Int32) + (6 : Int32)) = (8 : Int32) from by decide]
    refine OutW.back (fun t k => XS.lload X93.here hx rfl (hb hby at_275) rfl  k) ?_
    show OutW _ _ _ _ _ _ _ (T93.setTop (mkF m 277 #[.val (.long q1), .second, .val (.int p2), .val (.int p3), .val (.int p4), .val (.int p5), .val (.int v1), .val (.int v2), .val (.long v3), .second, .val (.long v7), .second, .val (.int (2 : Int32)), .val (.int v13), .val (.ref b14), .unset] [(.long v7), (.int (8 : Int32)), (.ref b14)]))
    refine OutW.back (fun t k => XS.bipush X93.here hx rfl (hb hby at_277) k) ?_
    show OutW _ _ _ _ _ _ _ (T93.setTop (mkF m 279 #[.val (.long q1), .second, .val (.int p2), .val (.int p3), .val (.int p4), .val (.int p5), .val (.int v1), .val (.int v2), .val (.long v3), .second, .val (.long v7), .second, .val (.int (2 : Int32)), .val (.int v13), .val (.ref b14), .unset] [(.int (48 : Int32)), (.long v7), (.int (8 : Int32)), (.ref b14)]))
    refine OutW.back (fun t k => XS.lushr X93.here hx rfl (hb hby at_279) rfl k) ?_
    show OutW _ _ _ _ _ _ _ (T93.setTop (mkF m 280 #[.val (.long q1), .second, .val (.int p2), .val (.int p3), .val (.int p4), .val (.int p5), .val (.int v1), .val (.int v2), .val (.long v3), .second, .val (.long v7), .second, .val (.int (2 : Int32)), .val (.int v13), .val (.ref b14), .unset] [(.long ((v7.toUInt64 >>> ((48 : Int32) &&& 0x3f).toInt64.toUInt64).toInt64)), (.int (8 : Int32)), (.ref b14)]))
    refine OutW.back (fun t k => XS.l2i X93.here hx rfl (hb hby at_280) rfl k) ?_
    show OutW _ _ _ _ _ _ _ (T93.setTop (mkF m 281 #[.val (.long q1), .second, .val (.int p2), .val (.int p3), .val (.int p4), .val (.int p5), .val (.int v1), .val (.int v2), .val (.long v3), .second, .val (.long v7), .second, .val (.int (2 : Int32)), .val (.int v13), .val (.ref b14), .unset] [(.int ((v7.toUInt64 >>> ((48 : Int32) &&& 0x3f).toInt64.toUInt64).toInt64).toInt32), (.int (8 : Int32)), (.ref b14)]))
    refine OutW.back (fun t k => XS.i2b X93.here hx rfl (hb hby at_281) rfl k) ?_
    show OutW _ _ _ _ _ _ _ (T93.setTop (mkF m 282 #[.val (.long q1), .second, .val (.int p2), .val (.int p3), .val (.int p4), .val (.int p5), .val (.int v1), .val (.int v2), .val (.long v3), .second, .val (.long v7), .second, .val (.int (2 : Int32)), .val (.int v13), .val (.ref b14), .unset] [(.int ((v7.toUInt64 >>> ((48 : Int32) &&& 0x3f).toInt64.toUInt64).toInt64).toInt32.toInt8.toInt32), (.int (8 : Int32)), (.ref b14)]))
    generalize hv_v94 : ((v7.toUInt64 >>> ((48 : Int32) &&& 0x3f).toInt64.toUInt64).toInt64).toInt32.toInt8.toInt32 = v94
    obtain ⟨cl95, Ar95, Qk95, Sz95, Nn95, Hh95, Gg95⟩ := id V_b14_93
    have hin95 : ¬ ((8 : Int32) < 0 ∨ cl95.slots.size ≤ ((8 : Int32)).toNatClampNeg) := inb_of Sz95 ⟨by decide, by decide⟩
    obtain ⟨T95, h95, X95, e95, W95, st95⟩ := stB X93 hx hZ e93 Ar95 (j := (8 : Int32)) hin95 (g := (mkF m 282 #[.val (.long q1), .second, .val (.int p2), .val (.int p3), .val (.int p4), .val (.int p5), .val (.int v1), .val (.int v2), .val (.long v3), .second, .val (.long v7), .second, .val (.int (2 : Int32)), .val (.int v13), .val (.ref b14), .unset] [(.int v94), (.int (8 : Int32)), (.ref b14)])) rfl rfl (hb hby at_282)
    have V_b14_95 : Arv Z h95 b14 k14 .byte (16 : Int32) [(.int (nar .byte v13)), (.int (nar .byte v13)), (.int (nar .byte v82)), (.int (nar .byte v84)), (.int (nar .byte v86)), (.int (nar .byte v88)), (.int (nar .byte v90)), (.int (nar .byte v92)), (.int (nar .byte v94)), (.int (nar .byte v13)), (.int (nar .byte v13)), (.int (nar .byte v13)), (.int (nar .byte v13)), (.int (nar .byte v13)), (.int (nar .byte v13)), (.int (nar .byte v13))] (.int (0 : Int32)) := Arv.set Ar95 Qk95 Sz95 Nn95 Hh95 Gg95 (fits_nar_byte _) W95 8 rfl (Nat.le_of_ble_eq_true rfl)
    have N95 := Fr.snoc X95 N93 g_b14
    have Z95 : n0 ≤ h95.size := Nat.le_trans Z93 (Keep.of_wr W95).1
    have K95 := K93.wr W95 (Or.inr sz_b14)
    obtain ⟨lc95, X95, N95⟩ : ∃ lc, Stand p l e room_1 s m #[(.long q1), (.int p2), (.int p3), (.int p4), (.int p5)] below meth c T95 lc 1 16 ∧ Fr n0 lc := ⟨_, X95, N95⟩
    refine OutW.back st95 ?_
    show OutW _ _ _ _ _ _ _ (T95.setTop (mkF m 283 #[.val (.long q1), .second, .val (.int p2), .val (.int p3), .val (.int p4), .val (.int p5), .val (.int v1), .val (.int v2), .val (.long v3), .second, .val (.long v7), .second, .val (.int (2 : Int32)), .val (.int v13), .val (.ref b14), .unset] []))
    refine OutW.back (fun t k => XS.aload X95.here hx rfl (hb hby at_283) rfl rfl  k) ?_
    show OutW _ _ _ _ _ _ _ (T95.setTop (mkF m 285 #[.val (.long q1), .second, .val (.int p2), .val (.int p3), .val (.int p4), .val (.int p5), .val (.int v1), .val (.int v2), .val (.long v3), .second, .val (.long v7), .second, .val (.int (2 : Int32)), .val (.int v13), .val (.ref b14), .unset] [(.ref b14)]))
    refine OutW.back (fun t k => XS.iload X95.here hx rfl (hb hby at_285) rfl  k) ?_
    show OutW _ _ _ _ _ _ _ (T95.setTop (mkF m 287 #[.val (.long q1), .second, .val (.int p2), .val (.int p3), .val (.int p4), .val (.int p5), .val (.int v1), .val (.int v2), .val (.long v3), .second, .val (.long v7), .second, .val (.int (2 : Int32)), .val (.int v13), .val (.ref b14), .unset] [(.int (2 : Int32)), (.ref b14)]))
    refine OutW.back (fun t k => XS.bipush X95.here hx rfl (hb hby at_287) k) ?_
    show OutW _ _ _ _ _ _ _ (T95.setTop (mkF m 289 #[.val (.long q1), .second, .val (.int p2), .val (.int p3), .val (.int p4), .val (.int p5), .val (.int v1), .val (.int v2), .val (.long v3), .second, .val (.long v7), .second, .val (.int (2 : Int32)), .val (.int v13), .val (.ref b14), .unset] [(.int (7 : Int32)), (.int (2 : Int32)), (.ref b14)]))
    refine OutW.back (fun t k => XS.iadd X95.here hx rfl (hb hby at_289) rfl k) ?_
    show OutW _ _ _ _ _ _ _ (T95.setTop (mkF m 290 #[.val (.long q1), .second, .val (.int p2), .val (.int p3), .val (.int p4), .val (.int p5), .val (.int v1), .val (.int v2), .val (.long v3), .second, .val (.long v7), .second, .val (.int (2 : Int32)), .val (.int v13), .val (.ref b14), .unset] [(.int ((2 : Int32) + (7 : Int32))), (.ref b14)]))
    rw [show ((2 : Int32) + (7 : Int32)) = (9 : Int32) from by decide]
    refine OutW.back (fun t k => XS.lload X95.here hx rfl (hb hby at_290) rfl  k) ?_
    show OutW _ _ _ _ _ _ _ (T95.setTop (mkF m 292 #[.val (.long q1), .second, .val (.int p2), .val (.int p3), .val (.int p4), .val (.int p5), .val (.int v1), .val (.int v2), .val (.long v3), .second, .val (.long v7), .second, .val (.int (2 : Int32)), .val (.int v13), .val (.ref b14), .unset] [(.long v7), (.int (9 : Int32)), (.ref b14)]))
    refine OutW.back (fun t k => XS.bipush X95.here hx rfl (hb hby at_292) k) ?_
    show OutW _ _ _ _ _ _ _ (T95.setTop (mkF m 294 #[.val (.long q1), .second, .val (.int p2), .val (.int p3), .val (.int p4), .val (.int p5), .val (.int v1), .val (.int v2), .val (.long v3), .second, .val (.long v7), .second, .val (.int (2 : Int32)), .val (.int v13), .val (.ref b14), .unset] [(.int (56 : Int32)), (.long v7), (.int (9 : Int32)), (.ref b14)]))
    refine OutW.back (fun t k => XS.lushr X95.here hx rfl (hb hby at_294) rfl k) ?_
    show OutW _ _ _ _ _ _ _ (T95.setTop (mkF m 295 #[.val (.long q1), .second, .val (.int p2), .val (.int p3), .val (.int p4), .val (.int p5), .val (.int v1), .val (.int v2), .val (.long v3), .second, .val (.long v7), .second, .val (.int (2 : Int32)), .val (.int v13), .val (.ref b14), .unset] [(.long ((v7.toUInt64 >>> ((56 : Int32) &&& 0x3f).toInt64.toUInt64).toInt64)), (.int (9 : Int32)), (.ref b14)]))
    refine OutW.back (fun t k => XS.l2i X95.here hx rfl (hb hby at_295) rfl k) ?_
    show OutW _ _ _ _ _ _ _ (T95.setTop (mkF m 296 #[.val (.long q1), .second, .val (.int p2), .val (.int p3), .val (.int p4), .val (.int p5), .val (.int v1), .val (.int v2), .val (.long v3), .second, .val (.long v7), .second, .val (.int (2 : Int32)), .val (.int v13), .val (.ref b14), .unset] [(.int ((v7.toUInt64 >>> ((56 : Int32) &&& 0x3f).toInt64.toUInt64).toInt64).toInt32), (.int (9 : Int32)), (.ref b14)]))
    refine OutW.back (fun t k => XS.i2b X95.here hx rfl (hb hby at_296) rfl k) ?_
    show OutW _ _ _ _ _ _ _ (T95.setTop (mkF m 297 #[.val (.long q1), .second, .val (.int p2), .val (.int p3), .val (.int p4), .val (.int p5), .val (.int v1), .val (.int v2), .val (.long v3), .second, .val (.long v7), .second, .val (.int (2 : Int32)), .val (.int v13), .val (.ref b14), .unset] [(.int ((v7.toUInt64 >>> ((56 : Int32) &&& 0x3f).toInt64.toUInt64).toInt64).toInt32.toInt8.toInt32), (.int (9 : Int32)), (.ref b14)]))
    generalize hv_v96 : ((v7.toUInt64 >>> ((56 : Int32) &&& 0x3f).toInt64.toUInt64).toInt64).toInt32.toInt8.toInt32 = v96
    obtain ⟨cl97, Ar97, Qk97, Sz97, Nn97, Hh97, Gg97⟩ := id V_b14_95
    have hin97 : ¬ ((9 : Int32) < 0 ∨ cl97.slots.size ≤ ((9 : Int32)).toNatClampNeg) := inb_of Sz97 ⟨by decide, by decide⟩
    obtain ⟨T97, h97, X97, e97, W97, st97⟩ := stB X95 hx hZ e95 Ar97 (j := (9 : Int32)) hin97 (g := (mkF m 297 #[.val (.long q1), .second, .val (.int p2), .val (.int p3), .val (.int p4), .val (.int p5), .val (.int v1), .val (.int v2), .val (.long v3), .second, .val (.long v7), .second, .val (.int (2 : Int32)), .val (.int v13), .val (.ref b14), .unset] [(.int v96), (.int (9 : Int32)), (.ref b14)])) rfl rfl (hb hby at_297)
    have V_b14_97 : Arv Z h97 b14 k14 .byte (16 : Int32) [(.int (nar .byte v13)), (.int (nar .byte v13)), (.int (nar .byte v82)), (.int (nar .byte v84)), (.int (nar .byte v86)), (.int (nar .byte v88)), (.int (nar .byte v90)), (.int (nar .byte v92)), (.int (nar .byte v94)), (.int (nar .byte v96)), (.int (nar .byte v13)), (.int (nar .byte v13)), (.int (nar .byte v13)), (.int (nar .byte v13)), (.int (nar .byte v13)), (.int (nar .byte v13))] (.int (0 : Int32)) := Arv.set Ar97 Qk97 Sz97 Nn97 Hh97 Gg97 (fits_nar_byte _) W97 9 rfl (Nat.le_of_ble_eq_true rfl)
    have N97 := Fr.snoc X97 N95 g_b14
    have Z97 : n0 ≤ h97.size := Nat.le_trans Z95 (Keep.of_wr W97).1
    have K97 := K95.wr W97 (Or.inr sz_b14)
    obtain ⟨lc97, X97, N97⟩ : ∃ lc, Stand p l e room_1 s m #[(.long q1), (.int p2), (.int p3), (.int p4), (.int p5)] below meth c T97 lc 1 16 ∧ Fr n0 lc := ⟨_, X97, N97⟩
    refine OutW.back st97 ?_
    show OutW _ _ _ _ _ _ _ (T97.setTop (mkF m 298 #[.val (.long q1), .second, .val (.int p2), .val (.int p3), .val (.int p4), .val (.int p5), .val (.int v1), .val (.int v2), .val (.long v3), .second, .val (.long v7), .second, .val (.int (2 : Int32)), .val (.int v13), .val (.ref b14), .unset] []))
    refine OutW.back (fun t k => XS.lload X97.here hx rfl (hb hby at_298) rfl  k) ?_
    show OutW _ _ _ _ _ _ _ (T97.setTop (mkF m 300 #[.val (.long q1), .second, .val (.int p2), .val (.int p3), .val (.int p4), .val (.int p5), .val (.int v1), .val (.int v2), .val (.long v3), .second, .val (.long v7), .second, .val (.int (2 : Int32)), .val (.int v13), .val (.ref b14), .unset] [(.long v7)]))
    refine OutW.back (X97.ldc2Long hx hown (mvT hZ (hw _ (List.mem_of_getElem? (i := 1) rfl))) (g := (mkF m 300 #[.val (.long q1), .second, .val (.int p2), .val (.int p3), .val (.int p4), .val (.int p5), .val (.int v1), .val (.int v2), .val (.long v3), .second, .val (.long v7), .second, .val (.int (2 : Int32)), .val (.int v13), .val (.ref b14), .unset] [(.long v7)])) rfl (hb hby at_300)) ?_
    show OutW _ _ _ _ _ _ _ (T97.setTop (mkF m 303 #[.val (.long q1), .second, .val (.int p2), .val (.int p3), .val (.int p4), .val (.int p5), .val (.int v1), .val (.int v2), .val (.long v3), .second, .val (.long v7), .second, .val (.int (2 : Int32)), .val (.int v13), .val (.ref b14), .unset] [(.long (-9223372036854775808 : Int64)), (.long v7)]))
    refine OutW.back (fun t k => XS.lcmp X97.here hx rfl (hb hby at_303) rfl k) ?_
    show OutW _ _ _ _ _ _ _ (T97.setTop (mkF m 304 #[.val (.long q1), .second, .val (.int p2), .val (.int p3), .val (.int p4), .val (.int p5), .val (.int v1), .val (.int v2), .val (.long v3), .second, .val (.long v7), .second, .val (.int (2 : Int32)), .val (.int v13), .val (.ref b14), .unset] [(.int (lcmpW v7 (-9223372036854775808 : Int64)))]))
    obtain ⟨v99, hv_v99⟩ : ∃ z : Int32, z = (if v7 = (-9223372036854775808 : Int64) then (1 : Int32) else (0 : Int32)) := ⟨_, rfl⟩
    have j100 : ∀ t, Steps p.tables e below (T97.setTop (mkF m 312 #[.val (.long q1), .second, .val (.int p2), .val (.int p3), .val (.int p4), .val (.int p5), .val (.int v1), .val (.int v2), .val (.long v3), .second, .val (.long v7), .second, .val (.int (2 : Int32)), .val (.int v13), .val (.ref b14), .unset] [(.int v99)])) t → Steps p.tables e below (T97.setTop (mkF m 304 #[.val (.long q1), .second, .val (.int p2), .val (.int p3), .val (.int p4), .val (.int p5), .val (.int v1), .val (.int v2), .val (.long v3), .second, .val (.long v7), .second, .val (.int (2 : Int32)), .val (.int v13), .val (.ref b14), .unset] [(.int (lcmpW v7 (-9223372036854775808 : Int64)))])) t := by
      intro t k
      by_cases c304_101 : v7 = (-9223372036854775808 : Int64)
      · skip
        refine XS.ifNo X97.here hx rfl (hb hby at_304) rfl ((if0 _ _).trans (teq ((lw_eq _ _).mpr c304_101)).2) ?_
        show Steps p.tables e below (T97.setTop (mkF m 307 #[.val (.long q1), .second, .val (.int p2), .val (.int p3), .val (.int p4), .val (.int p5), .val (.int v1), .val (.int v2), .val (.long v3), .second, .val (.long v7), .second, .val (.int (2 : Int32)), .val (.int v13), .val (.ref b14), .unset] [])) t
        refine XS.iconst X97.here hx rfl (hb hby at_307) ?_
        show Steps p.tables e below (T97.setTop (mkF m 308 #[.val (.long q1), .second, .val (.int p2), .val (.int p3), .val (.int p4), .val (.int p5), .val (.int v1), .val (.int v2), .val (.long v3), .second, .val (.long v7), .second, .val (.int (2 : Int32)), .val (.int v13), .val (.ref b14), .unset] [(.int (1 : Int32))])) t
        refine XS.goto X97.here hx rfl (pc0 := 308) (pc' := 312) rfl (hb hby at_308) (by decide) (by decide) ?_
        show Steps p.tables e below (T97.setTop (mkF m 312 #[.val (.long q1), .second, .val (.int p2), .val (.int p3), .val (.int p4), .val (.int p5), .val (.int v1), .val (.int v2), .val (.long v3), .second, .val (.long v7), .second, .val (.int (2 : Int32)), .val (.int v13), .val (.ref b14), .unset] [(.int (1 : Int32))])) t
        have q_v99 : v99 = (1 : Int32) := by rw [hv_v99, if_pos c304_101]
        rw [q_v99] at k
        exact k
      · skip
        refine XS.ifYes X97.here hx rfl (pc0 := 304) (pc' := 311) rfl (hb hby at_304) rfl ((if0 _ _).trans (feq (fun q => c304_101 ((lw_eq _ _).mp q))).2) (by decide) (by decide) ?_
        show Steps p.tables e below (T97.setTop (mkF m 311 #[.val (.long q1), .second, .val (.int p2), .val (.int p3), .val (.int p4), .val (.int p5), .val (.int v1), .val (.int v2), .val (.long v3), .second, .val (.long v7), .second, .val (.int (2 : Int32)), .val (.int v13), .val (.ref b14), .unset] [])) t
        refine XS.iconst X97.here hx rfl (hb hby at_311) ?_
        show Steps p.tables e below (T97.setTop (mkF m 312 #[.val (.long q1), .second, .val (.int p2), .val (.int p3), .val (.int p4), .val (.int p5), .val (.int v1), .val (.int v2), .val (.long v3), .second, .val (.long v7), .second, .val (.int (2 : Int32)), .val (.int v13), .val (.ref b14), .unset] [(.int (0 : Int32))])) t
        have q_v99 : v99 = (0 : Int32) := by rw [hv_v99, if_neg c304_101]
        rw [q_v99] at k
        exact k
    refine OutW.back j100 ?_
    show OutW _ _ _ _ _ _ _ (T97.setTop (mkF m 312 #[.val (.long q1), .second, .val (.int p2), .val (.int p3), .val (.int p4), .val (.int p5), .val (.int v1), .val (.int v2), .val (.long v3), .second, .val (.long v7), .second, .val (.int (2 : Int32)), .val (.int v13), .val (.ref b14), .unset] [(.int v99)]))
    refine OutW.back (fun t k => XS.istore X97.here hx rfl (hb hby at_312) rfl (l' := #[.val (.long q1), .second, .val (.int p2), .val (.int p3), .val (.int p4), .val (.int p5), .val (.int v1), .val (.int v2), .val (.long v3), .second, .val (.long v7), .second, .val (.int (2 : Int32)), .val (.int v13), .val (.ref b14), .val (.int v99)]) rfl k) ?_
    show OutW _ _ _ _ _ _ _ (T97.setTop (mkF m 314 #[.val (.long q1), .second, .val (.int p2), .val (.int p3), .val (.int p4), .val (.int p5), .val (.int v1), .val (.int v2), .val (.long v3), .second, .val (.long v7), .second, .val (.int (2 : Int32)), .val (.int v13), .val (.ref b14), .val (.int v99)] []))
    refine OutW.back (fun t k => XS.aload X97.here hx rfl (hb hby at_314) rfl rfl  k) ?_
    show OutW _ _ _ _ _ _ _ (T97.setTop (mkF m 316 #[.val (.long q1), .second, .val (.int p2), .val (.int p3), .val (.int p4), .val (.int p5), .val (.int v1), .val (.int v2), .val (.long v3), .second, .val (.long v7), .second, .val (.int (2 : Int32)), .val (.int v13), .val (.ref b14), .val (.int v99)] [(.ref b14)]))
    refine OutW.back (fun t k => XS.iload X97.here hx rfl (hb hby at_316) rfl  k) ?_
    show OutW _ _ _ _ _ _ _ (T97.setTop (mkF m 318 #[.val (.long q1), .second, .val (.int p2), .val (.int p3), .val (.int p4), .val (.int p5), .val (.int v1), .val (.int v2), .val (.long v3), .second, .val (.long v7), .second, .val (.int (2 : Int32)), .val (.int v13), .val (.ref b14), .val (.int v99)] [(.int (2 : Int32)), (.ref b14)]))
    obtain ⟨_, _, ⟨T102, L102, k102, n102⟩, -, X102, ⟨Lc102, hQ102, l102, y102, z102⟩, st102⟩ := Jvm.LawKit.callS X97 hx (y := (⟨"com/example/patchloom/patchloom/delta/SignMagnitude", "isNegativeZero", "([BI)Z"⟩ : MethodName)) hown (mvT hZ (hw _ (List.mem_of_getElem? (i := 3) rfl))) (mvT hZ (hw _ (List.mem_of_getElem? (i := 4) rfl))) (mvT hZ (hw _ (List.mem_of_getElem? (i := 5) rfl))) (mvT hZ (hw _ (List.mem_of_getElem? (i := 6) rfl))) (by decide) (backOf (W := 0) (rm1_2 l Z a0 hw [] b14 (nar .byte v13) (nar .byte v13) (nar .byte v82) (nar .byte v84) (nar .byte v86) (nar .byte v88) (nar .byte v90) (nar .byte v92) (nar .byte v94) (nar .byte v96) (nar .byte v13) (nar .byte v13) (nar .byte v13) (nar .byte v13) (nar .byte v13) (nar .byte v13) k14 h97 n0 Z97 V_b14_97) hZ (hw _ (List.mem_of_getElem? (i := 6) rfl)) (hw _ (List.mem_of_getElem? (i := 5) rfl)) (by decide) (by decide)) (g := (mkF m 318 #[.val (.long q1), .second, .val (.int p2), .val (.int p3), .val (.int p4), .val (.int p5), .val (.int v1), .val (.int v2), .val (.long v3), .second, .val (.long v7), .second, .val (.int (2 : Int32)), .val (.int v13), .val (.ref b14), .val (.int v99)] [(.int (2 : Int32)), (.ref b14)])) rfl (by rw [hml]; rfl) (argsL := [(.ref b14), (.int (2 : Int32))]) (rest := []) (lenOf pd_0 rfl) rfl (by show 2 * 0 + _ ≤ _; exact Nat.le_of_eq rfl) (hb hby at_318) (fun _ _ => ⟨rfl, e97, (by decide : 1 + 0 ≤ _), (by decide : 16 + 0 ≤ _)⟩)
    dsimp only [Pt.U, Pt.locs, Pt.cells, Pt.slots] at X102 l102 y102 z102 st102 hQ102
    subst l102 y102 z102
    obtain ⟨rfl, Nq102, e102⟩ := hQ102
    have N102 := Fr.app N97 Nq102
    obtain ⟨lc102, X102, N102⟩ : ∃ lc, Stand p l e room_1 s m #[(.long q1), (.int p2), (.int p3), (.int p4), (.int p5)] below meth c T102 lc 1 16 ∧ Fr n0 lc := ⟨_, X102, N102⟩
    refine OutW.back st102 ?_
    show OutW _ _ _ _ _ _ _ (T102.setTop (mkF m 321 #[.val (.long q1), .second, .val (.int p2), .val (.int p3), .val (.int p4), .val (.int p5), .val (.int v1), .val (.int v2), .val (.long v3), .second, .val (.long v7), .second, .val (.int (2 : Int32)), .val (.int v13), .val (.ref b14), .val (.int v99)] [(.int (negz2 (nar .byte v82) (nar .byte v84) (nar .byte v86) (nar .byte v88) (nar .byte v90) (nar .byte v92) (nar .byte v94) (nar .byte v96)))]))
    refine OutW.back (fun t k => XS.iload X102.here hx rfl (hb hby at_321) rfl  k) ?_
    show OutW _ _ _ _ _ _ _ (T102.setTop (mkF m 323 #[.val (.long q1), .second, .val (.int p2), .val (.int p3), .val (.int p4), .val (.int p5), .val (.int v1), .val (.int v2), .val (.long v3), .second, .val (.long v7), .second, .val (.int (2 : Int32)), .val (.int v13), .val (.ref b14), .val (.int v99)] [(.int v99), (.int (negz2 (nar .byte v82) (nar .byte v84) (nar .byte v86) (nar .byte v88) (nar .byte v90) (nar .byte v92) (nar .byte v94) (nar .byte v96)))]))
    obtain ⟨v104, hv_v104⟩ : ∃ z : Int32, z = (if (negz2 (nar .byte v82) (nar .byte v84) (nar .byte v86) (nar .byte v88) (nar .byte v90) (nar .byte v92) (nar .byte v94) (nar .byte v96)) = v99 then (1 : Int32) else (0 : Int32)) := ⟨_, rfl⟩
    have j105 : ∀ t, Steps p.tables e below (T102.setTop (mkF m 331 #[.val (.long q1), .second, .val (.int p2), .val (.int p3), .val (.int p4), .val (.int p5), .val (.int v1), .val (.int v2), .val (.long v3), .second, .val (.long v7), .second, .val (.int (2 : Int32)), .val (.int v13), .val (.ref b14), .val (.int v99)] [(.int v104)])) t → Steps p.tables e below (T102.setTop (mkF m 323 #[.val (.long q1), .second, .val (.int p2), .val (.int p3), .val (.int p4), .val (.int p5), .val (.int v1), .val (.int v2), .val (.long v3), .second, .val (.long v7), .second, .val (.int (2 : Int32)), .val (.int v13), .val (.ref b14), .val (.int v99)] [(.int v99), (.int (negz2 (nar .byte v82) (nar .byte v84) (nar .byte v86) (nar .byte v88) (nar .byte v90) (nar .byte v92) (nar .byte v94) (nar .byte v96)))])) t := by
      intro t k
      by_cases c323_106 : (negz2 (nar .byte v82) (nar .byte v84) (nar .byte v86) (nar .byte v88) (nar .byte v90) (nar .byte v92) (nar .byte v94) (nar .byte v96)) = v99
      · skip
        refine XS.icmpNo X102.here hx rfl (hb hby at_323) rfl (teq c323_106).2 ?_
        show Steps p.tables e below (T102.setTop (mkF m 326 #[.val (.long q1), .second, .val (.int p2), .val (.int p3), .val (.int p4), .val (.int p5), .val (.int v1), .val (.int v2), .val (.long v3), .second, .val (.long v7), .second, .val (.int (2 : Int32)), .val (.int v13), .val (.ref b14), .val (.int v99)] [])) t
        refine XS.iconst X102.here hx rfl (hb hby at_326) ?_
        show Steps p.tables e below (T102.setTop (mkF m 327 #[.val (.long q1), .second, .val (.int p2), .val (.int p3), .val (.int p4), .val (.int p5), .val (.int v1), .val (.int v2), .val (.long v3), .second, .val (.long v7), .second, .val (.int (2 : Int32)), .val (.int v13), .val (.ref b14), .val (.int v99)] [(.int (1 : Int32))])) t
        refine XS.goto X102.here hx rfl (pc0 := 327) (pc' := 331) rfl (hb hby at_327) (by decide) (by decide) ?_
        show Steps p.tables e below (T102.setTop (mkF m 331 #[.val (.long q1), .second, .val (.int p2), .val (.int p3), .val (.int p4), .val (.int p5), .val (.int v1), .val (.int v2), .val (.long v3), .second, .val (.long v7), .second, .val (.int (2 : Int32)), .val (.int v13), .val (.ref b14), .val (.int v99)] [(.int (1 : Int32))])) t
        have q_v104 : v104 = (1 : Int32) := by rw [hv_v104, if_pos c323_106]
        rw [q_v104] at k
        exact k
      · skip
        refine XS.icmpYes X102.here hx rfl (pc0 := 323) (pc' := 330) rfl (hb hby at_323) rfl (feq c323_106).2 (by decide) (by decide) ?_
        show Steps p.tables e below (T102.setTop (mkF m 330 #[.val (.long q1), .second, .val (.int p2), .val (.int p3), .val (.int p4), .val (.int p5), .val (.int v1), .val (.int v2), .val (.long v3), .second, .val (.long v7), .second, .val (.int (2 : Int32)), .val (.int v13), .val (.ref b14), .val (.int v99)] [])) t
        refine XS.iconst X102.here hx rfl (hb hby at_330) ?_
        show Steps p.tables e below (T102.setTop (mkF m 331 #[.val (.long q1), .second, .val (.int p2), .val (.int p3), .val (.int p4), .val (.int p5), .val (.int v1), .val (.int v2), .val (.long v3), .second, .val (.long v7), .second, .val (.int (2 : Int32)), .val (.int v13), .val (.ref b14), .val (.int v99)] [(.int (0 : Int32))])) t
        have q_v104 : v104 = (0 : Int32) := by rw [hv_v104, if_neg c323_106]
        rw [q_v104] at k
        exact k
    refine OutW.back j105 ?_
    show OutW _ _ _ _ _ _ _ (T102.setTop (mkF m 331 #[.val (.long q1), .second, .val (.int p2), .val (.int p3), .val (.int p4), .val (.int p5), .val (.int v1), .val (.int v2), .val (.long v3), .second, .val (.long v7), .second, .val (.int (2 : Int32)), .val (.int v13), .val (.ref b14), .val (.int v99)] [(.int v104)]))
    refine OutW.retN X102 hx (t := .boolean) (z' := 1) Bd.returns (by simp) hlk (hb hby at_331) ?hz (by decide) (by decide) ?_
    case hz =>
      have hfin : v104 = (1 : Int32) := by
        have e : (negz2 (nar .byte v82) (nar .byte v84) (nar .byte v86) (nar .byte v88) (nar .byte v90) (nar .byte v92) (nar .byte v94) (nar .byte v96)) = v99 := by
          rw [← hv_v82, ← hv_v84, ← hv_v86, ← hv_v88, ← hv_v90, ← hv_v92, ← hv_v94, ← hv_v96, hv_v99]
          exact own_neg _
        rw [hv_v104, if_pos e]
      rw [hfin]; rfl
    show Q0 Z q1 p2 p3 p4 p5 h0 n0 _ T102.heap _
    rw [e102]
    exact ⟨rfl, N102⟩
  · skip
    show OutW _ _ _ _ _ _ _ (T30.setTop (mkF m 189 #[.val (.long q1), .second, .val (.int p2), .val (.int p3), .val (.int p4), .val (.int p5), .val (.int v1), .val (.int v2), .val (.long v3), .second, .val (.long v7), .second, .val (.int (3 : Int32)), .val (.int v13), .val (.ref b14), .unset] []))
    refine OutW.back (fun t k => XS.aload X30.here hx rfl (hb hby at_189) rfl rfl  k) ?_
    show OutW _ _ _ _ _ _ _ (T30.setTop (mkF m 191 #[.val (.long q1), .second, .val (.int p2), .val (.int p3), .val (.int p4), .val (.int p5), .val (.int v1), .val (.int v2), .val (.long v3), .second, .val (.long v7), .second, .val (.int (3 : Int32)), .val (.int v13), .val (.ref b14), .unset] [(.ref b14)]))
    refine OutW.back (fun t k => XS.iload X30.here hx rfl (hb hby at_191) rfl  k) ?_
    show OutW _ _ _ _ _ _ _ (T30.setTop (mkF m 193 #[.val (.long q1), .second, .val (.int p2), .val (.int p3), .val (.int p4), .val (.int p5), .val (.int v1), .val (.int v2), .val (.long v3), .second, .val (.long v7), .second, .val (.int (3 : Int32)), .val (.int v13), .val (.ref b14), .unset] [(.int (3 : Int32)), (.ref b14)]))
    refine OutW.back (fun t k => XS.lload X30.here hx rfl (hb hby at_193) rfl  k) ?_
    show OutW _ _ _ _ _ _ _ (T30.setTop (mkF m 195 #[.val (.long q1), .second, .val (.int p2), .val (.int p3), .val (.int p4), .val (.int p5), .val (.int v1), .val (.int v2), .val (.long v3), .second, .val (.long v7), .second, .val (.int (3 : Int32)), .val (.int v13), .val (.ref b14), .unset] [(.long v7), (.int (3 : Int32)), (.ref b14)]))
    refine OutW.back (fun t k => XS.l2i X30.here hx rfl (hb hby at_195) rfl k) ?_
    show OutW _ _ _ _ _ _ _ (T30.setTop (mkF m 196 #[.val (.long q1), .second, .val (.int p2), .val (.int p3), .val (.int p4), .val (.int p5), .val (.int v1), .val (.int v2), .val (.long v3), .second, .val (.long v7), .second, .val (.int (3 : Int32)), .val (.int v13), .val (.ref b14), .unset] [(.int v7.toInt32), (.int (3 : Int32)), (.ref b14)]))
    refine OutW.back (fun t k => XS.i2b X30.here hx rfl (hb hby at_196) rfl k) ?_
    show OutW _ _ _ _ _ _ _ (T30.setTop (mkF m 197 #[.val (.long q1), .second, .val (.int p2), .val (.int p3), .val (.int p4), .val (.int p5), .val (.int v1), .val (.int v2), .val (.long v3), .second, .val (.long v7), .second, .val (.int (3 : Int32)), .val (.int v13), .val (.ref b14), .unset] [(.int v7.toInt32.toInt8.toInt32), (.int (3 : Int32)), (.ref b14)]))
    generalize hv_v107 : v7.toInt32.toInt8.toInt32 = v107
    obtain ⟨cl108, Ar108, Qk108, Sz108, Nn108, Hh108, Gg108⟩ := id V_b14_30
    have hin108 : ¬ ((3 : Int32) < 0 ∨ cl108.slots.size ≤ ((3 : Int32)).toNatClampNeg) := inb_of Sz108 ⟨by decide, by decide⟩
    obtain ⟨T108, h108, X108, e108, W108, st108⟩ := stB X30 hx hZ e30 Ar108 (j := (3 : Int32)) hin108 (g := (mkF m 197 #[.val (.long q1), .second, .val (.int p2), .val (.int p3), .val (.int p4), .val (.int p5), .val (.int v1), .val (.int v2), .val (.long v3), .second, .val (.long v7), .second, .val (.int (3 : Int32)), .val (.int v13), .val (.ref b14), .unset] [(.int v107), (.int (3 : Int32)), (.ref b14)])) rfl rfl (hb hby at_197)
    have V_b14_108 : Arv Z h108 b14 k14 .byte (16 : Int32) [(.int (nar .byte v13)), (.int (nar .byte v13)), (.int (nar .byte v13)), (.int (nar .byte v107)), (.int (nar .byte v13)), (.int (nar .byte v13)), (.int (nar .byte v13)), (.int (nar .byte v13)), (.int (nar .byte v13)), (.int (nar .byte v13)), (.int (nar .byte v13)), (.int (nar .byte v13)), (.int (nar .byte v13)), (.int (nar .byte v13)), (.int (nar .byte v13)), (.int (nar .byte v13))] (.int (0 : Int32)) := Arv.set Ar108 Qk108 Sz108 Nn108 Hh108 Gg108 (fits_nar_byte _) W108 3 rfl (Nat.le_of_ble_eq_true rfl)
    have N108 := Fr.snoc X108 N30 g_b14
    have Z108 : n0 ≤ h108.size := Nat.le_trans Z30 (Keep.of_wr W108).1
    have K108 := K30.wr W108 (Or.inr sz_b14)
    obtain ⟨lc108, X108, N108⟩ : ∃ lc, Stand p l e room_1 s m #[(.long q1), (.int p2), (.int p3), (.int p4), (.int p5)] below meth c T108 lc 1 16 ∧ Fr n0 lc := ⟨_, X108, N108⟩
    refine OutW.back st108 ?_
    show OutW _ _ _ _ _ _ _ (T108.setTop (mkF m 198 #[.val (.long q1), .second, .val (.int p2), .val (.int p3), .val (.int p4), .val (.int p5), .val (.int v1), .val (.int v2), .val (.long v3), .second, .val (.long v7), .second, .val (.int (3 : Int32)), .val (.int v13), .val (.ref b14), .unset] []))
    refine OutW.back (fun t k => XS.aload X108.here hx rfl (hb hby at_198) rfl rfl  k) ?_
    show OutW _ _ _ _ _ _ _ (T108.setTop (mkF m 200 #[.val (.long q1), .second, .val (.int p2), .val (.int p3), .val (.int p4), .val (.int p5), .val (.int v1), .val (.int v2), .val (.long v3), .second, .val (.long v7), .second, .val (.int (3 : Int32)), .val (.int v13), .val (.ref b14), .unset] [(.ref b14)]))
    refine OutW.back (fun t k => XS.iload X108.here hx rfl (hb hby at_200) rfl  k) ?_
    show OutW _ _ _ _ _ _ _ (T108.setTop (mkF m 202 #[.val (.long q1), .second, .val (.int p2), .val (.int p3), .val (.int p4), .val (.int p5), .val (.int v1), .val (.int v2), .val (.long v3), .second, .val (.long v7), .second, .val (.int (3 : Int32)), .val (.int v13), .val (.ref b14), .unset] [(.int (3 : Int32)), (.ref b14)]))
    refine OutW.back (fun t k => XS.iconst X108.here hx rfl (hb hby at_202) k) ?_
    show OutW _ _ _ _ _ _ _ (T108.setTop (mkF m 203 #[.val (.long q1), .second, .val (.int p2), .val (.int p3), .val (.int p4), .val (.int p5), .val (.int v1), .val (.int v2), .val (.long v3), .second, .val (.long v7), .second, .val (.int (3 : Int32)), .val (.int v13), .val (.ref b14), .unset] [(.int (1 : Int32)), (.int (3 : Int32)), (.ref b14)]))
    refine OutW.back (fun t k => XS.iadd X108.here hx rfl (hb hby at_203) rfl k) ?_
    show OutW _ _ _ _ _ _ _ (T108.setTop (mkF m 204 #[.val (.long q1), .second, .val (.int p2), .val (.int p3), .val (.int p4), .val (.int p5), .val (.int v1), .val (.int v2), .val (.long v3), .second, .val (.long v7), .second, .val (.int (3 : Int32)), .val (.int v13), .val (.ref b14), .unset] [(.int ((3 : Int32) + (1 : Int32))), (.ref b14)]))
    rw [show ((3 : Int32) + (1 : Int32)) = (4 : Int32) from by decide]
    refine OutW.back (fun t k => XS.lload X108.here hx rfl (hb hby at_204) rfl  k) ?_
    show OutW _ _ _ _ _ _ _ (T108.setTop (mkF m 206 #[.val (.long q1), .second, .val (.int p2), .val (.int p3), .val (.int p4), .val (.int p5), .val (.int v1), .val (.int v2), .val (.long v3), .second, .val (.long v7), .second, .val (.int (3 : Int32)), .val (.int v13), .val (.ref b14), .unset] [(.long v7), (.int (4 : Int32)), (.ref b14)]))
    refine OutW.back (fun t k => XS.bipush X108.here hx rfl (hb hby at_206) k) ?_
    show OutW _ _ _ _ _ _ _ (T108.setTop (mkF m 208 #[.val (.long q1), .second, .val (.int p2), .val (.int p3), .val (.int p4), .val (.int p5), .val (.int v1), .val (.int v2), .val (.long v3), .second, .val (.long v7), .second, .val (.int (3 : Int32)), .val (.int v13), .val (.ref b14), .unset] [(.int (8 : Int32)), (.long v7), (.int (4 : Int32)), (.ref b14)]))
    refine OutW.back (fun t k => XS.lushr X108.here hx rfl (hb hby at_208) rfl k) ?_
    show OutW _ _ _ _ _ _ _ (T108.setTop (mkF m 209 #[.val (.long q1), .second, .val (.int p2), .val (.int p3), .val (.int p4), .val (.int p5), .val (.int v1), .val (.int v2), .val (.long v3), .second, .val (.long v7), .second, .val (.int (3 : Int32)), .val (.int v13), .val (.ref b14), .unset] [(.long ((v7.toUInt64 >>> ((8 : Int32) &&& 0x3f).toInt64.toUInt64).toInt64)), (.int (4 : Int32)), (.ref b14)]))
    refine OutW.back (fun t k => XS.l2i X108.here hx rfl (hb hby at_209) rfl k) ?_
    show OutW _ _ _ _ _ _ _ (T108.setTop (mkF m 210 #[.val (.long q1), .second, .val (.int p2), .val (.int p3), .val (.int p4), .val (.int p5), .val (.int v1), .val (.int v2), .val (.long v3), .second, .val (.long v7), .second, .val (.int (3 : Int32)), .val (.int v13), .val (.ref b14), .unset] [(.int ((v7.toUInt64 >>> ((8 : Int32) &&& 0x3f).toInt64.toUInt64).toInt64).toInt32), (.int (4 : Int32)), (.ref b14)]))
    refine OutW.back (fun t k => XS.i2b X108.here hx rfl (hb hby at_210) rfl k) ?_
    show OutW _ _ _ _ _ _ _ (T108.setTop (mkF m 211 #[.val (.long q1), .second, .val (.int p2), .val (.int p3), .val (.int p4), .val (.int p5), .val (.int v1), .val (.int v2), .val (.long v3), .second, .val (.long v7), .second, .val (.int (3 : Int32)), .val (.int v13), .val (.ref b14), .unset] [(.int ((v7.toUInt64 >>> ((8 : Int32) &&& 0x3f).toInt64.toUInt64).toInt64).toInt32.toInt8.toInt32), (.int (4 : Int32)), (.ref b14)]))
    generalize hv_v109 : ((v7.toUInt64 >>> ((8 : Int32) &&& 0x3f).toInt64.toUInt64).toInt64).toInt32.toInt8.toInt32 = v109
    obtain ⟨cl110, Ar110, Qk110, Sz110, Nn110, Hh110, Gg110⟩ := id V_b14_108
    have hin110 : ¬ ((4 : Int32) < 0 ∨ cl110.slots.size ≤ ((4 : Int32)).toNatClampNeg) := inb_of Sz110 ⟨by decide, by decide⟩
    obtain ⟨T110, h110, X110, e110, W110, st110⟩ := stB X108 hx hZ e108 Ar110 (j := (4 : Int32)) hin110 (g := (mkF m 211 #[.val (.long q1), .second, .val (.int p2), .val (.int p3), .val (.int p4), .val (.int p5), .val (.int v1), .val (.int v2), .val (.long v3), .second, .val (.long v7), .second, .val (.int (3 : Int32)), .val (.int v13), .val (.ref b14), .unset] [(.int v109), (.int (4 : Int32)), (.ref b14)])) rfl rfl (hb hby at_211)
    have V_b14_110 : Arv Z h110 b14 k14 .byte (16 : Int32) [(.int (nar .byte v13)), (.int (nar .byte v13)), (.int (nar .byte v13)), (.int (nar .byte v107)), (.int (nar .byte v109)), (.int (nar .byte v13)), (.int (nar .byte v13)), (.int (nar .byte v13)), (.int (nar .byte v13)), (.int (nar .byte v13)), (.int (nar .byte v13)), (.int (nar .byte v13)), (.int (nar .byte v13)), (.int (nar .byte v13)), (.int (nar .byte v13)), (.int (nar .byte v13))] (.int (0 : Int32)) := Arv.set Ar110 Qk110 Sz110 Nn110 Hh110 Gg110 (fits_nar_byte _) W110 4 rfl (Nat.le_of_ble_eq_true rfl)
    have N110 := Fr.snoc X110 N108 g_b14
    have Z110 : n0 ≤ h110.size := Nat.le_trans Z108 (Keep.of_wr W110).1
    have K110 := K108.wr W110 (Or.inr sz_b14)
    obtain ⟨lc110, X110, N110⟩ : ∃ lc, Stand p l e room_1 s m #[(.long q1), (.int p2), (.int p3), (.int p4), (.int p5)] below meth c T110 lc 1 16 ∧ Fr n0 lc := ⟨_, X110, N110⟩
    refine OutW.back st110 ?_
    show OutW _ _ _ _ _ _ _ (T110.setTop (mkF m 212 #[.val (.long q1), .second, .val (.int p2), .val (.int p3), .val (.int p4), .val (.int p5), .val (.int v1), .val (.int v2), .val (.long v3), .second, .val (.long v7), .second, .val (.int (3 : Int32)), .val (.int v13), .val (.ref b14), .unset] []))
    refine OutW.back (fun t k => XS.aload X110.here hx rfl (hb hby at_212) rfl rfl  k) ?_
    show OutW _ _ _ _ _ _ _ (T110.setTop (mkF m 214 #[.val (.long q1), .second, .val (.int p2), .val (.int p3), .val (.int p4), .val (.int p5), .val (.int v1), .val (.int v2), .val (.long v3), .second, .val (.long v7), .second, .val (.int (3 : Int32)), .val (.int v13), .val (.ref b14), .unset] [(.ref b14)]))
    refine OutW.back (fun t k => XS.iload X110.here hx rfl (hb hby at_214) rfl  k) ?_
    show OutW _ _ _ _ _ _ _ (T110.setTop (mkF m 216 #[.val (.long q1), .second, .val (.int p2), .val (.int p3), .val (.int p4), .val (.int p5), .val (.int v1), .val (.int v2), .val (.long v3), .second, .val (.long v7), .second, .val (.int (3 : Int32)), .val (.int v13), .val (.ref b14), .unset] [(.int (3 : Int32)), (.ref b14)]))
    refine OutW.back (fun t k => XS.iconst X110.here hx rfl (hb hby at_216) k) ?_
    show OutW _ _ _ _ _ _ _ (T110.setTop (mkF m 217 #[.val (.long q1), .second, .val (.int p2), .val (.int p3), .val (.int p4), .val (.int p5), .val (.int v1), .val (.int v2), .val (.long v3), .second, .val (.long v7), .second, .val (.int (3 : Int32)), .val (.int v13), .val (.ref b14), .unset] [(.int (2 : Int32)), (.int (3 : Int32)), (.ref b14)]))
    refine OutW.back (fun t k => XS.iadd X110.here hx rfl (hb hby at_217) rfl k) ?_
    show OutW _ _ _ _ _ _ _ (T110.setTop (mkF m 218 #[.val (.long q1), .second, .val (.int p2), .val (.int p3), .val (.int p4), .val (.int p5), .val (.int v1), .val (.int v2), .val (.long v3), .second, .val (.long v7), .second, .val (.int (3 : Int32)), .val (.int v13), .val (.ref b14), .unset] [(.int ((3 : Int32) + (2 : Int32))), (.ref b14)]))
    rw [show ((3 : Int32) + (2 : Int32)) = (5 : Int32) from by decide]
    refine OutW.back (fun t k => XS.lload X110.here hx rfl (hb hby at_218) rfl  k) ?_
    show OutW _ _ _ _ _ _ _ (T110.setTop (mkF m 220 #[.val (.long q1), .second, .val (.int p2), .val (.int p3), .val (.int p4), .val (.int p5), .val (.int v1), .val (.int v2), .val (.long v3), .second, .val (.long v7), .second, .val (.int (3 : Int32)), .val (.int v13), .val (.ref b14), .unset] [(.long v7), (.int (5 : Int32)), (.ref b14)]))
    refine OutW.back (fun t k => XS.bipush X110.here hx rfl (hb hby at_220) k) ?_
    show OutW _ _ _ _ _ _ _ (T110.setTop (mkF m 222 #[.val (.long q1), .second, .val (.int p2), .val (.int p3), .val (.int p4), .val (.int p5), .val (.int v1), .val (.int v2), .val (.long v3), .second, .val (.long v7), .second, .val (.int (3 : Int32)), .val (.int v13), .val (.ref b14), .unset] [(.int (16 : Int32)), (.long v7), (.int (5 : Int32)), (.ref b14)]))
    refine OutW.back (fun t k => XS.lushr X110.here hx rfl (hb hby at_222) rfl k) ?_
    show OutW _ _ _ _ _ _ _ (T110.setTop (mkF m 223 #[.val (.long q1), .second, .val (.int p2), .val (.int p3), .val (.int p4), .val (.int p5), .val (.int v1), .val (.int v2), .val (.long v3), .second, .val (.long v7), .second, .val (.int (3 : Int32)), .val (.int v13), .val (.ref b14), .unset] [(.long ((v7.toUInt64 >>> ((16 : Int32) &&& 0x3f).toInt64.toUInt64).toInt64)), (.int (5 : Int32)), (.ref b14)]))
    refine OutW.back (fun t k => XS.l2i X110.here hx rfl (hb hby at_223) rfl k) ?_
    show OutW _ _ _ _ _ _ _ (T110.setTop (mkF m 224 #[.val (.long q1), .second, .val (.int p2), .val (.int p3), .val (.int p4), .val (.int p5), .val (.int v1), .val (.int v2), .val (.long v3), .second, .val (.long v7), .second, .val (.int (3 : Int32)), .val (.int v13), .val (.ref b14), .unset] [(.int ((v7.toUInt64 >>> ((16 : Int32) &&& 0x3f).toInt64.toUInt64).toInt64).toInt32), (.int (5 : Int32)), (.ref b14)]))
    refine OutW.back (fun t k => XS.i2b X110.here hx rfl (hb hby at_224) rfl k) ?_
    show OutW _ _ _ _ _ _ _ (T110.setTop (mkF m 225 #[.val (.long q1), .second, .val (.int p2), .val (.int p3), .val (.int p4), .val (.int p5), .val (.int v1), .val (.int v2), .val (.long v3), .second, .val (.long v7), .second, .val (.int (3 : Int32)), .val (.int v13), .val (.ref b14), .unset] [(.int ((v7.toUInt64 >>> ((16 : Int32) &&& 0x3f).toInt64.toUInt64).toInt64).toInt32.toInt8.toInt32), (.int (5 : Int32)), (.ref b14)]))
    generalize hv_v111 : ((v7.toUInt64 >>> ((16 : Int32) &&& 0x3f).toInt64.toUInt64).toInt64).toInt32.toInt8.toInt32 = v111
    obtain ⟨cl112, Ar112, Qk112, Sz112, Nn112, Hh112, Gg112⟩ := id V_b14_110
    have hin112 : ¬ ((5 : Int32) < 0 ∨ cl112.slots.size ≤ ((5 : Int32)).toNatClampNeg) := inb_of Sz112 ⟨by decide, by decide⟩
    obtain ⟨T112, h112, X112, e112, W112, st112⟩ := stB X110 hx hZ e110 Ar112 (j := (5 : Int32)) hin112 (g := (mkF m 225 #[.val (.long q1), .second, .val (.int p2), .val (.int p3), .val (.int p4), .val (.int p5), .val (.int v1), .val (.int v2), .val (.long v3), .second, .val (.long v7), .second, .val (.int (3 : Int32)), .val (.int v13), .val (.ref b14), .unset] [(.int v111), (.int (5 : Int32)), (.ref b14)])) rfl rfl (hb hby at_225)
    have V_b14_112 : Arv Z h112 b14 k14 .byte (16 : Int32) [(.int (nar .byte v13)), (.int (nar .byte v13)), (.int (nar .byte v13)), (.int (nar .byte v107)), (.int (nar .byte v109)), (.int (nar .byte v111)), (.int (nar .byte v13)), (.int (nar .byte v13)), (.int (nar .byte v13)), (.int (nar .byte v13)), (.int (nar .byte v13)), (.int (nar .byte v13)), (.int (nar .byte v13)), (.int (nar .byte v13)), (.int (nar .byte v13)), (.int (nar .byte v13))] (.int (0 : Int32)) := Arv.set Ar112 Qk112 Sz112 Nn112 Hh112 Gg112 (fits_nar_byte _) W112 5 rfl (Nat.le_of_ble_eq_true rfl)
    have N112 := Fr.snoc X112 N110 g_b14
    have Z112 : n0 ≤ h112.size := Nat.le_trans Z110 (Keep.of_wr W112).1
    have K112 := K110.wr W112 (Or.inr sz_b14)
    obtain ⟨lc112, X112, N112⟩ : ∃ lc, Stand p l e room_1 s m #[(.long q1), (.int p2), (.int p3), (.int p4), (.int p5)] below meth c T112 lc 1 16 ∧ Fr n0 lc := ⟨_, X112, N112⟩
    refine OutW.back st112 ?_
    show OutW _ _ _ _ _ _ _ (T112.setTop (mkF m 226 #[.val (.long q1), .second, .val (.int p2), .val (.int p3), .val (.int p4), .val (.int p5), .val (.int v1), .val (.int v2), .val (.long v3), .second, .val (.long v7), .second, .val (.int (3 : Int32)), .val (.int v13), .val (.ref b14), .unset] []))
    refine OutW.back (fun t k => XS.aload X112.here hx rfl (hb hby at_226) rfl rfl  k) ?_
    show OutW _ _ _ _ _ _ _ (T112.setTop (mkF m 228 #[.val (.long q1), .second, .val (.int p2), .val (.int p3), .val (.int p4), .val (.int p5), .val (.int v1), .val (.int v2), .val (.long v3), .second, .val (.long v7), .second, .val (.int (3 : Int32)), .val (.int v13), .val (.ref b14), .unset] [(.ref b14)]))
    refine OutW.back (fun t k => XS.iload X112.here hx rfl (hb hby at_228) rfl  k) ?_
    show OutW _ _ _ _ _ _ _ (T112.setTop (mkF m 230 #[.val (.long q1), .second, .val (.int p2), .val (.int p3), .val (.int p4), .val (.int p5), .val (.int v1), .val (.int v2), .val (.long v3), .second, .val (.long v7), .second, .val (.int (3 : Int32)), .val (.int v13), .val (.ref b14), .unset] [(.int (3 : Int32)), (.ref b14)]))
    refine OutW.back (fun t k => XS.iconst X112.here hx rfl (hb hby at_230) k) ?_
    show OutW _ _ _ _ _ _ _ (T112.setTop (mkF m 231 #[.val (.long q1), .second, .val (.int p2), .val (.int p3), .val (.int p4), .val (.int p5), .val (.int v1), .val (.int v2), .val (.long v3), .second, .val (.long v7), .second, .val (.int (3 : Int32)), .val (.int v13), .val (.ref b14), .unset] [(.int (3 : Int32)), (.int (3 : Int32)), (.ref b14)]))
    refine OutW.back (fun t k => XS.iadd X112.here hx rfl (hb hby at_231) rfl k) ?_
    show OutW _ _ _ _ _ _ _ (T112.setTop (mkF m 232 #[.val (.long q1), .second, .val (.int p2), .val (.int p3), .val (.int p4), .val (.int p5), .val (.int v1), .val (.int v2), .val (.long v3), .second, .val (.long v7), .second, .val (.int (3 : Int32)), .val (.int v13), .val (.ref b14), .unset] [(.int ((3 : Int32) + (3 : Int32))), (.ref b14)]))
    rw [show ((3 : Int32) + (3 : Int32)) = (6 : Int32) from by decide]
    refine OutW.back (fun t k => XS.lload X112.here hx rfl (hb hby at_232) rfl  k) ?_
    show OutW _ _ _ _ _ _ _ (T112.setTop (mkF m 234 #[.val (.long q1), .second, .val (.int p2), .val (.int p3), .val (.int p4), .val (.int p5), .val (.int v1), .val (.int v2), .val (.long v3), .second, .val (.long v7), .second, .val (.int (3 : Int32)), .val (.int v13), .val (.ref b14), .unset] [(.long v7), (.int (6 : Int32)), (.ref b14)]))
    refine OutW.back (fun t k => XS.bipush X112.here hx rfl (hb hby at_234) k) ?_
    show OutW _ _ _ _ _ _ _ (T112.setTop (mkF m 236 #[.val (.long q1), .second, .val (.int p2), .val (.int p3), .val (.int p4), .val (.int p5), .val (.int v1), .val (.int v2), .val (.long v3), .second, .val (.long v7), .second, .val (.int (3 : Int32)), .val (.int v13), .val (.ref b14), .unset] [(.int (24 : Int32)), (.long v7), (.int (6 : Int32)), (.ref b14)]))
    refine OutW.back (fun t k => XS.lushr X112.here hx rfl (hb hby at_236) rfl k) ?_
    show OutW _ _ _ _ _ _ _ (T112.setTop (mkF m 237 #[.val (.long q1), .second, .val (.int p2), .val (.int p3), .val (.int p4), .val (.int p5), .val (.int v1), .val (.int v2), .val (.long v3), .second, .val (.long v7), .second, .val (.int (3 : Int32)), .val (.int v13), .val (.ref b14), .unset] [(.long ((v7.toUInt64 >>> ((24 : Int32) &&& 0x3f).toInt64.toUInt64).toInt64)), (.int (6 : Int32)), (.ref b14)]))
    refine OutW.back (fun t k => XS.l2i X112.here hx rfl (hb hby at_237) rfl k) ?_
    show OutW _ _ _ _ _ _ _ (T112.setTop (mkF m 238 #[.val (.long q1), .second, .val (.int p2), .val (.int p3), .val (.int p4), .val (.int p5), .val (.int v1), .val (.int v2), .val (.long v3), .second, .val (.long v7), .second, .val (.int (3 : Int32)), .val (.int v13), .val (.ref b14), .unset] [(.int ((v7.toUInt64 >>> ((24 : Int32) &&& 0x3f).toInt64.toUInt64).toInt64).toInt32), (.int (6 : Int32)), (.ref b14)]))
    refine OutW.back (fun t k => XS.i2b X112.here hx rfl (hb hby at_238) rfl k) ?_
    show OutW _ _ _ _ _ _ _ (T112.setTop (mkF m 239 #[.val (.long q1), .second, .val (.int p2), .val (.int p3), .val (.int p4), .val (.int p5), .val (.int v1), .val (.int v2), .val (.long v3), .second, .val (.long v7), .second, .val (.int (3 : Int32)), .val (.int v13), .val (.ref b14), .unset] [(.int ((v7.toUInt64 >>> ((24 : Int32) &&& 0x3f).toInt64.toUInt64).toInt64).toInt32.toInt8.toInt32), (.int (6 : Int32)), (.ref b14)]))
    generalize hv_v113 : ((v7.toUInt64 >>> ((24 : Int32) &&& 0x3f).toInt64.toUInt64).toInt64).toInt32.toInt8.toInt32 = v113
    obtain ⟨cl114, Ar114, Qk114, Sz114, Nn114, Hh114, Gg114⟩ := id V_b14_112
    have hin114 : ¬ ((6 : Int32) < 0 ∨ cl114.slots.size ≤ ((6 : Int32)).toNatClampNeg) := inb_of Sz114 ⟨by decide, by decide⟩
    obtain ⟨T114, h114, X114, e114, W114, st114⟩ := stB X112 hx hZ e112 Ar114 (j := (6 : Int32)) hin114 (g := (mkF m 239 #[.val (.long q1), .second, .val (.int p2), .val (.int p3), .val (.int p4), .val (.int p5), .val (.int v1), .val (.int v2), .val (.long v3), .second, .val (.long v7), .second, .val (.int (3 : Int32)), .val (.int v13), .val (.ref b14), .unset] [(.int v113), (.int (6 : Int32)), (.ref b14)])) rfl rfl (hb hby at_239)
    have V_b14_114 : Arv Z h114 b14 k14 .byte (16 : Int32) [(.int (nar .byte v13)), (.int (nar .byte v13)), (.int (nar .byte v13)), (.int (nar .byte v107)), (.int (nar .byte v109)), (.int (nar .byte v111)), (.int (nar .byte v113)), (.int (nar .byte v13)), (.int (nar .byte v13)), (.int (nar .byte v13)), (.int (nar .byte v13)), (.int (nar .byte v13)), (.int (nar .byte v13)), (.int (nar .byte v13)), (.int (nar .byte v13)), (.int (nar .byte v13))] (.int (0 : Int32)) := Arv.set Ar114 Qk114 Sz114 Nn114 Hh114 Gg114 (fits_nar_byte _) W114 6 rfl (Nat.le_of_ble_eq_true rfl)
    have N114 := Fr.snoc X114 N112 g_b14
    have Z114 : n0 ≤ h114.size := Nat.le_trans Z112 (Keep.of_wr W114).1
    have K114 := K112.wr W114 (Or.inr sz_b14)
    obtain ⟨lc114, X114, N114⟩ : ∃ lc, Stand p l e room_1 s m #[(.long q1), (.int p2), (.int p3), (.int p4), (.int p5)] below meth c T114 lc 1 16 ∧ Fr n0 lc := ⟨_, X114, N114⟩
    refine OutW.back st114 ?_
    show OutW _ _ _ _ _ _ _ (T114.setTop (mkF m 240 #[.val (.long q1), .second, .val (.int p2), .val (.int p3), .val (.int p4), .val (.int p5), .val (.int v1), .val (.int v2), .val (.long v3), .second, .val (.long v7), .second, .val (.int (3 : Int32)), .val (.int v13), .val (.ref b14), .unset] []))
    refine OutW.back (fun t k => XS.aload X114.here hx rfl (hb hby at_240) rfl rfl  k) ?_
    show OutW _ _ _ _ _ _ _ (T114.setTop (mkF m 242 #[.val (.long q1), .second, .val (.int p2), .val (.int p3), .val (.int p4), .val (.int p5), .val (.int v1), .val (.int v2), .val (.long v3), .second, .val (.long v7), .second, .val (.int (3 : Int32)), .val (.int v13), .val (.ref b14), .unset] [(.ref b14)]))
    refine OutW.back (fun t k => XS.iload X114.here hx rfl (hb hby at_242) rfl  k) ?_
    show OutW _ _ _ _ _ _ _ (T114.setTop (mkF m 244 #[.val (.long q1), .second, .val (.int p2), .val (.int p3), .val (.int p4), .val (.int p5), .val (.int v1), .val (.int v2), .val (.long v3), .second, .val (.long v7), .second, .val (.int (3 : Int32)), .val (.int v13), .val (.ref b14), .unset] [(.int (3 : Int32)), (.ref b14)]))
    refine OutW.back (fun t k => XS.iconst X114.here hx rfl (hb hby at_244) k) ?_
    show OutW _ _ _ _ _ _ _ (T114.setTop (mkF m 245 #[.val (.long q1), .second, .val (.int p2), .val (.int p3), .val (.int p4), .val (.int p5), .val (.int v1), .val (.int v2), .val (.long v3), .second, .val (.long v7), .second, .val (.int (3 : Int32)), .val (.int v13), .val (.ref b14), .unset] [(.int (4 : Int32)), (.int (3 : Int32)), (.ref b14)]))
    refine OutW.back (fun t k => XS.iadd X114.here hx rfl (hb hby at_245) rfl k) ?_
    show OutW _ _ _ _ _ _ _ (T114.setTop (mkF m 246 #[.val (.long q1), .second, .val (.int p2), .val (.int p3), .val (.int p4), .val (.int p5), .val (.int v1), .val (.int v2), .val (.long v3), .second, .val (.long v7), .second, .val (.int (3 : Int32)), .val (.int v13), .val (.ref b14), .unset] [(.int ((3 : Int32) + (4 : Int32))), (.ref b14)]))
    rw [show ((3 : Int32) + (4 : Int32)) = (7 : Int32) from by decide]
    refine OutW.back (fun t k => XS.lload X114.here hx rfl (hb hby at_246) rfl  k) ?_
    show OutW _ _ _ _ _ _ _ (T114.setTop (mkF m 248 #[.val (.long q1), .second, .val (.int p2), .val (.int p3), .val (.int p4), .val (.int p5), .val (.int v1), .val (.int v2), .val (.long v3), .second, .val (.long v7), .second, .val (.int (3 : Int32)), .val (.int v13), .val (.ref b14), .unset] [(.long v7), (.int (7 : Int32)), (.ref b14)]))
    refine OutW.back (fun t k => XS.bipush X114.here hx rfl (hb hby at_248) k) ?_
    show OutW _ _ _ _ _ _ _ (T114.setTop (mkF m 250 #[.val (.long q1), .second, .val (.int p2), .val (.int p3), .val (.int p4), .val (.int p5), .val (.int v1), .val (.int v2), .val (.long v3), .second, .val (.long v7), .second, .val (.int (3 : Int32)), .val (.int v13), .val (.ref b14), .unset] [(.int (32 : Int32)), (.long v7), (.int (7 : Int32)), (.ref b14)]))
    refine OutW.back (fun t k => XS.lushr X114.here hx rfl (hb hby at_250) rfl k) ?_
    show OutW _ _ _ _ _ _ _ (T114.setTop (mkF m 251 #[.val (.long q1), .second, .val (.int p2), .val (.int p3), .val (.int p4), .val (.int p5), .val (.int v1), .val (.int v2), .val (.long v3), .second, .val (.long v7), .second, .val (.int (3 : Int32)), .val (.int v13), .val (.ref b14), .unset] [(.long ((v7.toUInt64 >>> ((32 : Int32) &&& 0x3f).toInt64.toUInt64).toInt64)), (.int (7 : Int32)), (.ref b14)]))
    refine OutW.back (fun t k => XS.l2i X114.here hx rfl (hb hby at_251) rfl k) ?_
    show OutW _ _ _ _ _ _ _ (T114.setTop (mkF m 252 #[.val (.long q1), .second, .val (.int p2), .val (.int p3), .val (.int p4), .val (.int p5), .val (.int v1), .val (.int v2), .val (.long v3), .second, .val (.long v7), .second, .val (.int (3 : Int32)), .val (.int v13), .val (.ref b14), .unset] [(.int ((v7.toUInt64 >>> ((32 : Int32) &&& 0x3f).toInt64.toUInt64).toInt64).toInt32), (.int (7 : Int32)), (.ref b14)]))
    refine OutW.back (fun t k => XS.i2b X114.here hx rfl (hb hby at_252) rfl k) ?_
    show OutW _ _ _ _ _ _ _ (T114.setTop (mkF m 253 #[.val (.long q1), .second, .val (.int p2), .val (.int p3), .val (.int p4), .val (.int p5), .val (.int v1), .val (.int v2), .val (.long v3), .second, .val (.long v7), .second, .val (.int (3 : Int32)), .val (.int v13), .val (.ref b14), .unset] [(.int ((v7.toUInt64 >>> ((32 : Int32) &&& 0x3f).toInt64.toUInt64).toInt64).toInt32.toInt8.toInt32), (.int (7 : Int32)), (.ref b14)]))
    generalize hv_v115 : ((v7.toUInt64 >>> ((32 : Int32) &&& 0x3f).toInt64.toUInt64).toInt64).toInt32.toInt8.toInt32 = v115
    obtain ⟨cl116, Ar116, Qk116, Sz116, Nn116, Hh116, Gg116⟩ := id V_b14_114
    have hin116 : ¬ ((7 : Int32) < 0 ∨ cl116.slots.size ≤ ((7 : Int32)).toNatClampNeg) := inb_of Sz116 ⟨by decide, by decide⟩
    obtain ⟨T116, h116, X116, e116, W116, st116⟩ := stB X114 hx hZ e114 Ar116 (j := (7 : Int32)) hin116 (g := (mkF m 253 #[.val (.long q1), .second, .val (.int p2), .val (.int p3), .val (.int p4), .val (.int p5), .val (.int v1), .val (.int v2), .val (.long v3), .second, .val (.long v7), .second, .val (.int (3 : Int32)), .val (.int v13), .val (.ref b14), .unset] [(.int v115), (.int (7 : Int32)), (.ref b14)])) rfl rfl (hb hby at_253)
    have V_b14_116 : Arv Z h116 b14 k14 .byte (16 : Int32) [(.int (nar .byte v13)), (.int (nar .byte v13)), (.int (nar .byte v13)), (.int (nar .byte v107)), (.int (nar .byte v109)), (.int (nar .byte v111)), (.int (nar .byte v113)), (.int (nar .byte v115)), (.int (nar .byte v13)), (.int (nar .byte v13)), (.int (nar .byte v13)), (.int (nar .byte v13)), (.int (nar .byte v13)), (.int (nar .byte v13)), (.int (nar .byte v13)), (.int (nar .byte v13))] (.int (0 : Int32)) := Arv.set Ar116 Qk116 Sz116 Nn116 Hh116 Gg116 (fits_nar_byte _) W116 7 rfl (Nat.le_of_ble_eq_true rfl)
    have N116 := Fr.snoc X116 N114 g_b14
    have Z116 : n0 ≤ h116.size := Nat.le_trans Z114 (Keep.of_wr W116).1
    have K116 := K114.wr W116 (Or.inr sz_b14)
    obtain ⟨lc116, X116, N116⟩ : ∃ lc, Stand p l e room_1 s m #[(.long q1), (.int p2), (.int p3), (.int p4), (.int p5)] below meth c T116 lc 1 16 ∧ Fr n0 lc := ⟨_, X116, N116⟩
    refine OutW.back st116 ?_
    show OutW _ _ _ _ _ _ _ (T116.setTop (mkF m 254 #[.val (.long q1), .second, .val (.int p2), .val (.int p3), .val (.int p4), .val (.int p5), .val (.int v1), .val (.int v2), .val (.long v3), .second, .val (.long v7), .second, .val (.int (3 : Int32)), .val (.int v13), .val (.ref b14), .unset] []))
    refine OutW.back (fun t k => XS.aload X116.here hx rfl (hb hby at_254) rfl rfl  k) ?_
    show OutW _ _ _ _ _ _ _ (T116.setTop (mkF m 256 #[.val (.long q1), .second, .val (.int p2), .val (.int p3), .val (.int p4), .val (.int p5), .val (.int v1), .val (.int v2), .val (.long v3), .second, .val (.long v7), .second, .val (.int (3 : Int32)), .val (.int v13), .val (.ref b14), .unset] [(.ref b14)]))
    refine OutW.back (fun t k => XS.iload X116.here hx rfl (hb hby at_256) rfl  k) ?_
    show OutW _ _ _ _ _ _ _ (T116.setTop (mkF m 258 #[.val (.long q1), .second, .val (.int p2), .val (.int p3), .val (.int p4), .val (.int p5), .val (.int v1), .val (.int v2), .val (.long v3), .second, .val (.long v7), .second, .val (.int (3 : Int32)), .val (.int v13), .val (.ref b14), .unset] [(.int (3 : Int32)), (.ref b14)]))
    refine OutW.back (fun t k => XS.iconst X116.here hx rfl (hb hby at_258) k) ?_
    show OutW _ _ _ _ _ _ _ (T116.setTop (mkF m 259 #[.val (.long q1), .second, .val (.int p2), .val (.int p3), .val (.int p4), .val (.int p5), .val (.int v1), .val (.int v2), .val (.long v3), .second, .val (.long v7), .second, .val (.int (3 : Int32)), .val (.int v13), .val (.ref b14), .unset] [(.int (5 : Int32)), (.int (3 : Int32)), (.ref b14)]))
    refine OutW.back (fun t k => XS.iadd X116.here hx rfl (hb hby at_259) rfl k) ?_
    show OutW _ _ _ _ _ _ _ (T116.setTop (mkF m 260 #[.val (.long q1), .second, .val (.int p2), .val (.int p3), .val (.int p4), .val (.int p5), .val (.int v1), .val (.int v2), .val (.long v3), .second, .val (.long v7), .second, .val (.int (3 : Int32)), .val (.int v13), .val (.ref b14), .unset] [(.int ((3 : Int32) + (5 : Int32))), (.ref b14)]))
    rw [show ((3 : Int32) + (5 : Int32)) = (8 : Int32) from by decide]
    refine OutW.back (fun t k => XS.lload X116.here hx rfl (hb hby at_260) rfl  k) ?_
    show OutW _ _ _ _ _ _ _ (T116.setTop (mkF m 262 #[.val (.long q1), .second, .val (.int p2), .val (.int p3), .val (.int p4), .val (.int p5), .val (.int v1), .val (.int v2), .val (.long v3), .second, .val (.long v7), .second, .val (.int (3 : Int32)), .val (.int v13), .val (.ref b14), .unset] [(.long v7), (.int (8 : Int32)), (.ref b14)]))
    refine OutW.back (fun t k => XS.bipush X116.here hx rfl (hb hby at_262) k) ?_
    show OutW _ _ _ _ _ _ _ (T116.setTop (mkF m 264 #[.val (.long q1), .second, .val (.int p2), .val (.int p3), .val (.int p4), .val (.int p5), .val (.int v1), .val (.int v2), .val (.long v3), .second, .val (.long v7), .second, .val (.int (3 : Int32)), .val (.int v13), .val (.ref b14), .unset] [(.int (40 : Int32)), (.long v7), (.int (8 : Int32)), (.ref b14)]))
    refine OutW.back (fun t k => XS.lushr X116.here hx rfl (hb hby at_264) rfl k) ?_
    show OutW _ _ _ _ _ _ _ (T116.setTop (mkF m 265 #[.val (.long q1), .second, .val (.int p2), .val (.int p3), .val (.int p4), .val (.int p5), .val (.int v1), .val (.int v2), .val (.long v3), .second, .val (.long v7), .second, .val (.int (3 : Int32)), .val (.int v13), .val (.ref b14), .unset] [(.long ((v7.toUInt64 >>> ((40 : Int32) &&& 0x3f).toInt64.toUInt64).toInt64)), (.int (8 : Int32)), (.ref b14)]))
    refine OutW.back (fun t k => XS.l2i X116.here hx rfl (hb hby at_265) rfl k) ?_
    show OutW _ _ _ _ _ _ _ (T116.setTop (mkF m 266 #[.val (.long q1), .second, .val (.int p2), .val (.int p3), .val (.int p4), .val (.int p5), .val (.int v1), .val (.int v2), .val (.long v3), .second, .val (.long v7), .second, .val (.int (3 : Int32)), .val (.int v13), .val (.ref b14), .unset] [(.int ((v7.toUInt64 >>> ((40 : Int32) &&& 0x3f).toInt64.toUInt64).toInt64).toInt32), (.int (8 : Int32)), (.ref b14)]))
    refine OutW.back (fun t k => XS.i2b X116.here hx rfl (hb hby at_266) rfl k) ?_
    show OutW _ _ _ _ _ _ _ (T116.setTop (mkF m 267 #[.val (.long q1), .second, .val (.int p2), .val (.int p3), .val (.int p4), .val (.int p5), .val (.int v1), .val (.int v2), .val (.long v3), .second, .val (.long v7), .second, .val (.int (3 : Int32)), .val (.int v13), .val (.ref b14), .unset] [(.int ((v7.toUInt64 >>> ((40 : Int32) &&& 0x3f).toInt64.toUInt64).toInt64).toInt32.toInt8.toInt32), (.int (8 : Int32)), (.ref b14)]))
    generalize hv_v117 : ((v7.toUInt64 >>> ((40 : Int32) &&& 0x3f).toInt64.toUInt64).toInt64).toInt32.toInt8.toInt32 = v117
    obtain ⟨cl118, Ar118, Qk118, Sz118, Nn118, Hh118, Gg118⟩ := id V_b14_116
    have hin118 : ¬ ((8 : Int32) < 0 ∨ cl118.slots.size ≤ ((8 : Int32)).toNatClampNeg) := inb_of Sz118 ⟨by decide, by decide⟩
    obtain ⟨T118, h118, X118, e118, W118, st118⟩ := stB X116 hx hZ e116 Ar118 (j := (8 : Int32)) hin118 (g := (mkF m 267 #[.val (.long q1), .second, .val (.int p2), .val (.int p3), .val (.int p4), .val (.int p5), .val (.int v1), .val (.int v2), .val (.long v3), .second, .val (.long v7), .second, .val (.int (3 : Int32)), .val (.int v13), .val (.ref b14), .unset] [(.int v117), (.int (8 : Int32)), (.ref b14)])) rfl rfl (hb hby at_267)
    have V_b14_118 : Arv Z h118 b14 k14 .byte (16 : Int32) [(.int (nar .byte v13)), (.int (nar .byte v13)), (.int (nar .byte v13)), (.int (nar .byte v107)), (.int (nar .byte v109)), (.int (nar .byte v111)), (.int (nar .byte v113)), (.int (nar .byte v115)), (.int (nar .byte v117)), (.int (nar .byte v13)), (.int (nar .byte v13)), (.int (nar .byte v13)), (.int (nar .byte v13)), (.int (nar .byte v13)), (.int (nar .byte v13)), (.int (nar .byte v13))] (.int (0 : Int32)) := Arv.set Ar118 Qk118 Sz118 Nn118 Hh118 Gg118 (fits_nar_byte _) W118 8 rfl (Nat.le_of_ble_eq_true rfl)
    have N118 := Fr.snoc X118 N116 g_b14
    have Z118 : n0 ≤ h118.size := Nat.le_trans Z116 (Keep.of_wr W118).1
    have K118 := K116.wr W118 (Or.inr sz_b14)
    obtain ⟨lc118, X118, N118⟩ : ∃ lc, Stand p l e room_1 s m #[(.long q1), (.int p2), (.int p3), (.int p4), (.int p5)] below meth c T118 lc 1 16 ∧ Fr n0 lc := ⟨_, X118, N118⟩
    refine OutW.back st118 ?_
    show OutW _ _ _ _ _ _ _ (T118.setTop (mkF m 268 #[.val (.long q1), .second, .val (.int p2), .val (.int p3), .val (.int p4), .val (.int p5), .val (.int v1), .val (.int v2), .val (.long v3), .second, .val (.long v7), .second, .val (.int (3 : Int32)), .val (.int v13), .val (.ref b14), .unset] []))
    refine OutW.back (fun t k => XS.aload X118.here hx rfl (hb hby at_268) rfl rfl  k) ?_
    show OutW _ _ _ _ _ _ _ (T118.setTop (mkF m 270 #[.val (.long q1), .second, .val (.int p2), .val (.int p3), .val (.int p4), .val (.int p5), .val (.int v1), .val (.int v2), .val (.long v3), .second, .val (.long v7), .second, .val (.int (3 : Int32)), .val (.int v13), .val (.ref b14), .unset] [(.ref b14)]))
    refine OutW.back (fun t k => XS.iload X118.here hx rfl (hb hby at_270) rfl  k) ?_
    show OutW _ _ _ _ _ _ _ (T118.setTop (mkF m 272 #[.val (.long q1), .second, .val (.int p2), .val (.int p3), .val (.int p4), .val (.int p5), .val (.int v1), .val (.int v2), .val (.long v3), .second, .val (.long v7), .second, .val (.int (3 : Int32)), .val (.int v13), .val (.ref b14), .unset] [(.int (3 : Int32)), (.ref b14)]))
    refine OutW.back (fun t k => XS.bipush X118.here hx rfl (hb hby at_272) k) ?_
    show OutW _ _ _ _ _ _ _ (T118.setTop (mkF m 274 #[.val (.long q1), .second, .val (.int p2), .val (.int p3), .val (.int p4), .val (.int p5), .val (.int v1), .val (.int v2), .val (.long v3), .second, .val (.long v7), .second, .val (.int (3 : Int32)), .val (.int v13), .val (.ref b14), .unset] [(.int (6 : Int32)), (.int (3 : Int32)), (.ref b14)]))
    refine OutW.back (fun t k => XS.iadd X118.here hx rfl (hb hby at_274) rfl k) ?_
    show OutW _ _ _ _ _ _ _ (T118.setTop (mkF m 275 #[.val (.long q1), .second, .val (.int p2), .val (.int p3), .val (.int p4), .val (.int p5), .val (.int v1), .val (.int v2), .val (.long v3), .second, .val (.long v7), .second, .val (.int (3 : Int32)), .val (.int v13), .val (.ref b14), .unset] [(.int ((3 : Int32) + (6 : Int32))), (.ref b14)]))
    rw [show ((3 : Int32) + (6 : Int32)) = (9 : Int32) from by decide]
    refine OutW.back (fun t k => XS.lload X118.here hx rfl (hb hby at_275) rfl  k) ?_
    show OutW _ _ _ _ _ _ _ (T118.setTop (mkF m 277 #[.val (.long q1), .second, .val (.int p2), .val (.int p3), .val (.int p4), .val (.int p5), .val (.int v1), .val (.int v2), .val (.long v3), .second, .val (.long v7), .second, .val (.int (3 : Int32)), .val (.int v13), .val (.ref b14), .unset] [(.long v7), (.int (9 : Int32)), (.ref b14)]))
    refine OutW.back (fun t k => XS.bipush X118.here hx rfl (hb hby at_277) k) ?_
    show OutW _ _ _ _ _ _ _ (T118.setTop (mkF m 279 #[.val (.long q1), .second, .val (.int p2), .val (.int p3), .val (.int p4), .val (.int p5), .val (.int v1), .val (.int v2), .val (.long v3), .second, .val (.long v7), .second, .val (.int (3 : Int32)), .val (.int v13), .val (.ref b14), .unset] [(.int (48 : Int32)), (.long v7), (.int (9 : Int32)), (.ref b14)]))
    refine OutW.back (fun t k => XS.lushr X118.here hx rfl (hb hby at_279) rfl k) ?_
    show OutW _ _ _ _ _ _ _ (T118.setTop (mkF m 280 #[.val (.long q1), .second, .val (.int p2), .val (.int p3), .val (.int p4), .val (.int p5), .val (.int v1), .val (.int v2), .val (.long v3), .second, .val (.long v7), .second, .val (.int (3 : Int32)), .val (.int v13), .val (.ref b14), .unset] [(.long ((v7.toUInt64 >>> ((48 : Int32) &&& 0x3f).toInt64.toUInt64).toInt64)), (.int (9 : Int32)), (.ref b14)]))
    refine OutW.back (fun t k => XS.l2i X118.here hx rfl (hb hby at_280) rfl k) ?_
    show OutW _ _ _ _ _ _ _ (T118.setTop (mkF m 281 #[.val (.long q1), .second, .val (.int p2), .val (.int p3), .val (.int p4), .val (.int p5), .val (.int v1), .val (.int v2), .val (.long v3), .second, .val (.long v7), .second, .val (.int (3 : Int32)), .val (.int v13), .val (.ref b14), .unset] [(.int ((v7.toUInt64 >>> ((48 : Int32) &&& 0x3f).toInt64.toUInt64).toInt64).toInt32), (.int (9 : Int32)), (.ref b14)]))
    refine OutW.back (fun t k => XS.i2b X118.here hx rfl (hb hby at_281) rfl k) ?_
    show OutW _ _ _ _ _ _ _ (T118.setTop (mkF m 282 #[.val (.long q1), .second, .val (.int p2), .val (.int p3), .val (.int p4), .val (.int p5), .val (.int v1), .val (.int v2), .val (.long v3), .second, .val (.long v7), .second, .val (.int (3 : Int32)), .val (.int v13), .val (.ref b14), .unset] [(.int ((v7.toUInt64 >>> ((48 : Int32) &&& 0x3f).toInt64.toUInt64).toInt64).toInt32.toInt8.toInt32), (.int (9 : Int32)), (.ref b14)]))
    generalize hv_v119 : ((v7.toUInt64 >>> ((48 : Int32) &&& 0x3f).toInt64.toUInt64).toInt64).toInt32.toInt8.toInt32 = v119
    obtain ⟨cl120, Ar120, Qk120, Sz120, Nn120, Hh120, Gg120⟩ := id V_b14_118
    have hin120 : ¬ ((9 : Int32) < 0 ∨ cl120.slots.size ≤ ((9 : Int32)).toNatClampNeg) := inb_of Sz120 ⟨by decide, by decide⟩
    obtain ⟨T120, h120, X120, e120, W120, st120⟩ := stB X118 hx hZ e118 Ar120 (j := (9 : Int32)) hin120 (g := (mkF m 282 #[.val (.long q1), .second, .val (.int p2), .val (.int p3), .val (.int p4), .val (.int p5), .val (.int v1), .val (.int v2), .val (.long v3), .second, .val (.long v7), .second, .val (.int (3 : Int32)), .val (.int v13), .val (.ref b14), .unset] [(.int v119), (.int (9 : Int32)), (.ref b14)])) rfl rfl (hb hby at_282)
    have V_b14_120 : Arv Z h120 b14 k14 .byte (16 : Int32) [(.int (nar .byte v13)), (.int (nar .byte v13)), (.int (nar .byte v13)), (.int (nar .byte v107)), (.int (nar .byte v109)), (.int (nar .byte v111)), (.int (nar .byte v113)), (.int (nar .byte v115)), (.int (nar .byte v117)), (.int (nar .byte v119)), (.int (nar .byte v13)), (.int (nar .byte v13)), (.int (nar .byte v13)), (.int (nar .byte v13)), (.int (nar .byte v13)), (.int (nar .byte v13))] (.int (0 : Int32)) := Arv.set Ar120 Qk120 Sz120 Nn120 Hh120 Gg120 (fits_nar_byte _) W120 9 rfl (Nat.le_of_ble_eq_true rfl)
    have N120 := Fr.snoc X120 N118 g_b14
    have Z120 : n0 ≤ h120.size := Nat.le_trans Z118 (Keep.of_wr W120).1
    have K120 := K118.wr W120 (Or.inr sz_b14)
    obtain ⟨lc120, X120, N120⟩ : ∃ lc, Stand p l e room_1 s m #[(.long q1), (.int p2), (.int p3), (.int p4), (.int p5)] below meth c T120 lc 1 16 ∧ Fr n0 lc := ⟨_, X120, N120⟩
    refine OutW.back st120 ?_
    show OutW _ _ _ _ _ _ _ (T120.setTop (mkF m 283 #[.val (.long q1), .second, .val (.int p2), .val (.int p3), .val (.int p4), .val (.int p5), .val (.int v1), .val (.int v2), .val (.long v3), .second, .val (.long v7), .second, .val (.int (3 : Int32)), .val (.int v13), .val (.ref b14), .unset] []))
    refine OutW.back (fun t k => XS.aload X120.here hx rfl (hb hby at_283) rfl rfl  k) ?_
    show OutW _ _ _ _ _ _ _ (T120.setTop (mkF m 285 #[.val (.long q1), .second, .val (.int p2), .val (.int p3), .val (.int p4), .val (.int p5), .val (.int v1), .val (.int v2), .val (.long v3), .second, .val (.long v7), .second, .val (.int (3 : Int32)), .val (.int v13), .val (.ref b14), .unset] [(.ref b14)]))
    refine OutW.back (fun t k => XS.iload X120.here hx rfl (hb hby at_285) rfl  k) ?_
    show OutW _ _ _ _ _ _ _ (T120.setTop (mkF m 287 #[.val (.long q1), .second, .val (.int p2), .val (.int p3), .val (.int p4), .val (.int p5), .val (.int v1), .val (.int v2), .val (.long v3), .second, .val (.long v7), .second, .val (.int (3 : Int32)), .val (.int v13), .val (.ref b14), .unset] [(.int (3 : Int32)), (.ref b14)]))
    refine OutW.back (fun t k => XS.bipush X120.here hx rfl (hb hby at_287) k) ?_
    show OutW _ _ _ _ _ _ _ (T120.setTop (mkF m 289 #[.val (.long q1), .second, .val (.int p2), .val (.int p3), .val (.int p4), .val (.int p5), .val (.int v1), .val (.int v2), .val (.long v3), .second, .val (.long v7), .second, .val (.int (3 : Int32)), .val (.int v13), .val (.ref b14), .unset] [(.int (7 : Int32)), (.int (3 : Int32)), (.ref b14)]))
    refine OutW.back (fun t k => XS.iadd X120.here hx rfl (hb hby at_289) rfl k) ?_
    show OutW _ _ _ _ _ _ _ (T120.setTop (mkF m 290 #[.val (.long q1), .second, .val (.int p2), .val (.int p3), .val (.int p4), .val (.int p5), .val (.int v1), .val (.int v2), .val (.long v3), .second, .val (.long v7), .second, .val (.int (3 : Int32)), .val (.int v13), .val (.ref b14), .unset] [(.int ((3 : Int32) + (7 : Int32))), (.ref b14)]))
    rw [show ((3 : Int32) + (7 : Int32)) = (10 : Int32) from by decide]
    refine OutW.back (fun t k => XS.lload X120.here hx rfl (hb hby at_290) rfl  k) ?_
    show OutW _ _ _ _ _ _ _ (T120.setTop (mkF m 292 #[.val (.long q1), .second, .val (.int p2), .val (.int p3), .val (.int p4), .val (.int p5), .val (.int v1), .val (.int v2), .val (.long v3), .second, .val (.long v7), .second, .val (.int (3 : Int32)), .val (.int v13), .val (.ref b14), .unset] [(.long v7), (.int (10 : Int32)), (.ref b14)]))
    refine OutW.back (fun t k => XS.bipush X120.here hx rfl (hb hby at_292) k) ?_
    show OutW _ _ _ _ _ _ _ (T120.setTop (mkF m 294 #[.val (.long q1), .second, .val (.int p2), .val (.int p3), .val (.int p4), .val (.int p5), .val (.int v1), .val (.int v2), .val (.long v3), .second, .val (.long v7), .second, .val (.int (3 : Int32)), .val (.int v13), .val (.ref b14), .unset] [(.int (56 : Int32)), (.long v7), (.int (10 : Int32)), (.ref b14)]))
    refine OutW.back (fun t k => XS.lushr X120.here hx rfl (hb hby at_294) rfl k) ?_
    show OutW _ _ _ _ _ _ _ (T120.setTop (mkF m 295 #[.val (.long q1), .second, .val (.int p2), .val (.int p3), .val (.int p4), .val (.int p5), .val (.int v1), .val (.int v2), .val (.long v3), .second, .val (.long v7), .second, .val (.int (3 : Int32)), .val (.int v13), .val (.ref b14), .unset] [(.long ((v7.toUInt64 >>> ((56 : Int32) &&& 0x3f).toInt64.toUInt64).toInt64)), (.int (10 : Int32)), (.ref b14)]))
    refine OutW.back (fun t k => XS.l2i X120.here hx rfl (hb hby at_295) rfl k) ?_
    show OutW _ _ _ _ _ _ _ (T120.setTop (mkF m 296 #[.val (.long q1), .second, .val (.int p2), .val (.int p3), .val (.int p4), .val (.int p5), .val (.int v1), .val (.int v2), .val (.long v3), .second, .val (.long v7), .second, .val (.int (3 : Int32)), .val (.int v13), .val (.ref b14), .unset] [(.int ((v7.toUInt64 >>> ((56 : Int32) &&& 0x3f).toInt64.toUInt64).toInt64).toInt32), (.int (10 : Int32)), (.ref b14)]))
    refine OutW.back (fun t k => XS.i2b X120.here hx rfl (hb hby at_296) rfl k) ?_
    show OutW _ _ _ _ _ _ _ (T120.setTop (mkF m 297 #[.val (.long q1), .second, .val (.int p2), .val (.int p3), .val (.int p4), .val (.int p5), .val (.int v1), .val (.int v2), .val (.long v3), .second, .val (.long v7), .second, .val (.int (3 : Int32)), .val (.int v13), .val (.ref b14), .unset] [(.int ((v7.toUInt64 >>> ((56 : Int32) &&& 0x3f).toInt64.toUInt64).toInt64).toInt32.toInt8.toInt32), (.int (10 : Int32)), (.ref b14)]))
    generalize hv_v121 : ((v7.toUInt64 >>> ((56 : Int32) &&& 0x3f).toInt64.toUInt64).toInt64).toInt32.toInt8.toInt32 = v121
    obtain ⟨cl122, Ar122, Qk122, Sz122, Nn122, Hh122, Gg122⟩ := id V_b14_120
    have hin122 : ¬ ((10 : Int32) < 0 ∨ cl122.slots.size ≤ ((10 : Int32)).toNatClampNeg) := inb_of Sz122 ⟨by decide, by decide⟩
    obtain ⟨T122, h122, X122, e122, W122, st122⟩ := stB X120 hx hZ e120 Ar122 (j := (10 : Int32)) hin122 (g := (mkF m 297 #[.val (.long q1), .second, .val (.int p2), .val (.int p3), .val (.int p4), .val (.int p5), .val (.int v1), .val (.int v2), .val (.long v3), .second, .val (.long v7), .second, .val (.int (3 : Int32)), .val (.int v13), .val (.ref b14), .unset] [(.int v121), (.int (10 : Int32)), (.ref b14)])) rfl rfl (hb hby at_297)
    have V_b14_122 : Arv Z h122 b14 k14 .byte (16 : Int32) [(.int (nar .byte v13)), (.int (nar .byte v13)), (.int (nar .byte v13)), (.int (nar .byte v107)), (.int (nar .byte v109)), (.int (nar .byte v111)), (.int (nar .byte v113)), (.int (nar .byte v115)), (.int (nar .byte v117)), (.int (nar .byte v119)), (.int (nar .byte v121)), (.int (nar .byte v13)), (.int (nar .byte v13)), (.int (nar .byte v13)), (.int (nar .byte v13)), (.int (nar .byte v13))] (.int (0 : Int32)) := Arv.set Ar122 Qk122 Sz122 Nn122 Hh122 Gg122 (fits_nar_byte _) W122 10 rfl (Nat.le_of_ble_eq_true rfl)
    have N122 := Fr.snoc X122 N120 g_b14
    have Z122 : n0 ≤ h122.size := Nat.le_trans Z120 (Keep.of_wr W122).1
    have K122 := K120.wr W122 (Or.inr sz_b14)
    obtain ⟨lc122, X122, N122⟩ : ∃ lc, Stand p l e room_1 s m #[(.long q1), (.int p2), (.int p3), (.int p4), (.int p5)] below meth c T122 lc 1 16 ∧ Fr n0 lc := ⟨_, X122, N122⟩
    refine OutW.back st122 ?_
    show OutW _ _ _ _ _ _ _ (T122.setTop (mkF m 298 #[.val (.long q1), .second, .val (.int p2), .val (.int p3), .val (.int p4), .val (.int p5), .val (.int v1), .val (.int v2), .val (.long v3), .second, .val (.long v7), .second, .val (.int (3 : Int32)), .val (.int v13), .val (.ref b14), .unset] []))
    refine OutW.back (fun t k => XS.lload X122.here hx rfl (hb hby at_298) rfl  k) ?_
    show OutW _ _ _ _ _ _ _ (T122.setTop (mkF m 300 #[.val (.long q1), .second, .val (.int p2), .val (.int p3), .val (.int p4), .val (.int p5), .val (.int v1), .val (.int v2), .val (.long v3), .second, .val (.long v7), .second, .val (.int (3 : Int32)), .val (.int v13), .val (.ref b14), .unset] [(.long v7)]))
    refine OutW.back (X122.ldc2Long hx hown (mvT hZ (hw _ (List.mem_of_getElem? (i := 1) rfl))) (g := (mkF m 300 #[.val (.long q1), .second, .val (.int p2), .val (.int p3), .val (.int p4), .val (.int p5), .val (.int v1), .val (.int v2), .val (.long v3), .second, .val (.long v7), .second, .val (.int (3 : Int32)), .val (.int v13), .val (.ref b14), .unset] [(.long v7)])) rfl (hb hby at_300)) ?_
    show OutW _ _ _ _ _ _ _ (T122.setTop (mkF m 303 #[.val (.long q1), .second, .val (.int p2), .val (.int p3), .val (.int p4), .val (.int p5), .val (.int v1), .val (.int v2), .val (.long v3), .second, .val (.long v7), .second, .val (.int (3 : Int32)), .val (.int v13), .val (.ref b14), .unset] [(.long (-9223372036854775808 : Int64)), (.long v7)]))
    refine OutW.back (fun t k => XS.lcmp X122.here hx rfl (hb hby at_303) rfl k) ?_
    show OutW _ _ _ _ _ _ _ (T122.setTop (mkF m 304 #[.val (.long q1), .second, .val (.int p2), .val (.int p3), .val (.int p4), .val (.int p5), .val (.int v1), .val (.int v2), .val (.long v3), .second, .val (.long v7), .second, .val (.int (3 : Int32)), .val (.int v13), .val (.ref b14), .unset] [(.int (lcmpW v7 (-9223372036854775808 : Int64)))]))
    obtain ⟨v124, hv_v124⟩ : ∃ z : Int32, z = (if v7 = (-9223372036854775808 : Int64) then (1 : Int32) else (0 : Int32)) := ⟨_, rfl⟩
    have j125 : ∀ t, Steps p.tables e below (T122.setTop (mkF m 312 #[.val (.long q1), .second, .val (.int p2), .val (.int p3), .val (.int p4), .val (.int p5), .val (.int v1), .val (.int v2), .val (.long v3), .second, .val (.long v7), .second, .val (.int (3 : Int32)), .val (.int v13), .val (.ref b14), .unset] [(.int v124)])) t → Steps p.tables e below (T122.setTop (mkF m 304 #[.val (.long q1), .second, .val (.int p2), .val (.int p3), .val (.int p4), .val (.int p5), .val (.int v1), .val (.int v2), .val (.long v3), .second, .val (.long v7), .second, .val (.int (3 : Int32)), .val (.int v13), .val (.ref b14), .unset] [(.int (lcmpW v7 (-9223372036854775808 : Int64)))])) t := by
      intro t k
      by_cases c304_126 : v7 = (-9223372036854775808 : Int64)
      · skip
        refine XS.ifNo X122.here hx rfl (hb hby at_304) rfl ((if0 _ _).trans (teq ((lw_eq _ _).mpr c304_126)).2) ?_
        show Steps p.tables e below (T122.setTop (mkF m 307 #[.val (.long q1), .second, .val (.int p2), .val (.int p3), .val (.int p4), .val (.int p5), .val (.int v1), .val (.int v2), .val (.long v3), .second, .val (.long v7), .second, .val (.int (3 : Int32)), .val (.int v13), .val (.ref b14), .unset] [])) t
        refine XS.iconst X122.here hx rfl (hb hby at_307) ?_
        show Steps p.tables e below (T122.setTop (mkF m 308 #[.val (.long q1), .second, .val (.int p2), .val (.int p3), .val (.int p4), .val (.int p5), .val (.int v1), .val (.int v2), .val (.long v3), .second, .val (.long v7), .second, .val (.int (3 : Int32)), .val (.int v13), .val (.ref b14), .unset] [(.int (1 : Int32))])) t
        refine XS.goto X122.here hx rfl (pc0 := 308) (pc' := 312) rfl (hb hby at_308) (by decide) (by decide) ?_
        show Steps p.tables e below (T122.setTop (mkF m 312 #[.val (.long q1), .second, .val (.int p2), .val (.int p3), .val (.int p4), .val (.int p5), .val (.int v1), .val (.int v2), .val (.long v3), .second, .val (.long v7), .second, .val (.int (3 : Int32)), .val (.int v13), .val (.ref b14), .unset] [(.int (1 : Int32))])) t
        have q_v124 : v124 = (1 : Int32) := by rw [hv_v124, if_pos c304_126]
        rw [q_v124] at k
        exact k
      · skip
        refine XS.ifYes X122.here hx rfl (pc0 := 304) (pc' := 311) rfl (hb hby at_304) rfl ((if0 _ _).trans (feq (fun q => c304_126 ((lw_eq _ _).mp q))).2) (by decide) (by decide) ?_
        show Steps p.tables e below (T122.setTop (mkF m 311 #[.val (.long q1), .second, .val (.int p2), .val (.int p3), .val (.int p4), .val (.int p5), .val (.int v1), .val (.int v2), .val (.long v3), .second, .val (.long v7), .second, .val (.int (3 : Int32)), .val (.int v13), .val (.ref b14), .unset] [])) t
        refine XS.iconst X122.here hx rfl (hb hby at_311) ?_
        show Steps p.tables e below (T122.setTop (mkF m 312 #[.val (.long q1), .second, .val (.int p2), .val (.int p3), .val (.int p4), .val (.int p5), .val (.int v1), .val (.int v2), .val (.long v3), .second, .val (.long v7), .second, .val (.int (3 : Int32)), .val (.int v13), .val (.ref b14), .unset] [(.int (0 : Int32))])) t
        have q_v124 : v124 = (0 : Int32) := by rw [hv_v124, if_neg c304_126]
        rw [q_v124] at k
        exact k
    refine OutW.back j125 ?_
    show OutW _ _ _ _ _ _ _ (T122.setTop (mkF m 312 #[.val (.long q1), .second, .val (.int p2), .val (.int p3), .val (.int p4), .val (.int p5), .val (.int v1), .val (.int v2), .val (.long v3), .second, .val (.long v7), .second, .val (.int (3 : Int32)), .val (.int v13), .val (.ref b14), .unset] [(.int v124)]))
    refine OutW.back (fun t k => XS.istore X122.here hx rfl (hb hby at_312) rfl (l' := #[.val (.long q1), .second, .val (.int p2), .val (.int p3), .val (.int p4), .val (.int p5), .val (.int v1), .val (.int v2), .val (.long v3), .second, .val (.long v7), .second, .val (.int (3 : Int32)), .val (.int v13), .val (.ref b14), .val (.int v124)]) rfl k) ?_
    show OutW _ _ _ _ _ _ _ (T122.setTop (mkF m 314 #[.val (.long q1), .second, .val (.int p2), .val (.int p3), .val (.int p4), .val (.int p5), .val (.int v1), .val (.int v2), .val (.long v3), .second, .val (.long v7), .second, .val (.int (3 : Int32)), .val (.int v13), .val (.ref b14), .val (.int v124)] []))
    refine OutW.back (fun t k => XS.aload X122.here hx rfl (hb hby at_314) rfl rfl  k) ?_
    show OutW _ _ _ _ _ _ _ (T122.setTop (mkF m 316 #[.val (.long q1), .second, .val (.int p2), .val (.int p3), .val (.int p4), .val (.int p5), .val (.int v1), .val (.int v2), .val (.long v3), .second, .val (.long v7), .second, .val (.int (3 : Int32)), .val (.int v13), .val (.ref b14), .val (.int v124)] [(.ref b14)]))
    refine OutW.back (fun t k => XS.iload X122.here hx rfl (hb hby at_316) rfl  k) ?_
    show OutW _ _ _ _ _ _ _ (T122.setTop (mkF m 318 #[.val (.long q1), .second, .val (.int p2), .val (.int p3), .val (.int p4), .val (.int p5), .val (.int v1), .val (.int v2), .val (.long v3), .second, .val (.long v7), .second, .val (.int (3 : Int32)), .val (.int v13), .val (.ref b14), .val (.int v124)] [(.int (3 : Int32)), (.ref b14)]))
    obtain ⟨_, _, ⟨T127, L127, k127, n127⟩, -, X127, ⟨Lc127, hQ127, l127, y127, z127⟩, st127⟩ := Jvm.LawKit.callS X122 hx (y := (⟨"com/example/patchloom/patchloom/delta/SignMagnitude", "isNegativeZero", "([BI)Z"⟩ : MethodName)) hown (mvT hZ (hw _ (List.mem_of_getElem? (i := 3) rfl))) (mvT hZ (hw _ (List.mem_of_getElem? (i := 4) rfl))) (mvT hZ (hw _ (List.mem_of_getElem? (i := 5) rfl))) (mvT hZ (hw _ (List.mem_of_getElem? (i := 6) rfl))) (by decide) (backOf (W := 0) (rm1_3 l Z a0 hw [] b14 (nar .byte v13) (nar .byte v13) (nar .byte v13) (nar .byte v107) (nar .byte v109) (nar .byte v111) (nar .byte v113) (nar .byte v115) (nar .byte v117) (nar .byte v119) (nar .byte v121) (nar .byte v13) (nar .byte v13) (nar .byte v13) (nar .byte v13) (nar .byte v13) k14 h122 n0 Z122 V_b14_122) hZ (hw _ (List.mem_of_getElem? (i := 6) rfl)) (hw _ (List.mem_of_getElem? (i := 5) rfl)) (by decide) (by decide)) (g := (mkF m 318 #[.val (.long q1), .second, .val (.int p2), .val (.int p3), .val (.int p4), .val (.int p5), .val (.int v1), .val (.int v2), .val (.long v3), .second, .val (.long v7), .second, .val (.int (3 : Int32)), .val (.int v13), .val (.ref b14), .val (.int v124)] [(.int (3 : Int32)), (.ref b14)])) rfl (by rw [hml]; rfl) (argsL := [(.ref b14), (.int (3 : Int32))]) (rest := []) (lenOf pd_0 rfl) rfl (by show 2 * 0 + _ ≤ _; exact Nat.le_of_eq rfl) (hb hby at_318) (fun _ _ => ⟨rfl, e122, (by decide : 1 + 0 ≤ _), (by decide : 16 + 0 ≤ _)⟩)
    dsimp only [Pt.U, Pt.locs, Pt.cells, Pt.slots] at X127 l127 y127 z127 st127 hQ127
    subst l127 y127 z127
    obtain ⟨rfl, Nq127, e127⟩ := hQ127
    have N127 := Fr.app N122 Nq127
    obtain ⟨lc127, X127, N127⟩ : ∃ lc, Stand p l e room_1 s m #[(.long q1), (.int p2), (.int p3), (.int p4), (.int p5)] below meth c T127 lc 1 16 ∧ Fr n0 lc := ⟨_, X127, N127⟩
    refine OutW.back st127 ?_
    show OutW _ _ _ _ _ _ _ (T127.setTop (mkF m 321 #[.val (.long q1), .second, .val (.int p2), .val (.int p3), .val (.int p4), .val (.int p5), .val (.int v1), .val (.int v2), .val (.long v3), .second, .val (.long v7), .second, .val (.int (3 : Int32)), .val (.int v13), .val (.ref b14), .val (.int v124)] [(.int (negz3 (nar .byte v107) (nar .byte v109) (nar .byte v111) (nar .byte v113) (nar .byte v115) (nar .byte v117) (nar .byte v119) (nar .byte v121)))]))
    refine OutW.back (fun t k => XS.iload X127.here hx rfl (hb hby at_321) rfl  k) ?_
    show OutW _ _ _ _ _ _ _ (T127.setTop (mkF m 323 #[.val (.long q1), .second, .val (.int p2), .val (.int p3), .val (.int p4), .val (.int p5), .val (.int v1), .val (.int v2), .val (.long v3), .second, .val (.long v7), .second, .val (.int (3 : Int32)), .val (.int v13), .val (.ref b14), .val (.int v124)] [(.int v124), (.int (negz3 (nar .byte v107) (nar .byte v109) (nar .byte v111) (nar .byte v113) (nar .byte v115) (nar .byte v117) (nar .byte v119) (nar .byte v121)))]))
    obtain ⟨v129, hv_v129⟩ : ∃ z : Int32, z = (if (negz3 (nar .byte v107) (nar .byte v109) (nar .byte v111) (nar .byte v113) (nar .byte v115) (nar .byte v117) (nar .byte v119) (nar .byte v121)) = v124 then (1 : Int32) else (0 : Int32)) := ⟨_, rfl⟩
    have j130 : ∀ t, Steps p.tables e below (T127.setTop (mkF m 331 #[.val (.long q1), .second, .val (.int p2), .val (.int p3), .val (.int p4), .val (.int p5), .val (.int v1), .val (.int v2), .val (.long v3), .second, .val (.long v7), .second, .val (.int (3 : Int32)), .val (.int v13), .val (.ref b14), .val (.int v124)] [(.int v129)])) t → Steps p.tables e below (T127.setTop (mkF m 323 #[.val (.long q1), .second, .val (.int p2), .val (.int p3), .val (.int p4), .val (.int p5), .val (.int v1), .val (.int v2), .val (.long v3), .second, .val (.long v7), .second, .val (.int (3 : Int32)), .val (.int v13), .val (.ref b14), .val (.int v124)] [(.int v124), (.int (negz3 (nar .byte v107) (nar .byte v109) (nar .byte v111) (nar .byte v113) (nar .byte v115) (nar .byte v117) (nar .byte v119) (nar .byte v121)))])) t := by
      intro t k
      by_cases c323_131 : (negz3 (nar .byte v107) (nar .byte v109) (nar .byte v111) (nar .byte v113) (nar .byte v115) (nar .byte v117) (nar .byte v119) (nar .byte v121)) = v124
      · skip
        refine XS.icmpNo X127.here hx rfl (hb hby at_323) rfl (teq c323_131).2 ?_
        show Steps p.tables e below (T127.setTop (mkF m 326 #[.val (.long q1), .second, .val (.int p2), .val (.int p3), .val (.int p4), .val (.int p5), .val (.int v1), .val (.int v2), .val (.long v3), .second, .val (.long v7), .second, .val (.int (3 : Int32)), .val (.int v13), .val (.ref b14), .val (.int v124)] [])) t
        refine XS.iconst X127.here hx rfl (hb hby at_326) ?_
        show Steps p.tables e below (T127.setTop (mkF m 327 #[.val (.long q1), .second, .val (.int p2), .val (.int p3), .val (.int p4), .val (.int p5), .val (.int v1), .val (.int v2), .val (.long v3), .second, .val (.long v7), .second, .val (.int (3 : Int32)), .val (.int v13), .val (.ref b14), .val (.int v124)] [(.int (1 : Int32))])) t
        refine XS.goto X127.here hx rfl (pc0 := 327) (pc' := 331) rfl (hb hby at_327) (by decide) (by decide) ?_
        show Steps p.tables e below (T127.setTop (mkF m 331 #[.val (.long q1), .second, .val (.int p2), .val (.int p3), .val (.int p4), .val (.int p5), .val (.int v1), .val (.int v2), .val (.long v3), .second, .val (.long v7), .second, .val (.int (3 : Int32)), .val (.int v13), .val (.ref b14), .val (.int v124)] [(.int (1 : Int32))])) t
        have q_v129 : v129 = (1 : Int32) := by rw [hv_v129, if_pos c323_131]
        rw [q_v129] at k
        exact k
      · skip
        refine XS.icmpYes X127.here hx rfl (pc0 := 323) (pc' := 330) rfl (hb hby at_323) rfl (feq c323_131).2 (by decide) (by decide) ?_
        show Steps p.tables e below (T127.setTop (mkF m 330 #[.val (.long q1), .second, .val (.int p2), .val (.int p3), .val (.int p4), .val (.int p5), .val (.int v1), .val (.int v2), .val (.long v3), .second, .val (.long v7), .second, .val (.int (3 : Int32)), .val (.int v13), .val (.ref b14), .val (.int v124)] [])) t
        refine XS.iconst X127.here hx rfl (hb hby at_330) ?_
        show Steps p.tables e below (T127.setTop (mkF m 331 #[.val (.long q1), .second, .val (.int p2), .val (.int p3), .val (.int p4), .val (.int p5), .val (.int v1), .val (.int v2), .val (.long v3), .second, .val (.long v7), .second, .val (.int (3 : Int32)), .val (.int v13), .val (.ref b14), .val (.int v124)] [(.int (0 : Int32))])) t
        have q_v129 : v129 = (0 : Int32) := by rw [hv_v129, if_neg c323_131]
        rw [q_v129] at k
        exact k
    refine OutW.back j130 ?_
    show OutW _ _ _ _ _ _ _ (T127.setTop (mkF m 331 #[.val (.long q1), .second, .val (.int p2), .val (.int p3), .val (.int p4), .val (.int p5), .val (.int v1), .val (.int v2), .val (.long v3), .second, .val (.long v7), .second, .val (.int (3 : Int32)), .val (.int v13), .val (.ref b14), .val (.int v124)] [(.int v129)]))
    refine OutW.retN X127 hx (t := .boolean) (z' := 1) Bd.returns (by simp) hlk (hb hby at_331) ?hz (by decide) (by decide) ?_
    case hz =>
      have hfin : v129 = (1 : Int32) := by
        have e : (negz3 (nar .byte v107) (nar .byte v109) (nar .byte v111) (nar .byte v113) (nar .byte v115) (nar .byte v117) (nar .byte v119) (nar .byte v121)) = v124 := by
          rw [← hv_v107, ← hv_v109, ← hv_v111, ← hv_v113, ← hv_v115, ← hv_v117, ← hv_v119, ← hv_v121, hv_v124]
          exact own_neg _
        rw [hv_v129, if_pos e]
      rw [hfin]; rfl
    show Q0 Z q1 p2 p3 p4 p5 h0 n0 _ T127.heap _
    rw [e127]
    exact ⟨rfl, N127⟩
  · skip
    show OutW _ _ _ _ _ _ _ (T30.setTop (mkF m 189 #[.val (.long q1), .second, .val (.int p2), .val (.int p3), .val (.int p4), .val (.int p5), .val (.int v1), .val (.int v2), .val (.long v3), .second, .val (.long v7), .second, .val (.int (4 : Int32)), .val (.int v13), .val (.ref b14), .unset] []))
    refine OutW.back (fun t k => XS.aload X30.here hx rfl (hb hby at_189) rfl rfl  k) ?_
    show OutW _ _ _ _ _ _ _ (T30.setTop (mkF m 191 #[.val (.long q1), .second, .val (.int p2), .val (.int p3), .val (.int p4), .val (.int p5), .val (.int v1), .val (.int v2), .val (.long v3), .second, .val (.long v7), .second, .val (.int (4 : Int32)), .val (.int v13), .val (.ref b14), .unset] [(.ref b14)]))
    refine OutW.back (fun t k => XS.iload X30.here hx rfl (hb hby at_191) rfl  k) ?_
    show OutW _ _ _ _ _ _ _ (T30.setTop (mkF m 193 #[.val (.long q1), .second, .val (.int p2), .val (.int p3), .val (.int p4), .val (.int p5), .val (.int v1), .val (.int v2), .val (.long v3), .second, .val (.long v7), .second, .val (.int (4 : Int32)), .val (.int v13), .val (.ref b14), .unset] [(.int (4 : Int32)), (.ref b14)]))
    refine OutW.back (fun t k => XS.lload X30.here hx rfl (hb hby at_193) rfl  k) ?_
    show OutW _ _ _ _ _ _ _ (T30.setTop (mkF m 195 #[.val (.long q1), .second, .val (.int p2), .val (.int p3), .val (.int p4), .val (.int p5), .val (.int v1), .val (.int v2), .val (.long v3), .second, .val (.long v7), .second, .val (.int (4 : Int32)), .val (.int v13), .val (.ref b14), .unset] [(.long v7), (.int (4 : Int32)), (.ref b14)]))
    refine OutW.back (fun t k => XS.l2i X30.here hx rfl (hb hby at_195) rfl k) ?_
    show OutW _ _ _ _ _ _ _ (T30.setTop (mkF m 196 #[.val (.long q1), .second, .val (.int p2), .val (.int p3), .val (.int p4), .val (.int p5), .val (.int v1), .val (.int v2), .val (.long v3), .second, .val (.long v7), .second, .val (.int (4 : Int32)), .val (.int v13), .val (.ref b14), .unset] [(.int v7.toInt32), (.int (4 : Int32)), (.ref b14)]))
    refine OutW.back (fun t k => XS.i2b X30.here hx rfl (hb hby at_196) rfl k) ?_
    show OutW _ _ _ _ _ _ _ (T30.setTop (mkF m 197 #[.val (.long q1), .second, .val (.int p2), .val (.int p3), .val (.int p4), .val (.int p5), .val (.int v1), .val (.int v2), .val (.long v3), .second, .val (.long v7), .second, .val (.int (4 : Int32)), .val (.int v13), .val (.ref b14), .unset] [(.int v7.toInt32.toInt8.toInt32), (.int (4 : Int32)), (.ref b14)]))
    generalize hv_v132 : v7.toInt32.toInt8.toInt32 = v132
    obtain ⟨cl133, Ar133, Qk133, Sz133, Nn133, Hh133, Gg133⟩ := id V_b14_30
    have hin133 : ¬ ((4 : Int32) < 0 ∨ cl133.slots.size ≤ ((4 : Int32)).toNatClampNeg) := inb_of Sz133 ⟨by decide, by decide⟩
    obtain ⟨T133, h133, X133, e133, W133, st133⟩ := stB X30 hx hZ e30 Ar133 (j := (4 : Int32)) hin133 (g := (mkF m 197 #[.val (.long q1), .second, .val (.int p2), .val (.int p3), .val (.int p4), .val (.int p5), .val (.int v1), .val (.int v2), .val (.long v3), .second, .val (.long v7), .second, .val (.int (4 : Int32)), .val (.int v13), .val (.ref b14), .unset] [(.int v132), (.int (4 : Int32)), (.ref b14)])) rfl rfl (hb hby at_197)
    have V_b14_133 : Arv Z h133 b14 k14 .byte (16 : Int32) [(.int (nar .byte v13)), (.int (nar .byte v13)), (.int (nar .byte v13)), (.int (nar .byte v13)), (.int (nar .byte v132)), (.int (nar .byte v13)), (.int (nar .byte v13)), (.int (nar .byte v13)), (.int (nar .byte v13)), (.int (nar .byte v13)), (.int (nar .byte v13)), (.int (nar .byte v13)), (.int (nar .byte v13)), (.int (nar .byte v13)), (.int (nar .byte v13)), (.int (nar .byte v13))] (.int (0 : Int32)) := Arv.set Ar133 Qk133 Sz133 Nn133 Hh133 Gg133 (fits_nar_byte _) W133 4 rfl (Nat.le_of_ble_eq_true rfl)
    have N133 := Fr.snoc X133 N30 g_b14
    have Z133 : n0 ≤ h133.size := Nat.le_trans Z30 (Keep.of_wr W133).1
    have K133 := K30.wr W133 (Or.inr sz_b14)
    obtain ⟨lc133, X133, N133⟩ : ∃ lc, Stand p l e room_1 s m #[(.long q1), (.int p2), (.int p3), (.int p4), (.int p5)] below meth c T133 lc 1 16 ∧ Fr n0 lc := ⟨_, X133, N133⟩
    refine OutW.back st133 ?_
    show OutW _ _ _ _ _ _ _ (T133.setTop (mkF m 198 #[.val (.long q1), .second, .val (.int p2), .val (.int p3), .val (.int p4), .val (.int p5), .val (.int v1), .val (.int v2), .val (.long v3), .second, .val (.long v7), .second, .val (.int (4 : Int32)), .val (.int v13), .val (.ref b14), .unset] []))
    refine OutW.back (fun t k => XS.aload X133.here hx rfl (hb hby at_198) rfl rfl  k) ?_
    show OutW _ _ _ _ _ _ _ (T133.setTop (mkF m 200 #[.val (.long q1), .second, .val (.int p2), .val (.int p3), .val (.int p4), .val (.int p5), .val (.int v1), .val (.int v2), .val (.long v3), .second, .val (.long v7), .second, .val (.int (4 : Int32)), .val (.int v13), .val (.ref b14), .unset] [(.ref b14)]))
    refine OutW.back (fun t k => XS.iload X133.here hx rfl (hb hby at_200) rfl  k) ?_
    show OutW _ _ _ _ _ _ _ (T133.setTop (mkF m 202 #[.val (.long q1), .second, .val (.int p2), .val (.int p3), .val (.int p4), .val (.int p5), .val (.int v1), .val (.int v2), .val (.long v3), .second, .val (.long v7), .second, .val (.int (4 : Int32)), .val (.int v13), .val (.ref b14), .unset] [(.int (4 : Int32)), (.ref b14)]))
    refine OutW.back (fun t k => XS.iconst X133.here hx rfl (hb hby at_202) k) ?_
    show OutW _ _ _ _ _ _ _ (T133.setTop (mkF m 203 #[.val (.long q1), .second, .val (.int p2), .val (.int p3), .val (.int p4), .val (.int p5), .val (.int v1), .val (.int v2), .val (.long v3), .second, .val (.long v7), .second, .val (.int (4 : Int32)), .val (.int v13), .val (.ref b14), .unset] [(.int (1 : Int32)), (.int (4 : Int32)), (.ref b14)]))
    refine OutW.back (fun t k => XS.iadd X133.here hx rfl (hb hby at_203) rfl k) ?_
    show OutW _ _ _ _ _ _ _ (T133.setTop (mkF m 204 #[.val (.long q1), .second, .val (.int p2), .val (.int p3), .val (.int p4), .val (.int p5), .val (.int v1), .val (.int v2), .val (.long v3), .second, .val (.long v7), .second, .val (.int (4 : Int32)), .val (.int v13), .val (.ref b14), .unset] [(.int ((4 : Int32) + (1 : Int32))), (.ref b14)]))
    rw [show ((4 : Int32) + (1 : Int32)) = (5 : Int32) from by decide]
    refine OutW.back (fun t k => XS.lload X133.here hx rfl (hb hby at_204) rfl  k) ?_
    show OutW _ _ _ _ _ _ _ (T133.setTop (mkF m 206 #[.val (.long q1), .second, .val (.int p2), .val (.int p3), .val (.int p4), .val (.int p5), .val (.int v1), .val (.int v2), .val (.long v3), .second, .val (.long v7), .second, .val (.int (4 : Int32)), .val (.int v13), .val (.ref b14), .unset] [(.long v7), (.int (5 : Int32)), (.ref b14)]))
    refine OutW.back (fun t k => XS.bipush X133.here hx rfl (hb hby at_206) k) ?_
    show OutW _ _ _ _ _ _ _ (T133.setTop (mkF m 208 #[.val (.long q1), .second, .val (.int p2), .val (.int p3), .val (.int p4), .val (.int p5), .val (.int v1), .val (.int v2), .val (.long v3), .second, .val (.long v7), .second, .val (.int (4 : Int32)), .val (.int v13), .val (.ref b14), .unset] [(.int (8 : Int32)), (.long v7), (.int (5 : Int32)), (.ref b14)]))
    refine OutW.back (fun t k => XS.lushr X133.here hx rfl (hb hby at_208) rfl k) ?_
    show OutW _ _ _ _ _ _ _ (T133.setTop (mkF m 209 #[.val (.long q1), .second, .val (.int p2), .val (.int p3), .val (.int p4), .val (.int p5), .val (.int v1), .val (.int v2), .val (.long v3), .second, .val (.long v7), .second, .val (.int (4 : Int32)), .val (.int v13), .val (.ref b14), .unset] [(.long ((v7.toUInt64 >>> ((8 : Int32) &&& 0x3f).toInt64.toUInt64).toInt64)), (.int (5 : Int32)), (.ref b14)]))
    refine OutW.back (fun t k => XS.l2i X133.here hx rfl (hb hby at_209) rfl k) ?_
    show OutW _ _ _ _ _ _ _ (T133.setTop (mkF m 210 #[.val (.long q1), .second, .val (.int p2), .val (.int p3), .val (.int p4), .val (.int p5), .val (.int v1), .val (.int v2), .val (.long v3), .second, .val (.long v7), .second, .val (.int (4 : Int32)), .val (.int v13), .val (.ref b14), .unset] [(.int ((v7.toUInt64 >>> ((8 : Int32) &&& 0x3f).toInt64.toUInt64).toInt64).toInt32), (.int (5 : Int32)), (.ref b14)]))
    refine OutW.back (fun t k => XS.i2b X133.here hx rfl (hb hby at_210) rfl k) ?_
    show OutW _ _ _ _ _ _ _ (T133.setTop (mkF m 211 #[.val (.long q1), .second, .val (.int p2), .val (.int p3), .val (.int p4), .val (.int p5), .val (.int v1), .val (.int v2), .val (.long v3), .second, .val (.long v7), .second, .val (.int (4 : Int32)), .val (.int v13), .val (.ref b14), .unset] [(.int ((v7.toUInt64 >>> ((8 : Int32) &&& 0x3f).toInt64.toUInt64).toInt64).toInt32.toInt8.toInt32), (.int (5 : Int32)), (.ref b14)]))
    generalize hv_v134 : ((v7.toUInt64 >>> ((8 : Int32) &&& 0x3f).toInt64.toUInt64).toInt64).toInt32.toInt8.toInt32 = v134
    obtain ⟨cl135, Ar135, Qk135, Sz135, Nn135, Hh135, Gg135⟩ := id V_b14_133
    have hin135 : ¬ ((5 : Int32) < 0 ∨ cl135.slots.size ≤ ((5 : Int32)).toNatClampNeg) := inb_of Sz135 ⟨by decide, by decide⟩
    obtain ⟨T135, h135, X135, e135, W135, st135⟩ := stB X133 hx hZ e133 Ar135 (j := (5 : Int32)) hin135 (g := (mkF m 211 #[.val (.long q1), .second, .val (.int p2), .val (.int p3), .val (.int p4), .val (.int p5), .val (.int v1), .val (.int v2), .val (.long v3), .second, .val (.long v7), .second, .val (.int (4 : Int32)), .val (.int v13), .val (.ref b14), .unset] [(.int v134), (.int (5 : Int32)), (.ref b14)])) rfl rfl (hb hby at_211)
    have V_b14_135 : Arv Z h135 b14 k14 .byte (16 : Int32) [(.int (nar .byte v13)), (.int (nar .byte v13)), (.int (nar .byte v13)), (.int (nar .byte v13)), (.int (nar .byte v132)), (.int (nar .byte v134)), (.int (nar .byte v13)), (.int (nar .byte v13)), (.int (nar .byte v13)), (.int (nar .byte v13)), (.int (nar .byte v13)), (.int (nar .byte v13)), (.int (nar .byte v13)), (.int (nar .byte v13)), (.int (nar .byte v13)), (.int (nar .byte v13))] (.int (0 : Int32)) := Arv.set Ar135 Qk135 Sz135 Nn135 Hh135 Gg135 (fits_nar_byte _) W135 5 rfl (Nat.le_of_ble_eq_true rfl)
    have N135 := Fr.snoc X135 N133 g_b14
    have Z135 : n0 ≤ h135.size := Nat.le_trans Z133 (Keep.of_wr W135).1
    have K135 := K133.wr W135 (Or.inr sz_b14)
    obtain ⟨lc135, X135, N135⟩ : ∃ lc, Stand p l e room_1 s m #[(.long q1), (.int p2), (.int p3), (.int p4), (.int p5)] below meth c T135 lc 1 16 ∧ Fr n0 lc := ⟨_, X135, N135⟩
    refine OutW.back st135 ?_
    show OutW _ _ _ _ _ _ _ (T135.setTop (mkF m 212 #[.val (.long q1), .second, .val (.int p2), .val (.int p3), .val (.int p4), .val (.int p5), .val (.int v1), .val (.int v2), .val (.long v3), .second, .val (.long v7), .second, .val (.int (4 : Int32)), .val (.int v13), .val (.ref b14), .unset] []))
    refine OutW.back (fun t k => XS.aload X135.here hx rfl (hb hby at_212) rfl rfl  k) ?_
    show OutW _ _ _ _ _ _ _ (T135.setTop (mkF m 214 #[.val (.long q1), .second, .val (.int p2), .val (.int p3), .val (.int p4), .val (.int p5), .val (.int v1), .val (.int v2), .val (.long v3), .second, .val (.long v7), .second, .val (.int (4 : Int32)), .val (.int v13), .val (.ref b14), .unset] [(.ref b14)]))
    refine OutW.back (fun t k => XS.iload X135.here hx rfl (hb hby at_214) rfl  k) ?_
    show OutW _ _ _ _ _ _ _ (T135.setTop (mkF m 216 #[.val (.long q1), .second, .val (.int p2), .val (.int p3), .val (.int p4), .val (.int p5), .val (.int v1), .val (.int v2), .val (.long v3), .second, .val (.long v7), .second, .val (.int (4 : Int32)), .val (.int v13), .val (.ref b14), .unset] [(.int (4 : Int32)), (.ref b14)]))
    refine OutW.back (fun t k => XS.iconst X135.here hx rfl (hb hby at_216) k) ?_
    show OutW _ _ _ _ _ _ _ (T135.setTop (mkF m 217 #[.val (.long q1), .second, .val (.int p2), .val (.int p3), .val (.int p4), .val (.int p5), .val (.int v1), .val (.int v2), .val (.long v3), .second, .val (.long v7), .second, .val (.int (4 : Int32)), .val (.int v13), .val (.ref b14), .unset] [(.int (2 : Int32)), (.int (4 : Int32)), (.ref b14)]))
    refine OutW.back (fun t k => XS.iadd X135.here hx rfl (hb hby at_217) rfl k) ?_
    show OutW _ _ _ _ _ _ _ (T135.setTop (mkF m 218 #[.val (.long q1), .second, .val (.int p2), .val (.int p3), .val (.int p4), .val (.int p5), .val (.int v1), .val (.int v2), .val (.long v3), .second, .val (.long v7), .second, .val (.int (4 : Int32)), .val (.int v13), .val (.ref b14), .unset] [(.int ((4 : Int32) + (2 : Int32))), (.ref b14)]))
    rw [show ((4 : Int32) + (2 : Int32)) = (6 : Int32) from by decide]
    refine OutW.back (fun t k => XS.lload X135.here hx rfl (hb hby at_218) rfl  k) ?_
    show OutW _ _ _ _ _ _ _ (T135.setTop (mkF m 220 #[.val (.long q1), .second, .val (.int p2), .val (.int p3), .val (.int p4), .val (.int p5), .val (.int v1), .val (.int v2), .val (.long v3), .second, .val (.long v7), .second, .val (.int (4 : Int32)), .val (.int v13), .val (.ref b14), .unset] [(.long v7), (.int (6 : Int32)), (.ref b14)]))
    refine OutW.back (fun t k => XS.bipush X135.here hx rfl (hb hby at_220) k) ?_
    show OutW _ _ _ _ _ _ _ (T135.setTop (mkF m 222 #[.val (.long q1), .second, .val (.int p2), .val (.int p3), .val (.int p4), .val (.int p5), .val (.int v1), .val (.int v2), .val (.long v3), .second, .val (.long v7), .second, .val (.int (4 : Int32)), .val (.int v13), .val (.ref b14), .unset] [(.int (16 : Int32)), (.long v7), (.int (6 : Int32)), (.ref b14)]))
    refine OutW.back (fun t k => XS.lushr X135.here hx rfl (hb hby at_222) rfl k) ?_
    show OutW _ _ _ _ _ _ _ (T135.setTop (mkF m 223 #[.val (.long q1), .second, .val (.int p2), .val (.int p3), .val (.int p4), .val (.int p5), .val (.int v1), .val (.int v2), .val (.long v3), .second, .val (.long v7), .second, .val (.int (4 : Int32)), .val (.int v13), .val (.ref b14), .unset] [(.long ((v7.toUInt64 >>> ((16 : Int32) &&& 0x3f).toInt64.toUInt64).toInt64)), (.int (6 : Int32)), (.ref b14)]))
    refine OutW.back (fun t k => XS.l2i X135.here hx rfl (hb hby at_223) rfl k) ?_
    show OutW _ _ _ _ _ _ _ (T135.setTop (mkF m 224 #[.val (.long q1), .second, .val (.int p2), .val (.int p3), .val (.int p4), .val (.int p5), .val (.int v1), .val (.int v2), .val (.long v3), .second, .val (.long v7), .second, .val (.int (4 : Int32)), .val (.int v13), .val (.ref b14), .unset] [(.int ((v7.toUInt64 >>> ((16 : Int32) &&& 0x3f).toInt64.toUInt64).toInt64).toInt32), (.int (6 : Int32)), (.ref b14)]))
    refine OutW.back (fun t k => XS.i2b X135.here hx rfl (hb hby at_224) rfl k) ?_
    show OutW _ _ _ _ _ _ _ (T135.setTop (mkF m 225 #[.val (.long q1), .second, .val (.int p2), .val (.int p3), .val (.int p4), .val (.int p5), .val (.int v1), .val (.int v2), .val (.long v3), .second, .val (.long v7), .second, .val (.int (4 : Int32)), .val (.int v13), .val (.ref b14), .unset] [(.int ((v7.toUInt64 >>> ((16 : Int32) &&& 0x3f).toInt64.toUInt64).toInt64).toInt32.toInt8.toInt32), (.int (6 : Int32)), (.ref b14)]))
    generalize hv_v136 : ((v7.toUInt64 >>> ((16 : Int32) &&& 0x3f).toInt64.toUInt64).toInt64).toInt32.toInt8.toInt32 = v136
    obtain ⟨cl137, Ar137, Qk137, Sz137, Nn137, Hh137, Gg137⟩ := id V_b14_135
    have hin137 : ¬ ((6 : Int32) < 0 ∨ cl137.slots.size ≤ ((6 : Int32)).toNatClampNeg) := inb_of Sz137 ⟨by decide, by decide⟩
    obtain ⟨T137, h137, X137, e137, W137, st137⟩ := stB X135 hx hZ e135 Ar137 (j := (6 : Int32)) hin137 (g := (mkF m 225 #[.val (.long q1), .second, .val (.int p2), .val (.int p3), .val (.int p4), .val (.int p5), .val (.int v1), .val (.int v2), .val (.long v3), .second, .val (.long v7), .second, .val (.int (4 : Int32)), .val (.int v13), .val (.ref b14), .unset] [(.int v136), (.int (6 : Int32)), (.ref b14)])) rfl rfl (hb hby at_225)
    have V_b14_137 : Arv Z h137 b14 k14 .byte (16 : Int32) [(.int (nar .byte v13)), (.int (nar .byte v13)), (.int (nar .byte v13)), (.int (nar .byte v13)), (.int (nar .byte v132)), (.int (nar .byte v134)), (.int (nar .byte v136)), (.int (nar .byte v13)), (.int (nar .byte v13)), (.int (nar .byte v13)), (.int (nar .byte v13)), (.int (nar .byte v13)), (.int (nar .byte v13)), (.int (nar .byte v13)), (.int (nar .byte v13)), (.int (nar .byte v13))] (.int (0 : Int32)) := Arv.set Ar137 Qk137 Sz137 Nn137 Hh137 Gg137 (fits_nar_byte _) W137 6 rfl (Nat.le_of_ble_eq_true rfl)
    have N137 := Fr.snoc X137 N135 g_b14
    have Z137 : n0 ≤ h137.size := Nat.le_trans Z135 (Keep.of_wr W137).1
    have K137 := K135.wr W137 (Or.inr sz_b14)
    obtain ⟨lc137, X137, N137⟩ : ∃ lc, Stand p l e room_1 s m #[(.long q1), (.int p2), (.int p3), (.int p4), (.int p5)] below meth c T137 lc 1 16 ∧ Fr n0 lc := ⟨_, X137, N137⟩
    refine OutW.back st137 ?_
    show OutW _ _ _ _ _ _ _ (T137.setTop (mkF m 226 #[.val (.long q1), .second, .val (.int p2), .val (.int p3), .val (.int p4), .val (.int p5), .val (.int v1), .val (.int v2), .val (.long v3), .second, .val (.long v7), .second, .val (.int (4 : Int32)), .val (.int v13), .val (.ref b14), .unset] []))
    refine OutW.back (fun t k => XS.aload X137.here hx rfl (hb hby at_226) rfl rfl  k) ?_
    show OutW _ _ _ _ _ _ _ (T137.setTop (mkF m 228 #[.val (.long q1), .second, .val (.int p2), .val (.int p3), .val (.int p4), .val (.int p5), .val (.int v1), .val (.int v2), .val (.long v3), .second, .val (.long v7), .second, .val (.int (4 : Int32)), .val (.int v13), .val (.ref b14), .unset] [(.ref b14)]))
    refine OutW.back (fun t k => XS.iload X137.here hx rfl (hb hby at_228) rfl  k) ?_
    show OutW _ _ _ _ _ _ _ (T137.setTop (mkF m 230 #[.val (.long q1), .second, .val (.int p2), .val (.int p3), .val (.int p4), .val (.int p5), .val (.int v1), .val (.int v2), .val (.long v3), .second, .val (.long v7), .second, .val (.int (4 : Int32)), .val (.int v13), .val (.ref b14), .unset] [(.int (4 : Int32)), (.ref b14)]))
    refine OutW.back (fun t k => XS.iconst X137.here hx rfl (hb hby at_230) k) ?_
    show OutW _ _ _ _ _ _ _ (T137.setTop (mkF m 231 #[.val (.long q1), .second, .val (.int p2), .val (.int p3), .val (.int p4), .val (.int p5), .val (.int v1), .val (.int v2), .val (.long v3), .second, .val (.long v7), .second, .val (.int (4 : Int32)), .val (.int v13), .val (.ref b14), .unset] [(.int (3 : Int32)), (.int (4 : Int32)), (.ref b14)]))
    refine OutW.back (fun t k => XS.iadd X137.here hx rfl (hb hby at_231) rfl k) ?_
    show OutW _ _ _ _ _ _ _ (T137.setTop (mkF m 232 #[.val (.long q1), .second, .val (.int p2), .val (.int p3), .val (.int p4), .val (.int p5), .val (.int v1), .val (.int v2), .val (.long v3), .second, .val (.long v7), .second, .val (.int (4 : Int32)), .val (.int v13), .val (.ref b14), .unset] [(.int ((4 : Int32) + (3 : Int32))), (.ref b14)]))
    rw [show ((4 : Int32) + (3 : Int32)) = (7 : Int32) from by decide]
    refine OutW.back (fun t k => XS.lload X137.here hx rfl (hb hby at_232) rfl  k) ?_
    show OutW _ _ _ _ _ _ _ (T137.setTop (mkF m 234 #[.val (.long q1), .second, .val (.int p2), .val (.int p3), .val (.int p4), .val (.int p5), .val (.int v1), .val (.int v2), .val (.long v3), .second, .val (.long v7), .second, .val (.int (4 : Int32)), .val (.int v13), .val (.ref b14), .unset] [(.long v7), (.int (7 : Int32)), (.ref b14)]))
    refine OutW.back (fun t k => XS.bipush X137.here hx rfl (hb hby at_234) k) ?_
    show OutW _ _ _ _ _ _ _ (T137.setTop (mkF m 236 #[.val (.long q1), .second, .val (.int p2), .val (.int p3), .val (.int p4), .val (.int p5), .val (.int v1), .val (.int v2), .val (.long v3), .second, .val (.long v7), .second, .val (.int (4 : Int32)), .val (.int v13), .val (.ref b14), .unset] [(.int (24 : Int32)), (.long v7), (.int (7 : Int32)), (.ref b14)]))
    refine OutW.back (fun t k => XS.lushr X137.here hx rfl (hb hby at_236) rfl k) ?_
    show OutW _ _ _ _ _ _ _ (T137.setTop (mkF m 237 #[.val (.long q1), .second, .val (.int p2), .val (.int p3), .val (.int p4), .val (.int p5), .val (.int v1), .val (.int v2), .val (.long v3), .second, .val (.long v7), .second, .val (.int (4 : Int32)), .val (.int v13), .val (.ref b14), .unset] [(.long ((v7.toUInt64 >>> ((24 : Int32) &&& 0x3f).toInt64.toUInt64).toInt64)), (.int (7 : Int32)), (.ref b14)]))
    refine OutW.back (fun t k => XS.l2i X137.here hx rfl (hb hby at_237) rfl k) ?_
    show OutW _ _ _ _ _ _ _ (T137.setTop (mkF m 238 #[.val (.long q1), .second, .val (.int p2), .val (.int p3), .val (.int p4), .val (.int p5), .val (.int v1), .val (.int v2), .val (.long v3), .second, .val (.long v7), .second, .val (.int (4 : Int32)), .val (.int v13), .val (.ref b14), .unset] [(.int ((v7.toUInt64 >>> ((24 : Int32) &&& 0x3f).toInt64.toUInt64).toInt64).toInt32), (.int (7 : Int32)), (.ref b14)]))
    refine OutW.back (fun t k => XS.i2b X137.here hx rfl (hb hby at_238) rfl k) ?_
    show OutW _ _ _ _ _ _ _ (T137.setTop (mkF m 239 #[.val (.long q1), .second, .val (.int p2), .val (.int p3), .val (.int p4), .val (.int p5), .val (.int v1), .val (.int v2), .val (.long v3), .second, .val (.long v7), .second, .val (.int (4 : Int32)), .val (.int v13), .val (.ref b14), .unset] [(.int ((v7.toUInt64 >>> ((24 : Int32) &&& 0x3f).toInt64.toUInt64).toInt64).toInt32.toInt8.toInt32), (.int (7 : Int32)), (.ref b14)]))
    generalize hv_v138 : ((v7.toUInt64 >>> ((24 : Int32) &&& 0x3f).toInt64.toUInt64).toInt64).toInt32.toInt8.toInt32 = v138
    obtain ⟨cl139, Ar139, Qk139, Sz139, Nn139, Hh139, Gg139⟩ := id V_b14_137
    have hin139 : ¬ ((7 : Int32) < 0 ∨ cl139.slots.size ≤ ((7 : Int32)).toNatClampNeg) := inb_of Sz139 ⟨by decide, by decide⟩
    obtain ⟨T139, h139, X139, e139, W139, st139⟩ := stB X137 hx hZ e137 Ar139 (j := (7 : Int32)) hin139 (g := (mkF m 239 #[.val (.long q1), .second, .val (.int p2), .val (.int p3), .val (.int p4), .val (.int p5), .val (.int v1), .val (.int v2), .val (.long v3), .second, .val (.long v7), .second, .val (.int (4 : Int32)), .val (.int v13), .val (.ref b14), .unset] [(.int v138), (.int (7 : Int32)), (.ref b14)])) rfl rfl (hb hby at_239)
    have V_b14_139 : Arv Z h139 b14 k14 .byte (16 : Int32) [(.int (nar .byte v13)), (.int (nar .byte v13)), (.int (nar .byte v13)), (.int (nar .byte v13)), (.int (nar .byte v132)), (.int (nar .byte v134)), (.int (nar .byte v136)), (.int (nar .byte v138)), (.int (nar .byte v13)), (.int (nar .byte v13)), (.int (nar .byte v13)), (.int (nar .byte v13)), (.int (nar .byte v13)), (.int (nar .byte v13)), (.int (nar .byte v13)), (.int (nar .byte v13))] (.int (0 : Int32)) := Arv.set Ar139 Qk139 Sz139 Nn139 Hh139 Gg139 (fits_nar_byte _) W139 7 rfl (Nat.le_of_ble_eq_true rfl)
    have N139 := Fr.snoc X139 N137 g_b14
    have Z139 : n0 ≤ h139.size := Nat.le_trans Z137 (Keep.of_wr W139).1
    have K139 := K137.wr W139 (Or.inr sz_b14)
    obtain ⟨lc139, X139, N139⟩ : ∃ lc, Stand p l e room_1 s m #[(.long q1), (.int p2), (.int p3), (.int p4), (.int p5)] below meth c T139 lc 1 16 ∧ Fr n0 lc := ⟨_, X139, N139⟩
    refine OutW.back st139 ?_
    show OutW _ _ _ _ _ _ _ (T139.setTop (mkF m 240 #[.val (.long q1), .second, .val (.int p2), .val (.int p3), .val (.int p4), .val (.int p5), .val (.int v1), .val (.int v2), .val (.long v3), .second, .val (.long v7), .second, .val (.int (4 : Int32)), .val (.int v13), .val (.ref b14), .unset] []))
    refine OutW.back (fun t k => XS.aload X139.here hx rfl (hb hby at_240) rfl rfl  k) ?_
    show OutW _ _ _ _ _ _ _ (T139.setTop (mkF m 242 #[.val (.long q1), .second, .val (.int p2), .val (.int p3), .val (.int p4), .val (.int p5), .val (.int v1), .val (.int v2), .val (.long v3), .second, .val (.long v7), .second, .val (.int (4 : Int32)), .val (.int v13), .val (.ref b14), .unset] [(.ref b14)]))
    refine OutW.back (fun t k => XS.iload X139.here hx rfl (hb hby at_242) rfl  k) ?_
    show OutW _ _ _ _ _ _ _ (T139.setTop (mkF m 244 #[.val (.long q1), .second, .val (.int p2), .val (.int p3), .val (.int p4), .val (.int p5), .val (.int v1), .val (.int v2), .val (.long v3), .second, .val (.long v7), .second, .val (.int (4 : Int32)), .val (.int v13), .val (.ref b14), .unset] [(.int (4 : Int32)), (.ref b14)]))
    refine OutW.back (fun t k => XS.iconst X139.here hx rfl (hb hby at_244) k) ?_
    show OutW _ _ _ _ _ _ _ (T139.setTop (mkF m 245 #[.val (.long q1), .second, .val (.int p2), .val (.int p3), .val (.int p4), .val (.int p5), .val (.int v1), .val (.int v2), .val (.long v3), .second, .val (.long v7), .second, .val (.int (4 : Int32)), .val (.int v13), .val (.ref b14), .unset] [(.int (4 : Int32)), (.int (4 : Int32)), (.ref b14)]))
    refine OutW.back (fun t k => XS.iadd X139.here hx rfl (hb hby at_245) rfl k) ?_
    show OutW _ _ _ _ _ _ _ (T139.setTop (mkF m 246 #[.val (.long q1), .second, .val (.int p2), .val (.int p3), .val (.int p4), .val (.int p5), .val (.int v1), .val (.int v2), .val (.long v3), .second, .val (.long v7), .second, .val (.int (4 : Int32)), .val (.int v13), .val (.ref b14), .unset] [(.int ((4 : Int32) + (4 : Int32))), (.ref b14)]))
    rw [show ((4 : Int32) + (4 : Int32)) = (8 : Int32) from by decide]
    refine OutW.back (fun t k => XS.lload X139.here hx rfl (hb hby at_246) rfl  k) ?_
    show OutW _ _ _ _ _ _ _ (T139.setTop (mkF m 248 #[.val (.long q1), .second, .val (.int p2), .val (.int p3), .val (.int p4), .val (.int p5), .val (.int v1), .val (.int v2), .val (.long v3), .second, .val (.long v7), .second, .val (.int (4 : Int32)), .val (.int v13), .val (.ref b14), .unset] [(.long v7), (.int (8 : Int32)), (.ref b14)]))
    refine OutW.back (fun t k => XS.bipush X139.here hx rfl (hb hby at_248) k) ?_
    show OutW _ _ _ _ _ _ _ (T139.setTop (mkF m 250 #[.val (.long q1), .second, .val (.int p2), .val (.int p3), .val (.int p4), .val (.int p5), .val (.int v1), .val (.int v2), .val (.long v3), .second, .val (.long v7), .second, .val (.int (4 : Int32)), .val (.int v13), .val (.ref b14), .unset] [(.int (32 : Int32)), (.long v7), (.int (8 : Int32)), (.ref b14)]))
    refine OutW.back (fun t k => XS.lushr X139.here hx rfl (hb hby at_250) rfl k) ?_
    show OutW _ _ _ _ _ _ _ (T139.setTop (mkF m 251 #[.val (.long q1), .second, .val (.int p2), .val (.int p3), .val (.int p4), .val (.int p5), .val (.int v1), .val (.int v2), .val (.long v3), .second, .val (.long v7), .second, .val (.int (4 : Int32)), .val (.int v13), .val (.ref b14), .unset] [(.long ((v7.toUInt64 >>> ((32 : Int32) &&& 0x3f).toInt64.toUInt64).toInt64)), (.int (8 : Int32)), (.ref b14)]))
    refine OutW.back (fun t k => XS.l2i X139.here hx rfl (hb hby at_251) rfl k) ?_
    show OutW _ _ _ _ _ _ _ (T139.setTop (mkF m 252 #[.val (.long q1), .second, .val (.int p2), .val (.int p3), .val (.int p4), .val (.int p5), .val (.int v1), .val (.int v2), .val (.long v3), .second, .val (.long v7), .second, .val (.int (4 : Int32)), .val (.int v13), .val (.ref b14), .unset] [(.int ((v7.toUInt64 >>> ((32 : Int32) &&& 0x3f).toInt64.toUInt64).toInt64).toInt32), (.int (8 : Int32)), (.ref b14)]))
    refine OutW.back (fun t k => XS.i2b X139.here hx rfl (hb hby at_252) rfl k) ?_
    show OutW _ _ _ _ _ _ _ (T139.setTop (mkF m 253 #[.val (.long q1), .second, .val (.int p2), .val (.int p3), .val (.int p4), .val (.int p5), .val (.int v1), .val (.int v2), .val (.long v3), .second, .val (.long v7), .second, .val (.int (4 : Int32)), .val (.int v13), .val (.ref b14), .unset] [(.int ((v7.toUInt64 >>> ((32 : Int32) &&& 0x3f).toInt64.toUInt64).toInt64).toInt32.toInt8.toInt32), (.int (8 : Int32)), (.ref b14)]))
    generalize hv_v140 : ((v7.toUInt64 >>> ((32 : Int32) &&& 0x3f).toInt64.toUInt64).toInt64).toInt32.toInt8.toInt32 = v140
    obtain ⟨cl141, Ar141, Qk141, Sz141, Nn141, Hh141, Gg141⟩ := id V_b14_139
    have hin141 : ¬ ((8 : Int32) < 0 ∨ cl141.slots.size ≤ ((8 : Int32)).toNatClampNeg) := inb_of Sz141 ⟨by decide, by decide⟩
    obtain ⟨T141, h141, X141, e141, W141, st141⟩ := stB X139 hx hZ e139 Ar141 (j := (8 : Int32)) hin141 (g := (mkF m 253 #[.val (.long q1), .second, .val (.int p2), .val (.int p3), .val (.int p4), .val (.int p5), .val (.int v1), .val (.int v2), .val (.long v3), .second, .val (.long v7), .second, .val (.int (4 : Int32)), .val (.int v13), .val (.ref b14), .unset] [(.int v140), (.int (8 : Int32)), (.ref b14)])) rfl rfl (hb hby at_253)
    have V_b14_141 : Arv Z h141 b14 k14 .byte (16 : Int32) [(.int (nar .byte v13)), (.int (nar .byte v13)), (.int (nar .byte v13)), (.int (nar .byte v13)), (.int (nar .byte v132)), (.int (nar .byte v134)), (.int (nar .byte v136)), (.int (nar .byte v138)), (.int (nar .byte v140)), (.int (nar .byte v13)), (.int (nar .byte v13)), (.int (nar .byte v13)), (.int (nar .byte v13)), (.int (nar .byte v13)), (.int (nar .byte v13)), (.int (nar .byte v13))] (.int (0 : Int32)) := Arv.set Ar141 Qk141 Sz141 Nn141 Hh141 Gg141 (fits_nar_byte _) W141 8 rfl (Nat.le_of_ble_eq_true rfl)
    have N141 := Fr.snoc X141 N139 g_b14
    have Z141 : n0 ≤ h141.size := Nat.le_trans Z139 (Keep.of_wr W141).1
    have K141 := K139.wr W141 (Or.inr sz_b14)
    obtain ⟨lc141, X141, N141⟩ : ∃ lc, Stand p l e room_1 s m #[(.long q1), (.int p2), (.int p3), (.int p4), (.int p5)] below meth c T141 lc 1 16 ∧ Fr n0 lc := ⟨_, X141, N141⟩
    refine OutW.back st141 ?_
    show OutW _ _ _ _ _ _ _ (T141.setTop (mkF m 254 #[.val (.long q1), .second, .val (.int p2), .val (.int p3), .val (.int p4), .val (.int p5), .val (.int v1), .val (.int v2), .val (.long v3), .second, .val (.long v7), .second, .val (.int (4 : Int32)), .val (.int v13), .val (.ref b14), .unset] []))
    refine OutW.back (fun t k => XS.aload X141.here hx rfl (hb hby at_254) rfl rfl  k) ?_
    show OutW _ _ _ _ _ _ _ (T141.setTop (mkF m 256 #[.val (.long q1), .second, .val (.int p2), .val (.int p3), .val (.int p4), .val (.int p5), .val (.int v1), .val (.int v2), .val (.long v3), .second, .val (.long v7), .second, .val (.int (4 : Int32)), .val (.int v13), .val (.ref b14), .unset] [(.ref b14)]))
    refine OutW.back (fun t k => XS.iload X141.here hx rfl (hb hby at_256) rfl  k) ?_
    show OutW _ _ _ _ _ _ _ (T141.setTop (mkF m 258 #[.val (.long q1), .second, .val (.int p2), .val (.int p3), .val (.int p4), .val (.int p5), .val (.int v1), .val (.int v2), .val (.long v3), .second, .val (.long v7), .second, .val (.int (4 : Int32)), .val (.int v13), .val (.ref b14), .unset] [(.int (4 : Int32)), (.ref b14)]))
    refine OutW.back (fun t k => XS.iconst X141.here hx rfl (hb hby at_258) k) ?_
    show OutW _ _ _ _ _ _ _ (T141.setTop (mkF m 259 #[.val (.long q1), .second, .val (.int p2), .val (.int p3), .val (.int p4), .val (.int p5), .val (.int v1), .val (.int v2), .val (.long v3), .second, .val (.long v7), .second, .val (.int (4 : Int32)), .val (.int v13), .val (.ref b14), .unset] [(.int (5 : Int32)), (.int (4 : Int32)), (.ref b14)]))
    refine OutW.back (fun t k => XS.iadd X141.here hx rfl (hb hby at_259) rfl k) ?_
    show OutW _ _ _ _ _ _ _ (T141.setTop (mkF m 260 #[.val (.long q1), .second, .val (.int p2), .val (.int p3), .val (.int p4), .val (.int p5), .val (.int v1), .val (.int v2), .val (.long v3), .second, .val (.long v7), .second, .val (.int (4 : Int32)), .val (.int v13), .val (.ref b14), .unset] [(.int ((4 : Int32) + (5 : Int32))), (.ref b14)]))
    rw [show ((4 : Int32) + (5 : Int32)) = (9 : Int32) from by decide]
    refine OutW.back (fun t k => XS.lload X141.here hx rfl (hb hby at_260) rfl  k) ?_
    show OutW _ _ _ _ _ _ _ (T141.setTop (mkF m 262 #[.val (.long q1), .second, .val (.int p2), .val (.int p3), .val (.int p4), .val (.int p5), .val (.int v1), .val (.int v2), .val (.long v3), .second, .val (.long v7), .second, .val (.int (4 : Int32)), .val (.int v13), .val (.ref b14), .unset] [(.long v7), (.int (9 : Int32)), (.ref b14)]))
    refine OutW.back (fun t k => XS.bipush X141.here hx rfl (hb hby at_262) k) ?_
    show OutW _ _ _ _ _ _ _ (T141.setTop (mkF m 264 #[.val (.long q1), .second, .val (.int p2), .val (.int p3), .val (.int p4), .val (.int p5), .val (.int v1), .val (.int v2), .val (.long v3), .second, .val (.long v7), .second, .val (.int (4 : Int32)), .val (.int v13), .val (.ref b14), .unset] [(.int (40 : Int32)), (.long v7), (.int (9 : Int32)), (.ref b14)]))
    refine OutW.back (fun t k => XS.lushr X141.here hx rfl (hb hby at_264) rfl k) ?_
    show OutW _ _ _ _ _ _ _ (T141.setTop (mkF m 265 #[.val (.long q1), .second, .val (.int p2), .val (.int p3), .val (.int p4), .val (.int p5), .val (.int v1), .val (.int v2), .val (.long v3), .second, .val (.long v7), .second, .val (.int (4 : Int32)), .val (.int v13), .val (.ref b14), .unset] [(.long ((v7.toUInt64 >>> ((40 : Int32) &&& 0x3f).toInt64.toUInt64).toInt64)), (.int (9 : Int32)), (.ref b14)]))
    refine OutW.back (fun t k => XS.l2i X141.here hx rfl (hb hby at_265) rfl k) ?_
    show OutW _ _ _ _ _ _ _ (T141.setTop (mkF m 266 #[.val (.long q1), .second, .val (.int p2), .val (.int p3), .val (.int p4), .val (.int p5), .val (.int v1), .val (.int v2), .val (.long v3), .second, .val (.long v7), .second, .val (.int (4 : Int32)), .val (.int v13), .val (.ref b14), .unset] [(.int ((v7.toUInt64 >>> ((40 : Int32) &&& 0x3f).toInt64.toUInt64).toInt64).toInt32), (.int (9 : Int32)), (.ref b14)]))
    refine OutW.back (fun t k => XS.i2b X141.here hx rfl (hb hby at_266) rfl k) ?_
    show OutW _ _ _ _ _ _ _ (T141.setTop (mkF m 267 #[.val (.long q1), .second, .val (.int p2), .val (.int p3), .val (.int p4), .val (.int p5), .val (.int v1), .val (.int v2), .val (.long v3), .second, .val (.long v7), .second, .val (.int (4 : Int32)), .val (.int v13), .val (.ref b14), .unset] [(.int ((v7.toUInt64 >>> ((40 : Int32) &&& 0x3f).toInt64.toUInt64).toInt64).toInt32.toInt8.toInt32), (.int (9 : Int32)), (.ref b14)]))
    generalize hv_v142 : ((v7.toUInt64 >>> ((40 : Int32) &&& 0x3f).toInt64.toUInt64).toInt64).toInt32.toInt8.toInt32 = v142
    obtain ⟨cl143, Ar143, Qk143, Sz143, Nn143, Hh143, Gg143⟩ := id V_b14_141
    have hin143 : ¬ ((9 : Int32) < 0 ∨ cl143.slots.size ≤ ((9 : Int32)).toNatClampNeg) := inb_of Sz143 ⟨by decide, by decide⟩
    obtain ⟨T143, h143, X143, e143, W143, st143⟩ := stB X141 hx hZ e141 Ar143 (j := (9 : Int32)) hin143 (g := (mkF m 267 #[.val (.long q1), .second, .val (.int p2), .val (.int p3), .val (.int p4), .val (.int p5), .val (.int v1), .val (.int v2), .val (.long v3), .second, .val (.long v7), .second, .val (.int (4 : Int32)), .val (.int v13), .val (.ref b14), .unset] [(.int v142), (.int (9 : Int32)), (.ref b14)])) rfl rfl (hb hby at_267)
    have V_b14_143 : Arv Z h143 b14 k14 .byte (16 : Int32) [(.int (nar .byte v13)), (.int (nar .byte v13)), (.int (nar .byte v13)), (.int (nar .byte v13)), (.int (nar .byte v132)), (.int (nar .byte v134)), (.int (nar .byte v136)), (.int (nar .byte v138)), (.int (nar .byte v140)), (.int (nar .byte v142)), (.int (nar .byte v13)), (.int (nar .byte v13)), (.int (nar .byte v13)), (.int (nar .byte v13)), (.int (nar .byte v13)), (.int (nar .byte v13))] (.int (0 : Int32)) := Arv.set Ar143 Qk143 Sz143 Nn143 Hh143 Gg143 (fits_nar_byte _) W143 9 rfl (Nat.le_of_ble_eq_true rfl)
    have N143 := Fr.snoc X143 N141 g_b14
    have Z143 : n0 ≤ h143.size := Nat.le_trans Z141 (Keep.of_wr W143).1
    have K143 := K141.wr W143 (Or.inr sz_b14)
    obtain ⟨lc143, X143, N143⟩ : ∃ lc, Stand p l e room_1 s m #[(.long q1), (.int p2), (.int p3), (.int p4), (.int p5)] below meth c T143 lc 1 16 ∧ Fr n0 lc := ⟨_, X143, N143⟩
    refine OutW.back st143 ?_
    show OutW _ _ _ _ _ _ _ (T143.setTop (mkF m 268 #[.val (.long q1), .second, .val (.int p2), .val (.int p3), .val (.int p4), .val (.int p5), .val (.int v1), .val (.int v2), .val (.long v3), .second, .val (.long v7), .second, .val (.int (4 : Int32)), .val (.int v13), .val (.ref b14), .unset] []))
    refine OutW.back (fun t k => XS.aload X143.here hx rfl (hb hby at_268) rfl rfl  k) ?_
    show OutW _ _ _ _ _ _ _ (T143.setTop (mkF m 270 #[.val (.long q1), .second, .val (.int p2), .val (.int p3), .val (.int p4), .val (.int p5), .val (.int v1), .val (.int v2), .val (.long v3), .second, .val (.long v7), .second, .val (.int (4 : Int32)), .val (.int v13), .val (.ref b14), .unset] [(.ref b14)]))
    refine OutW.back (fun t k => XS.iload X143.here hx rfl (hb hby at_270) rfl  k) ?_
    show OutW _ _ _ _ _ _ _ (T143.setTop (mkF m 272 #[.val (.long q1), .second, .val (.int p2), .val (.int p3), .val (.int p4), .val (.int p5), .val (.int v1), .val (.int v2), .val (.long v3), .second, .val (.long v7), .second, .val (.int (4 : Int32)), .val (.int v13), .val (.ref b14), .unset] [(.int (4 : Int32)), (.ref b14)]))
    refine OutW.back (fun t k => XS.bipush X143.here hx rfl (hb hby at_272) k) ?_
    show OutW _ _ _ _ _ _ _ (T143.setTop (mkF m 274 #[.val (.long q1), .second, .val (.int p2), .val (.int p3), .val (.int p4), .val (.int p5), .val (.int v1), .val (.int v2), .val (.long v3), .second, .val (.long v7), .second, .val (.int (4 : Int32)), .val (.int v13), .val (.ref b14), .unset] [(.int (6 : Int32)), (.int (4 : Int32)), (.ref b14)]))
    refine OutW.back (fun t k => XS.iadd X143.here hx rfl (hb hby at_274) rfl k) ?_
    show OutW _ _ _ _ _ _ _ (T143.setTop (mkF m 275 #[.val (.long q1), .second, .val (.int p2), .val (.int p3), .val (.int p4), .val (.int p5), .val (.int v1), .val (.int v2), .val (.long v3), .second, .val (.long v7), .second, .val (.int (4 : Int32)), .val (.int v13), .val (.ref b14), .unset] [(.int ((4 : Int32) + (6 : Int32))), (.ref b14)]))
    rw [show ((4 : Int32) + (6 : Int32)) = (10 : Int32) from by decide]
    refine OutW.back (fun t k => XS.lload X143.here hx rfl (hb hby at_275) rfl  k) ?_
    show OutW _ _ _ _ _ _ _ (T143.setTop (mkF m 277 #[.val (.long q1), .second, .val (.int p2), .val (.int p3), .val (.int p4), .val (.int p5), .val (.int v1), .val (.int v2), .val (.long v3), .second, .val (.long v7), .second, .val (.int (4 : Int32)), .val (.int v13), .val (.ref b14), .unset] [(.long v7), (.int (10 : Int32)), (.ref b14)]))
    refine OutW.back (fun t k => XS.bipush X143.here hx rfl (hb hby at_277) k) ?_
    show OutW _ _ _ _ _ _ _ (T143.setTop (mkF m 279 #[.val (.long q1), .second, .val (.int p2), .val (.int p3), .val (.int p4), .val (.int p5), .val (.int v1), .val (.int v2), .val (.long v3), .second, .val (.long v7), .second, .val (.int (4 : Int32)), .val (.int v13), .val (.ref b14), .unset] [(.int (48 : Int32)), (.long v7), (.int (10 : Int32)), (.ref b14)]))
    refine OutW.back (fun t k => XS.lushr X143.here hx rfl (hb hby at_279) rfl k) ?_
    show OutW _ _ _ _ _ _ _ (T143.setTop (mkF m 280 #[.val (.long q1), .second, .val (.int p2), .val (.int p3), .val (.int p4), .val (.int p5), .val (.int v1), .val (.int v2), .val (.long v3), .second, .val (.long v7), .second, .val (.int (4 : Int32)), .val (.int v13), .val (.ref b14), .unset] [(.long ((v7.toUInt64 >>> ((48 : Int32) &&& 0x3f).toInt64.toUInt64).toInt64)), (.int (10 : Int32)), (.ref b14)]))
    refine OutW.back (fun t k => XS.l2i X143.here hx rfl (hb hby at_280) rfl k) ?_
    show OutW _ _ _ _ _ _ _ (T143.setTop (mkF m 281 #[.val (.long q1), .second, .val (.int p2), .val (.int p3), .val (.int p4), .val (.int p5), .val (.int v1), .val (.int v2), .val (.long v3), .second, .val (.long v7), .second, .val (.int (4 : Int32)), .val (.int v13), .val (.ref b14), .unset] [(.int ((v7.toUInt64 >>> ((48 : Int32) &&& 0x3f).toInt64.toUInt64).toInt64).toInt32), (.int (10 : Int32)), (.ref b14)]))
    refine OutW.back (fun t k => XS.i2b X143.here hx rfl (hb hby at_281) rfl k) ?_
    show OutW _ _ _ _ _ _ _ (T143.setTop (mkF m 282 #[.val (.long q1), .second, .val (.int p2), .val (.int p3), .val (.int p4), .val (.int p5), .val (.int v1), .val (.int v2), .val (.long v3), .second, .val (.long v7), .second, .val (.int (4 : Int32)), .val (.int v13), .val (.ref b14), .unset] [(.int ((v7.toUInt64 >>> ((48 : Int32) &&& 0x3f).toInt64.toUInt64).toInt64).toInt32.toInt8.toInt32), (.int (10 : Int32)), (.ref b14)]))
    generalize hv_v144 : ((v7.toUInt64 >>> ((48 : Int32) &&& 0x3f).toInt64.toUInt64).toInt64).toInt32.toInt8.toInt32 = v144
    obtain ⟨cl145, Ar145, Qk145, Sz145, Nn145, Hh145, Gg145⟩ := id V_b14_143
    have hin145 : ¬ ((10 : Int32) < 0 ∨ cl145.slots.size ≤ ((10 : Int32)).toNatClampNeg) := inb_of Sz145 ⟨by decide, by decide⟩
    obtain ⟨T145, h145, X145, e145, W145, st145⟩ := stB X143 hx hZ e143 Ar145 (j := (10 : Int32)) hin145 (g := (mkF m 282 #[.val (.long q1), .second, .val (.int p2), .val (.int p3), .val (.int p4), .val (.int p5), .val (.int v1), .val (.int v2), .val (.long v3), .second, .val (.long v7), .second, .val (.int (4 : Int32)), .val (.int v13), .val (.ref b14), .unset] [(.int v144), (.int (10 : Int32)), (.ref b14)])) rfl rfl (hb hby at_282)
    have V_b14_145 : Arv Z h145 b14 k14 .byte (16 : Int32) [(.int (nar .byte v13)), (.int (nar .byte v13)), (.int (nar .byte v13)), (.int (nar .byte v13)), (.int (nar .byte v132)), (.int (nar .byte v134)), (.int (nar .byte v136)), (.int (nar .byte v138)), (.int (nar .byte v140)), (.int (nar .byte v142)), (.int (nar .byte v144)), (.int (nar .byte v13)), (.int (nar .byte v13)), (.int (nar .byte v13)), (.int (nar .byte v13)), (.int (nar .byte v13))] (.int (0 : Int32)) := Arv.set Ar145 Qk145 Sz145 Nn145 Hh145 Gg145 (fits_nar_byte _) W145 10 rfl (Nat.le_of_ble_eq_true rfl)
    have N145 := Fr.snoc X145 N143 g_b14
    have Z145 : n0 ≤ h145.size := Nat.le_trans Z143 (Keep.of_wr W145).1
    have K145 := K143.wr W145 (Or.inr sz_b14)
    obtain ⟨lc145, X145, N145⟩ : ∃ lc, Stand p l e room_1 s m #[(.long q1), (.int p2), (.int p3), (.int p4), (.int p5)] below meth c T145 lc 1 16 ∧ Fr n0 lc := ⟨_, X145, N145⟩
    refine OutW.back st145 ?_
    show OutW _ _ _ _ _ _ _ (T145.setTop (mkF m 283 #[.val (.long q1), .second, .val (.int p2), .val (.int p3), .val (.int p4), .val (.int p5), .val (.int v1), .val (.int v2), .val (.long v3), .second, .val (.long v7), .second, .val (.int (4 : Int32)), .val (.int v13), .val (.ref b14), .unset] []))
    refine OutW.back (fun t k => XS.aload X145.here hx rfl (hb hby at_283) rfl rfl  k) ?_
    show OutW _ _ _ _ _ _ _ (T145.setTop (mkF m 285 #[.val (.long q1), .second, .val (.int p2), .val (.int p3), .val (.int p4), .val (.int p5), .val (.int v1), .val (.int v2), .val (.long v3), .second, .val (.long v7), .second, .val (.int (4 : Int32)), .val (.int v13), .val (.ref b14), .unset] [(.ref b14)]))
    refine OutW.back (fun t k => XS.iload X145.here hx rfl (hb hby at_285) rfl  k) ?_
    show OutW _ _ _ _ _ _ _ (T145.setTop (mkF m 287 #[.val (.long q1), .second, .val (.int p2), .val (.int p3), .val (.int p4), .val (.int p5), .val (.int v1), .val (.int v2), .val (.long v3), .second, .val (.long v7), .second, .val (.int (4 : Int32)), .val (.int v13), .val (.ref b14), .unset] [(.int (4 : Int32)), (.ref b14)]))
    refine OutW.back (fun t k => XS.bipush X145.here hx rfl (hb hby at_287) k) ?_
    show OutW _ _ _ _ _ _ _ (T145.setTop (mkF m 289 #[.val (.long q1), .second, .val (.int p2), .val (.int p3), .val (.int p4), .val (.int p5), .val (.int v1), .val (.int v2), .val (.long v3), .second, .val (.long v7), .second, .val (.int (4 : Int32)), .val (.int v13), .val (.ref b14), .unset] [(.int (7 : Int32)), (.int (4 : Int32)), (.ref b14)]))
    refine OutW.back (fun t k => XS.iadd X145.here hx rfl (hb hby at_289) rfl k) ?_
    show OutW _ _ _ _ _ _ _ (T145.setTop (mkF m 290 #[.val (.long q1), .second, .val (.int p2), .val (.int p3), .val (.int p4), .val (.int p5), .val (.int v1), .val (.int v2), .val (.long v3), .second, .val (.long v7), .second, .val (.int (4 : Int32)), .val (.int v13), .val (.ref b14), .unset] [(.int ((4 : Int32) + (7 : Int32))), (.ref b14)]))
    rw [show ((4 : Int32) + (7 : Int32)) = (11 : Int32) from by decide]
    refine OutW.back (fun t k => XS.lload X145.here hx rfl (hb hby at_290) rfl  k) ?_
    show OutW _ _ _ _ _ _ _ (T145.setTop (mkF m 292 #[.val (.long q1), .second, .val (.int p2), .val (.int p3), .val (.int p4), .val (.int p5), .val (.int v1), .val (.int v2), .val (.long v3), .second, .val (.long v7), .second, .val (.int (4 : Int32)), .val (.int v13), .val (.ref b14), .unset] [(.long v7), (.int (11 : Int32)), (.ref b14)]))
    refine OutW.back (fun t k => XS.bipush X145.here hx rfl (hb hby at_292) k) ?_
    show OutW _ _ _ _ _ _ _ (T145.setTop (mkF m 294 #[.val (.long q1), .second, .val (.int p2), .val (.int p3), .val (.int p4), .val (.int p5), .val (.int v1), .val (.int v2), .val (.long v3), .second, .val (.long v7), .second, .val (.int (4 : Int32)), .val (.int v13), .val (.ref b14), .unset] [(.int (56 : Int32)), (.long v7), (.int (11 : Int32)), (.ref b14)]))
    refine OutW.back (fun t k => XS.lushr X145.here hx rfl (hb hby at_294) rfl k) ?_
    show OutW _ _ _ _ _ _ _ (T145.setTop (mkF m 295 #[.val (.long q1), .second, .val (.int p2), .val (.int p3), .val (.int p4), .val (.int p5), .val (.int v1), .val (.int v2), .val (.long v3), .second, .val (.long v7), .second, .val (.int (4 : Int32)), .val (.int v13), .val (.ref b14), .unset] [(.long ((v7.toUInt64 >>> ((56 : Int32) &&& 0x3f).toInt64.toUInt64).toInt64)), (.int (11 : Int32)), (.ref b14)]))
    refine OutW.back (fun t k => XS.l2i X145.here hx rfl (hb hby at_295) rfl k) ?_
    show OutW _ _ _ _ _ _ _ (T145.setTop (mkF m 296 #[.val (.long q1), .second, .val (.int p2), .val (.int p3), .val (.int p4), .val (.int p5), .val (.int v1), .val (.int v2), .val (.long v3), .second, .val (.long v7), .second, .val (.int (4 : Int32)), .val (.int v13), .val (.ref b14), .unset] [(.int ((v7.toUInt64 >>> ((56 : Int32) &&& 0x3f).toInt64.toUInt64).toInt64).toInt32), (.int (11 : Int32)), (.ref b14)]))
    refine OutW.back (fun t k => XS.i2b X145.here hx rfl (hb hby at_296) rfl k) ?_
    show OutW _ _ _ _ _ _ _ (T145.setTop (mkF m 297 #[.val (.long q1), .second, .val (.int p2), .val (.int p3), .val (.int p4), .val (.int p5), .val (.int v1), .val (.int v2), .val (.long v3), .second, .val (.long v7), .second, .val (.int (4 : Int32)), .val (.int v13), .val (.ref b14), .unset] [(.int ((v7.toUInt64 >>> ((56 : Int32) &&& 0x3f).toInt64.toUInt64).toInt64).toInt32.toInt8.toInt32), (.int (11 : Int32)), (.ref b14)]))
    generalize hv_v146 : ((v7.toUInt64 >>> ((56 : Int32) &&& 0x3f).toInt64.toUInt64).toInt64).toInt32.toInt8.toInt32 = v146
    obtain ⟨cl147, Ar147, Qk147, Sz147, Nn147, Hh147, Gg147⟩ := id V_b14_145
    have hin147 : ¬ ((11 : Int32) < 0 ∨ cl147.slots.size ≤ ((11 : Int32)).toNatClampNeg) := inb_of Sz147 ⟨by decide, by decide⟩
    obtain ⟨T147, h147, X147, e147, W147, st147⟩ := stB X145 hx hZ e145 Ar147 (j := (11 : Int32)) hin147 (g := (mkF m 297 #[.val (.long q1), .second, .val (.int p2), .val (.int p3), .val (.int p4), .val (.int p5), .val (.int v1), .val (.int v2), .val (.long v3), .second, .val (.long v7), .second, .val (.int (4 : Int32)), .val (.int v13), .val (.ref b14), .unset] [(.int v146), (.int (11 : Int32)), (.ref b14)])) rfl rfl (hb hby at_297)
    have V_b14_147 : Arv Z h147 b14 k14 .byte (16 : Int32) [(.int (nar .byte v13)), (.int (nar .byte v13)), (.int (nar .byte v13)), (.int (nar .byte v13)), (.int (nar .byte v132)), (.int (nar .byte v134)), (.int (nar .byte v136)), (.int (nar .byte v138)), (.int (nar .byte v140)), (.int (nar .byte v142)), (.int (nar .byte v144)), (.int (nar .byte v146)), (.int (nar .byte v13)), (.int (nar .byte v13)), (.int (nar .byte v13)), (.int (nar .byte v13))] (.int (0 : Int32)) := Arv.set Ar147 Qk147 Sz147 Nn147 Hh147 Gg147 (fits_nar_byte _) W147 11 rfl (Nat.le_of_ble_eq_true rfl)
    have N147 := Fr.snoc X147 N145 g_b14
    have Z147 : n0 ≤ h147.size := Nat.le_trans Z145 (Keep.of_wr W147).1
    have K147 := K145.wr W147 (Or.inr sz_b14)
    obtain ⟨lc147, X147, N147⟩ : ∃ lc, Stand p l e room_1 s m #[(.long q1), (.int p2), (.int p3), (.int p4), (.int p5)] below meth c T147 lc 1 16 ∧ Fr n0 lc := ⟨_, X147, N147⟩
    refine OutW.back st147 ?_
    show OutW _ _ _ _ _ _ _ (T147.setTop (mkF m 298 #[.val (.long q1), .second, .val (.int p2), .val (.int p3), .val (.int p4), .val (.int p5), .val (.int v1), .val (.int v2), .val (.long v3), .second, .val (.long v7), .second, .val (.int (4 : Int32)), .val (.int v13), .val (.ref b14), .unset] []))
    refine OutW.back (fun t k => XS.lload X147.here hx rfl (hb hby at_298) rfl  k) ?_
    show OutW _ _ _ _ _ _ _ (T147.setTop (mkF m 300 #[.val (.long q1), .second, .val (.int p2), .val (.int p3), .val (.int p4), .val (.int p5), .val (.int v1), .val (.int v2), .val (.long v3), .second, .val (.long v7), .second, .val (.int (4 : Int32)), .val (.int v13), .val (.ref b14), .unset] [(.long v7)]))
    refine OutW.back (X147.ldc2Long hx hown (mvT hZ (hw _ (List.mem_of_getElem? (i := 1) rfl))) (g := (mkF m 300 #[.val (.long q1), .second, .val (.int p2), .val (.int p3), .val (.int p4), .val (.int p5), .val (.int v1), .val (.int v2), .val (.long v3), .second, .val (.long v7), .second, .val (.int (4 : Int32)), .val (.int v13), .val (.ref b14), .unset] [(.long v7)])) rfl (hb hby at_300)) ?_
    show OutW _ _ _ _ _ _ _ (T147.setTop (mkF m 303 #[.val (.long q1), .second, .val (.int p2), .val (.int p3), .val (.int p4), .val (.int p5), .val (.int v1), .val (.int v2), .val (.long v3), .second, .val (.long v7), .second, .val (.int (4 : Int32)), .val (.int v13), .val (.ref b14), .unset] [(.long (-9223372036854775808 : Int64)), (.long v7)]))
    refine OutW.back (fun t k => XS.lcmp X147.here hx rfl (hb hby at_303) rfl k) ?_
    show OutW _ _ _ _ _ _ _ (T147.setTop (mkF m 304 #[.val (.long q1), .second, .val (.int p2), .val (.int p3), .val (.int p4), .val (.int p5), .val (.int v1), .val (.int v2), .val (.long v3), .second, .val (.long v7), .second, .val (.int (4 : Int32)), .val (.int v13), .val (.ref b14), .unset] [(.int (lcmpW v7 (-9223372036854775808 : Int64)))]))
    obtain ⟨v149, hv_v149⟩ : ∃ z : Int32, z = (if v7 = (-9223372036854775808 : Int64) then (1 : Int32) else (0 : Int32)) := ⟨_, rfl⟩
    have j150 : ∀ t, Steps p.tables e below (T147.setTop (mkF m 312 #[.val (.long q1), .second, .val (.int p2), .val (.int p3), .val (.int p4), .val (.int p5), .val (.int v1), .val (.int v2), .val (.long v3), .second, .val (.long v7), .second, .val (.int (4 : Int32)), .val (.int v13), .val (.ref b14), .unset] [(.int v149)])) t → Steps p.tables e below (T147.setTop (mkF m 304 #[.val (.long q1), .second, .val (.int p2), .val (.int p3), .val (.int p4), .val (.int p5), .val (.int v1), .val (.int v2), .val (.long v3), .second, .val (.long v7), .second, .val (.int (4 : Int32)), .val (.int v13), .val (.ref b14), .unset] [(.int (lcmpW v7 (-9223372036854775808 : Int64)))])) t := by
      intro t k
      by_cases c304_151 : v7 = (-9223372036854775808 : Int64)
      · skip
        refine XS.ifNo X147.here hx rfl (hb hby at_304) rfl ((if0 _ _).trans (teq ((lw_eq _ _).mpr c304_151)).2) ?_
        show Steps p.tables e below (T147.setTop (mkF m 307 #[.val (.long q1), .second, .val (.int p2), .val (.int p3), .val (.int p4), .val (.int p5), .val (.int v1), .val (.int v2), .val (.long v3), .second, .val (.long v7), .second, .val (.int (4 : Int32)), .val (.int v13), .val (.ref b14), .unset] [])) t
        refine XS.iconst X147.here hx rfl (hb hby at_307) ?_
        show Steps p.tables e below (T147.setTop (mkF m 308 #[.val (.long q1), .second, .val (.int p2), .val (.int p3), .val (.int p4), .val (.int p5), .val (.int v1), .val (.int v2), .val (.long v3), .second, .val (.long v7), .second, .val (.int (4 : Int32)), .val (.int v13), .val (.ref b14), .unset] [(.int (1 : Int32))])) t
        refine XS.goto X147.here hx rfl (pc0 := 308) (pc' := 312) rfl (hb hby at_308) (by decide) (by decide) ?_
        show Steps p.tables e below (T147.setTop (mkF m 312 #[.val (.long q1), .second, .val (.int p2), .val (.int p3), .val (.int p4), .val (.int p5), .val (.int v1), .val (.int v2), .val (.long v3), .second, .val (.long v7), .second, .val (.int (4 : Int32)), .val (.int v13), .val (.ref b14), .unset] [(.int (1 : Int32))])) t
        have q_v149 : v149 = (1 : Int32) := by rw [hv_v149, if_pos c304_151]
        rw [q_v149] at k
        exact k
      · skip
        refine XS.ifYes X147.here hx rfl (pc0 := 304) (pc' := 311) rfl (hb hby at_304) rfl ((if0 _ _).trans (feq (fun q => c304_151 ((lw_eq _ _).mp q))).2) (by decide) (by decide) ?_
        show Steps p.tables e below (T147.setTop (mkF m 311 #[.val (.long q1), .second, .val (.int p2), .val (.int p3), .val (.int p4), .val (.int p5), .val (.int v1), .val (.int v2), .val (.long v3), .second, .val (.long v7), .second, .val (.int (4 : Int32)), .val (.int v13), .val (.ref b14), .unset] [])) t
        refine XS.iconst X147.here hx rfl (hb hby at_311) ?_
        show Steps p.tables e below (T147.setTop (mkF m 312 #[.val (.long q1), .second, .val (.int p2), .val (.int p3), .val (.int p4), .val (.int p5), .val (.int v1), .val (.int v2), .val (.long v3), .second, .val (.long v7), .second, .val (.int (4 : Int32)), .val (.int v13), .val (.ref b14), .unset] [(.int (0 : Int32))])) t
        have q_v149 : v149 = (0 : Int32) := by rw [hv_v149, if_neg c304_151]
        rw [q_v149] at k
        exact k
    refine OutW.back j150 ?_
    show OutW _ _ _ _ _ _ _ (T147.setTop (mkF m 312 #[.val (.long q1), .second, .val (.int p2), .val (.int p3), .val (.int p4), .val (.int p5), .val (.int v1), .val (.int v2), .val (.long v3), .second, .val (.long v7), .second, .val (.int (4 : Int32)), .val (.int v13), .val (.ref b14), .unset] [(.int v149)]))
    refine OutW.back (fun t k => XS.istore X147.here hx rfl (hb hby at_312) rfl (l' := #[.val (.long q1), .second, .val (.int p2), .val (.int p3), .val (.int p4), .val (.int p5), .val (.int v1), .val (.int v2), .val (.long v3), .second, .val (.long v7), .second, .val (.int (4 : Int32)), .val (.int v13), .val (.ref b14), .val (.int v149)]) rfl k) ?_
    show OutW _ _ _ _ _ _ _ (T147.setTop (mkF m 314 #[.val (.long q1), .second, .val (.int p2), .val (.int p3), .val (.int p4), .val (.int p5), .val (.int v1), .val (.int v2), .val (.long v3), .second, .val (.long v7), .second, .val (.int (4 : Int32)), .val (.int v13), .val (.ref b14), .val (.int v149)] []))
    refine OutW.back (fun t k => XS.aload X147.here hx rfl (hb hby at_314) rfl rfl  k) ?_
    show OutW _ _ _ _ _ _ _ (T147.setTop (mkF m 316 #[.val (.long q1), .second, .val (.int p2), .val (.int p3), .val (.int p4), .val (.int p5), .val (.int v1), .val (.int v2), .val (.long v3), .second, .val (.long v7), .second, .val (.int (4 : Int32)), .val (.int v13), .val (.ref b14), .val (.int v149)] [(.ref b14)]))
    refine OutW.back (fun t k => XS.iload X147.here hx rfl (hb hby at_316) rfl  k) ?_
    show OutW _ _ _ _ _ _ _ (T147.setTop (mkF m 318 #[.val (.long q1), .second, .val (.int p2), .val (.int p3), .val (.int p4), .val (.int p5), .val (.int v1), .val (.int v2), .val (.long v3), .second, .val (.long v7), .second, .val (.int (4 : Int32)), .val (.int v13), .val (.ref b14), .val (.int v149)] [(.int (4 : Int32)), (.ref b14)]))
    obtain ⟨_, _, ⟨T152, L152, k152, n152⟩, -, X152, ⟨Lc152, hQ152, l152, y152, z152⟩, st152⟩ := Jvm.LawKit.callS X147 hx (y := (⟨"com/example/patchloom/patchloom/delta/SignMagnitude", "isNegativeZero", "([BI)Z"⟩ : MethodName)) hown (mvT hZ (hw _ (List.mem_of_getElem? (i := 3) rfl))) (mvT hZ (hw _ (List.mem_of_getElem? (i := 4) rfl))) (mvT hZ (hw _ (List.mem_of_getElem? (i := 5) rfl))) (mvT hZ (hw _ (List.mem_of_getElem? (i := 6) rfl))) (by decide) (backOf (W := 0) (rm1_4 l Z a0 hw [] b14 (nar .byte v13) (nar .byte v13) (nar .byte v13) (nar .byte v13) (nar .byte v132) (nar .byte v134) (nar .byte v136) (nar .byte v138) (nar .byte v140) (nar .byte v142) (nar .byte v144) (nar .byte v146) (nar .byte v13) (nar .byte v13) (nar .byte v13) (nar .byte v13) k14 h147 n0 Z147 V_b14_147) hZ (hw _ (List.mem_of_getElem? (i := 6) rfl)) (hw _ (List.mem_of_getElem? (i := 5) rfl)) (by decide) (by decide)) (g := (mkF m 318 #[.val (.long q1), .second, .val (.int p2), .val (.int p3), .val (.int p4), .val (.int p5), .val (.int v1), .val (.int v2), .val (.long v3), .second, .val (.long v7), .second, .val (.int (4 : Int32)), .val (.int v13), .val (.ref b14), .val (.int v149)] [(.int (4 : Int32)), (.ref b14)])) rfl (by rw [hml]; rfl) (argsL := [(.ref b14), (.int (4 : Int32))]) (rest := []) (lenOf pd_0 rfl) rfl (by show 2 * 0 + _ ≤ _; exact Nat.le_of_eq rfl) (hb hby at_318) (fun _ _ => ⟨rfl, e147, (by decide : 1 + 0 ≤ _), (by decide : 16 + 0 ≤ _)⟩)
    dsimp only [Pt.U, Pt.locs, Pt.cells, Pt.slots] at X152 l152 y152 z152 st152 hQ152
    subst l152 y152 z152
    obtain ⟨rfl, Nq152, e152⟩ := hQ152
    have N152 := Fr.app N147 Nq152
    obtain ⟨lc152, X152, N152⟩ : ∃ lc, Stand p l e room_1 s m #[(.long q1), (.int p2), (.int p3), (.int p4), (.int p5)] below meth c T152 lc 1 16 ∧ Fr n0 lc := ⟨_, X152, N152⟩
    refine OutW.back st152 ?_
    show OutW _ _ _ _ _ _ _ (T152.setTop (mkF m 321 #[.val (.long q1), .second, .val (.int p2), .val (.int p3), .val (.int p4), .val (.int p5), .val (.int v1), .val (.int v2), .val (.long v3), .second, .val (.long v7), .second, .val (.int (4 : Int32)), .val (.int v13), .val (.ref b14), .val (.int v149)] [(.int (negz4 (nar .byte v132) (nar .byte v134) (nar .byte v136) (nar .byte v138) (nar .byte v140) (nar .byte v142) (nar .byte v144) (nar .byte v146)))]))
    refine OutW.back (fun t k => XS.iload X152.here hx rfl (hb hby at_321) rfl  k) ?_
    show OutW _ _ _ _ _ _ _ (T152.setTop (mkF m 323 #[.val (.long q1), .second, .val (.int p2), .val (.int p3), .val (.int p4), .val (.int p5), .val (.int v1), .val (.int v2), .val (.long v3), .second, .val (.long v7), .second, .val (.int (4 : Int32)), .val (.int v13), .val (.ref b14), .val (.int v149)] [(.int v149), (.int (negz4 (nar .byte v132) (nar .byte v134) (nar .byte v136) (nar .byte v138) (nar .byte v140) (nar .byte v142) (nar .byte v144) (nar .byte v146)))]))
    obtain ⟨v154, hv_v154⟩ : ∃ z : Int32, z = (if (negz4 (nar .byte v132) (nar .byte v134) (nar .byte v136) (nar .byte v138) (nar .byte v140) (nar .byte v142) (nar .byte v144) (nar .byte v146)) = v149 then (1 : Int32) else (0 : Int32)) := ⟨_, rfl⟩
    have j155 : ∀ t, Steps p.tables e below (T152.setTop (mkF m 331 #[.val (.long q1), .second, .val (.int p2), .val (.int p3), .val (.int p4), .val (.int p5), .val (.int v1), .val (.int v2), .val (.long v3), .second, .val (.long v7), .second, .val (.int (4 : Int32)), .val (.int v13), .val (.ref b14), .val (.int v149)] [(.int v154)])) t → Steps p.tables e below (T152.setTop (mkF m 323 #[.val (.long q1), .second, .val (.int p2), .val (.int p3), .val (.int p4), .val (.int p5), .val (.int v1), .val (.int v2), .val (.long v3), .second, .val (.long v7), .second, .val (.int (4 : Int32)), .val (.int v13), .val (.ref b14), .val (.int v149)] [(.int v149), (.int (negz4 (nar .byte v132) (nar .byte v134) (nar .byte v136) (nar .byte v138) (nar .byte v140) (nar .byte v142) (nar .byte v144) (nar .byte v146)))])) t := by
      intro t k
      by_cases c323_156 : (negz4 (nar .byte v132) (nar .byte v134) (nar .byte v136) (nar .byte v138) (nar .byte v140) (nar .byte v142) (nar .byte v144) (nar .byte v146)) = v149
      · skip
        refine XS.icmpNo X152.here hx rfl (hb hby at_323) rfl (teq c323_156).2 ?_
        show Steps p.tables e below (T152.setTop (mkF m 326 #[.val (.long q1), .second, .val (.int p2), .val (.int p3), .val (.int p4), .val (.int p5), .val (.int v1), .val (.int v2), .val (.long v3), .second, .val (.long v7), .second, .val (.int (4 : Int32)), .val (.int v13), .val (.ref b14), .val (.int v149)] [])) t
        refine XS.iconst X152.here hx rfl (hb hby at_326) ?_
        show Steps p.tables e below (T152.setTop (mkF m 327 #[.val (.long q1), .second, .val (.int p2), .val (.int p3), .val (.int p4), .val (.int p5), .val (.int v1), .val (.int v2), .val (.long v3), .second, .val (.long v7), .second, .val (.int (4 : Int32)), .val (.int v13), .val (.ref b14), .val (.int v149)] [(.int (1 : Int32))])) t
        refine XS.goto X152.here hx rfl (pc0 := 327) (pc' := 331) rfl (hb hby at_327) (by decide) (by decide) ?_
        show Steps p.tables e below (T152.setTop (mkF m 331 #[.val (.long q1), .second, .val (.int p2), .val (.int p3), .val (.int p4), .val (.int p5), .val (.int v1), .val (.int v2), .val (.long v3), .second, .val (.long v7), .second, .val (.int (4 : Int32)), .val (.int v13), .val (.ref b14), .val (.int v149)] [(.int (1 : Int32))])) t
        have q_v154 : v154 = (1 : Int32) := by rw [hv_v154, if_pos c323_156]
        rw [q_v154] at k
        exact k
      · skip
        refine XS.icmpYes X152.here hx rfl (pc0 := 323) (pc' := 330) rfl (hb hby at_323) rfl (feq c323_156).2 (by decide) (by decide) ?_
        show Steps p.tables e below (T152.setTop (mkF m 330 #[.val (.long q1), .second, .val (.int p2), .val (.int p3), .val (.int p4), .val (.int p5), .val (.int v1), .val (.int v2), .val (.long v3), .second, .val (.long v7), .second, .val (.int (4 : Int32)), .val (.int v13), .val (.ref b14), .val (.int v149)] [])) t
        refine XS.iconst X152.here hx rfl (hb hby at_330) ?_
        show Steps p.tables e below (T152.setTop (mkF m 331 #[.val (.long q1), .second, .val (.int p2), .val (.int p3), .val (.int p4), .val (.int p5), .val (.int v1), .val (.int v2), .val (.long v3), .second, .val (.long v7), .second, .val (.int (4 : Int32)), .val (.int v13), .val (.ref b14), .val (.int v149)] [(.int (0 : Int32))])) t
        have q_v154 : v154 = (0 : Int32) := by rw [hv_v154, if_neg c323_156]
        rw [q_v154] at k
        exact k
    refine OutW.back j155 ?_
    show OutW _ _ _ _ _ _ _ (T152.setTop (mkF m 331 #[.val (.long q1), .second, .val (.int p2), .val (.int p3), .val (.int p4), .val (.int p5), .val (.int v1), .val (.int v2), .val (.long v3), .second, .val (.long v7), .second, .val (.int (4 : Int32)), .val (.int v13), .val (.ref b14), .val (.int v149)] [(.int v154)]))
    refine OutW.retN X152 hx (t := .boolean) (z' := 1) Bd.returns (by simp) hlk (hb hby at_331) ?hz (by decide) (by decide) ?_
    case hz =>
      have hfin : v154 = (1 : Int32) := by
        have e : (negz4 (nar .byte v132) (nar .byte v134) (nar .byte v136) (nar .byte v138) (nar .byte v140) (nar .byte v142) (nar .byte v144) (nar .byte v146)) = v149 := by
          rw [← hv_v132, ← hv_v134, ← hv_v136, ← hv_v138, ← hv_v140, ← hv_v142, ← hv_v144, ← hv_v146, hv_v149]
          exact own_neg _
        rw [hv_v154, if_pos e]
      rw [hfin]; rfl
    show Q0 Z q1 p2 p3 p4 p5 h0 n0 _ T152.heap _
    rw [e152]
    exact ⟨rfl, N152⟩
  · skip
    show OutW _ _ _ _ _ _ _ (T30.setTop (mkF m 189 #[.val (.long q1), .second, .val (.int p2), .val (.int p3), .val (.int p4), .val (.int p5), .val (.int v1), .val (.int v2), .val (.long v3), .second, .val (.long v7), .second, .val (.int (5 : Int32)), .val (.int v13), .val (.ref b14), .unset] []))
    refine OutW.back (fun t k => XS.aload X30.here hx rfl (hb hby at_189) rfl rfl  k) ?_
    show OutW _ _ _ _ _ _ _ (T30.setTop (mkF m 191 #[.val (.long q1), .second, .val (.int p2), .val (.int p3), .val (.int p4), .val (.int p5), .val (.int v1), .val (.int v2), .val (.long v3), .second, .val (.long v7), .second, .val (.int (5 : Int32)), .val (.int v13), .val (.ref b14), .unset] [(.ref b14)]))
    refine OutW.back (fun t k => XS.iload X30.here hx rfl (hb hby at_191) rfl  k) ?_
    show OutW _ _ _ _ _ _ _ (T30.setTop (mkF m 193 #[.val (.long q1), .second, .val (.int p2), .val (.int p3), .val (.int p4), .val (.int p5), .val (.int v1), .val (.int v2), .val (.long v3), .second, .val (.long v7), .second, .val (.int (5 : Int32)), .val (.int v13), .val (.ref b14), .unset] [(.int (5 : Int32)), (.ref b14)]))
    refine OutW.back (fun t k => XS.lload X30.here hx rfl (hb hby at_193) rfl  k) ?_
    show OutW _ _ _ _ _ _ _ (T30.setTop (mkF m 195 #[.val (.long q1), .second, .val (.int p2), .val (.int p3), .val (.int p4), .val (.int p5), .val (.int v1), .val (.int v2), .val (.long v3), .second, .val (.long v7), .second, .val (.int (5 : Int32)), .val (.int v13), .val (.ref b14), .unset] [(.long v7), (.int (5 : Int32)), (.ref b14)]))
    refine OutW.back (fun t k => XS.l2i X30.here hx rfl (hb hby at_195) rfl k) ?_
    show OutW _ _ _ _ _ _ _ (T30.setTop (mkF m 196 #[.val (.long q1), .second, .val (.int p2), .val (.int p3), .val (.int p4), .val (.int p5), .val (.int v1), .val (.int v2), .val (.long v3), .second, .val (.long v7), .second, .val (.int (5 : Int32)), .val (.int v13), .val (.ref b14), .unset] [(.int v7.toInt32), (.int (5 : Int32)), (.ref b14)]))
    refine OutW.back (fun t k => XS.i2b X30.here hx rfl (hb hby at_196) rfl k) ?_
    show OutW _ _ _ _ _ _ _ (T30.setTop (mkF m 197 #[.val (.long q1), .second, .val (.int p2), .val (.int p3), .val (.int p4), .val (.int p5), .val (.int v1), .val (.int v2), .val (.long v3), .second, .val (.long v7), .second, .val (.int (5 : Int32)), .val (.int v13), .val (.ref b14), .unset] [(.int v7.toInt32.toInt8.toInt32), (.int (5 : Int32)), (.ref b14)]))
    generalize hv_v157 : v7.toInt32.toInt8.toInt32 = v157
    obtain ⟨cl158, Ar158, Qk158, Sz158, Nn158, Hh158, Gg158⟩ := id V_b14_30
    have hin158 : ¬ ((5 : Int32) < 0 ∨ cl158.slots.size ≤ ((5 : Int32)).toNatClampNeg) := inb_of Sz158 ⟨by decide, by decide⟩
    obtain ⟨T158, h158, X158, e158, W158, st158⟩ := stB X30 hx hZ e30 Ar158 (j := (5 : Int32)) hin158 (g := (mkF m 197 #[.val (.long q1), .second, .val (.int p2), .val (.int p3), .val (.int p4), .val (.int p5), .val (.int v1), .val (.int v2), .val (.long v3), .second, .val (.long v7), .second, .val (.int (5 : Int32)), .val (.int v13), .val (.ref b14), .unset] [(.int v157), (.int (5 : Int32)), (.ref b14)])) rfl rfl (hb hby at_197)
    have V_b14_158 : Arv Z h158 b14 k14 .byte (16 : Int32) [(.int (nar .byte v13)), (.int (nar .byte v13)), (.int (nar .byte v13)), (.int (nar .byte v13)), (.int (nar .byte v13)), (.int (nar .byte v157)), (.int (nar .byte v13)), (.int (nar .byte v13)), (.int (nar .byte v13)), (.int (nar .byte v13)), (.int (nar .byte v13)), (.int (nar .byte v13)), (.int (nar .byte v13)), (.int (nar .byte v13)), (.int (nar .byte v13)), (.int (nar .byte v13))] (.int (0 : Int32)) := Arv.set Ar158 Qk158 Sz158 Nn158 Hh158 Gg158 (fits_nar_byte _) W158 5 rfl (Nat.le_of_ble_eq_true rfl)
    have N158 := Fr.snoc X158 N30 g_b14
    have Z158 : n0 ≤ h158.size := Nat.le_trans Z30 (Keep.of_wr W158).1
    have K158 := K30.wr W158 (Or.inr sz_b14)
    obtain ⟨lc158, X158, N158⟩ : ∃ lc, Stand p l e room_1 s m #[(.long q1), (.int p2), (.int p3), (.int p4), (.int p5)] below meth c T158 lc 1 16 ∧ Fr n0 lc := ⟨_, X158, N158⟩
    refine OutW.back st158 ?_
    show OutW _ _ _ _ _ _ _ (T158.setTop (mkF m 198 #[.val (.long q1), .second, .val (.int p2), .val (.int p3), .val (.int p4), .val (.int p5), .val (.int v1), .val (.int v2), .val (.long v3), .second, .val (.long v7), .second, .val (.int (5 : Int32)), .val (.int v13), .val (.ref b14), .unset] []))
    refine OutW.back (fun t k => XS.aload X158.here hx rfl (hb hby at_198) rfl rfl  k) ?_
    show OutW _ _ _ _ _ _ _ (T158.setTop (mkF m 200 #[.val (.long q1), .second, .val (.int p2), .val (.int p3), .val (.int p4), .val (.int p5), .val (.int v1), .val (.int v2), .val (.long v3), .second, .val (.long v7), .second, .val (.int (5 : Int32)), .val (.int v13), .val (.ref b14), .unset] [(.ref b14)]))
    refine OutW.back (fun t k => XS.iload X158.here hx rfl (hb hby at_200) rfl  k) ?_
    show OutW _ _ _ _ _ _ _ (T158.setTop (mkF m 202 #[.val (.long q1), .second, .val (.int p2), .val (.int p3), .val (.int p4), .val (.int p5), .val (.int v1), .val (.int v2), .val (.long v3), .second, .val (.long v7), .second, .val (.int (5 : Int32)), .val (.int v13), .val (.ref b14), .unset] [(.int (5 : Int32)), (.ref b14)]))
    refine OutW.back (fun t k => XS.iconst X158.here hx rfl (hb hby at_202) k) ?_
    show OutW _ _ _ _ _ _ _ (T158.setTop (mkF m 203 #[.val (.long q1), .second, .val (.int p2), .val (.int p3), .val (.int p4), .val (.int p5), .val (.int v1), .val (.int v2), .val (.long v3), .second, .val (.long v7), .second, .val (.int (5 : Int32)), .val (.int v13), .val (.ref b14), .unset] [(.int (1 : Int32)), (.int (5 : Int32)), (.ref b14)]))
    refine OutW.back (fun t k => XS.iadd X158.here hx rfl (hb hby at_203) rfl k) ?_
    show OutW _ _ _ _ _ _ _ (T158.setTop (mkF m 204 #[.val (.long q1), .second, .val (.int p2), .val (.int p3), .val (.int p4), .val (.int p5), .val (.int v1), .val (.int v2), .val (.long v3), .second, .val (.long v7), .second, .val (.int (5 : Int32)), .val (.int v13), .val (.ref b14), .unset] [(.int ((5 : Int32) + (1 : Int32))), (.ref b14)]))
    rw [show ((5 : Int32) + (1 : Int32)) = (6 : Int32) from by decide]
    refine OutW.back (fun t k => XS.lload X158.here hx rfl (hb hby at_204) rfl  k) ?_
    show OutW _ _ _ _ _ _ _ (T158.setTop (mkF m 206 #[.val (.long q1), .second, .val (.int p2), .val (.int p3), .val (.int p4), .val (.int p5), .val (.int v1), .val (.int v2), .val (.long v3), .second, .val (.long v7), .second, .val (.int (5 : Int32)), .val (.int v13), .val (.ref b14), .unset] [(.long v7), (.int (6 : Int32)), (.ref b14)]))
    refine OutW.back (fun t k => XS.bipush X158.here hx rfl (hb hby at_206) k) ?_
    show OutW _ _ _ _ _ _ _ (T158.setTop (mkF m 208 #[.val (.long q1), .second, .val (.int p2), .val (.int p3), .val (.int p4), .val (.int p5), .val (.int v1), .val (.int v2), .val (.long v3), .second, .val (.long v7), .second, .val (.int (5 : Int32)), .val (.int v13), .val (.ref b14), .unset] [(.int (8 : Int32)), (.long v7), (.int (6 : Int32)), (.ref b14)]))
    refine OutW.back (fun t k => XS.lushr X158.here hx rfl (hb hby at_208) rfl k) ?_
    show OutW _ _ _ _ _ _ _ (T158.setTop (mkF m 209 #[.val (.long q1), .second, .val (.int p2), .val (.int p3), .val (.int p4), .val (.int p5), .val (.int v1), .val (.int v2), .val (.long v3), .second, .val (.long v7), .second, .val (.int (5 : Int32)), .val (.int v13), .val (.ref b14), .unset] [(.long ((v7.toUInt64 >>> ((8 : Int32) &&& 0x3f).toInt64.toUInt64).toInt64)), (.int (6 : Int32)), (.ref b14)]))
    refine OutW.back (fun t k => XS.l2i X158.here hx rfl (hb hby at_209) rfl k) ?_
    show OutW _ _ _ _ _ _ _ (T158.setTop (mkF m 210 #[.val (.long q1), .second, .val (.int p2), .val (.int p3), .val (.int p4), .val (.int p5), .val (.int v1), .val (.int v2), .val (.long v3), .second, .val (.long v7), .second, .val (.int (5 : Int32)), .val (.int v13), .val (.ref b14), .unset] [(.int ((v7.toUInt64 >>> ((8 : Int32) &&& 0x3f).toInt64.toUInt64).toInt64).toInt32), (.int (6 : Int32)), (.ref b14)]))
    refine OutW.back (fun t k => XS.i2b X158.here hx rfl (hb hby at_210) rfl k) ?_
    show OutW _ _ _ _ _ _ _ (T158.setTop (mkF m 211 #[.val (.long q1), .second, .val (.int p2), .val (.int p3), .val (.int p4), .val (.int p5), .val (.int v1), .val (.int v2), .val (.long v3), .second, .val (.long v7), .second, .val (.int (5 : Int32)), .val (.int v13), .val (.ref b14), .unset] [(.int ((v7.toUInt64 >>> ((8 : Int32) &&& 0x3f).toInt64.toUInt64).toInt64).toInt32.toInt8.toInt32), (.int (6 : Int32)), (.ref b14)]))
    generalize hv_v159 : ((v7.toUInt64 >>> ((8 : Int32) &&& 0x3f).toInt64.toUInt64).toInt64).toInt32.toInt8.toInt32 = v159
    obtain ⟨cl160, Ar160, Qk160, Sz160, Nn160, Hh160, Gg160⟩ := id V_b14_158
    have hin160 : ¬ ((6 : Int32) < 0 ∨ cl160.slots.size ≤ ((6 : Int32)).toNatClampNeg) := inb_of Sz160 ⟨by decide, by decide⟩
    obtain ⟨T160, h160, X160, e160, W160, st160⟩ := stB X158 hx hZ e158 Ar160 (j := (6 : Int32)) hin160 (g := (mkF m 211 #[.val (.long q1), .second, .val (.int p2), .val (.int p3), .val (.int p4), .val (.int p5), .val (.int v1), .val (.int v2), .val (.long v3), .second, .val (.long v7), .second, .val (.int (5 : Int32)), .val (.int v13), .val (.ref b14), .unset] [(.int v159), (.int (6 : Int32)), (.ref b14)])) rfl rfl (hb hby at_211)
    have V_b14_160 : Arv Z h160 b14 k14 .byte (16 : Int32) [(.int (nar .byte v13)), (.int (nar .byte v13)), (.int (nar .byte v13)), (.int (nar .byte v13)), (.int (nar .byte v13)), (.int (nar .byte v157)), (.int (nar .byte v159)), (.int (nar .byte v13)), (.int (nar .byte v13)), (.int (nar .byte v13)), (.int (nar .byte v13)), (.int (nar .byte v13)), (.int (nar .byte v13)), (.int (nar .byte v13)), (.int (nar .byte v13)), (.int (nar .byte v13))] (.int (0 : Int32)) := Arv.set Ar160 Qk160 Sz160 Nn160 Hh160 Gg160 (fits_nar_byte _) W160 6 rfl (Nat.le_of_ble_eq_true rfl)
    have N160 := Fr.snoc X160 N158 g_b14
    have Z160 : n0 ≤ h160.size := Nat.le_trans Z158 (Keep.of_wr W160).1
    have K160 := K158.wr W160 (Or.inr sz_b14)
    obtain ⟨lc160, X160, N160⟩ : ∃ lc, Stand p l e room_1 s m #[(.long q1), (.int p2), (.int p3), (.int p4), (.int p5)] below meth c T160 lc 1 16 ∧ Fr n0 lc := ⟨_, X160, N160⟩
    refine OutW.back st160 ?_
    show OutW _ _ _ _ _ _ _ (T160.setTop (mkF m 212 #[.val (.long q1), .second, .val (.int p2), .val (.int p3), .val (.int p4), .val (.int p5), .val (.int v1), .val (.int v2), .val (.long v3), .second, .val (.long v7), .second, .val (.int (5 : Int32)), .val (.int v13), .val (.ref b14), .unset] []))
    refine OutW.back (fun t k => XS.aload X160.here hx rfl (hb hby at_212) rfl rfl  k) ?_
    show OutW _ _ _ _ _ _ _ (T160.setTop (mkF m 214 #[.val (.long q1), .second, .val (.int p2), .val (.int p3), .val (.int p4), .val (.int p5), .val (.int v1), .val (.int v2), .val (.long v3), .second, .val (.long v7), .second, .val (.int (5 : Int32)), .val (.int v13), .val (.ref b14), .unset] [(.ref b14)]))
    refine OutW.back (fun t k => XS.iload X160.here hx rfl (hb hby at_214) rfl  k) ?_
    show OutW _ _ _ _ _ _ _ (T160.setTop (mkF m 216 #[.val (.long q1), .second, .val (.int p2), .val (.int p3), .val (.int p4), .val (.int p5), .val (.int v1), .val (.int v2), .val (.long v3), .second, .val (.long v7), .second, .val (.int (5 : Int32)), .val (.int v13), .val (.ref b14), .unset] [(.int (5 : Int32)), (.ref b14)]))
    refine OutW.back (fun t k => XS.iconst X160.here hx rfl (hb hby at_216) k) ?_
    show OutW _ _ _ _ _ _ _ (T160.setTop (mkF m 217 #[.val (.long q1), .second, .val (.int p2), .val (.int p3), .val (.int p4), .val (.int p5), .val (.int v1), .val (.int v2), .val (.long v3), .second, .val (.long v7), .second, .val (.int (5 : Int32)), .val (.int v13), .val (.ref b14), .unset] [(.int (2 : Int32)), (.int (5 : Int32)), (.ref b14)]))
    refine OutW.back (fun t k => XS.iadd X160.here hx rfl (hb hby at_217) rfl k) ?_
    show OutW _ _ _ _ _ _ _ (T160.setTop (mkF m 218 #[.val (.long q1), .second, .val (.int p2), .val (.int p3), .val (.int p4), .val (.int p5), .val (.int v1), .val (.int v2), .val (.long v3), .second, .val (.long v7), .second, .val (.int (5 : Int32)), .val (.int v13), .val (.ref b14), .unset] [(.int ((5 : Int32) + (2 : Int32))), (.ref b14)]))
    rw [show ((5 : Int32) + (2 : Int32)) = (7 : Int32) from by decide]
    refine OutW.back (fun t k => XS.lload X160.here hx rfl (hb hby at_218) rfl  k) ?_
    show OutW _ _ _ _ _ _ _ (T160.setTop (mkF m 220 #[.val (.long q1), .second, .val (.int p2), .val (.int p3), .val (.int p4), .val (.int p5), .val (.int v1), .val (.int v2), .val (.long v3), .second, .val (.long v7), .second, .val (.int (5 : Int32)), .val (.int v13), .val (.ref b14), .unset] [(.long v7), (.int (7 : Int32)), (.ref b14)]))
    refine OutW.back (fun t k => XS.bipush X160.here hx rfl (hb hby at_220) k) ?_
    show OutW _ _ _ _ _ _ _ (T160.setTop (mkF m 222 #[.val (.long q1), .second, .val (.int p2), .val (.int p3), .val (.int p4), .val (.int p5), .val (.int v1), .val (.int v2), .val (.long v3), .second, .val (.long v7), .second, .val (.int (5 : Int32)), .val (.int v13), .val (.ref b14), .unset] [(.int (16 : Int32)), (.long v7), (.int (7 : Int32)), (.ref b14)]))
    refine OutW.back (fun t k => XS.lushr X160.here hx rfl (hb hby at_222) rfl k) ?_
    show OutW _ _ _ _ _ _ _ (T160.setTop (mkF m 223 #[.val (.long q1), .second, .val (.int p2), .val (.int p3), .val (.int p4), .val (.int p5), .val (.int v1), .val (.int v2), .val (.long v3), .second, .val (.long v7), .second, .val (.int (5 : Int32)), .val (.int v13), .val (.ref b14), .unset] [(.long ((v7.toUInt64 >>> ((16 : Int32) &&& 0x3f).toInt64.toUInt64).toInt64)), (.int (7 : Int32)), (.ref b14)]))
    refine OutW.back (fun t k => XS.l2i X160.here hx rfl (hb hby at_223) rfl k) ?_
    show OutW _ _ _ _ _ _ _ (T160.setTop (mkF m 224 #[.val (.long q1), .second, .val (.int p2), .val (.int p3), .val (.int p4), .val (.int p5), .val (.int v1), .val (.int v2), .val (.long v3), .second, .val (.long v7), .second, .val (.int (5 : Int32)), .val (.int v13), .val (.ref b14), .unset] [(.int ((v7.toUInt64 >>> ((16 : Int32) &&& 0x3f).toInt64.toUInt64).toInt64).toInt32), (.int (7 : Int32)), (.ref b14)]))
    refine OutW.back (fun t k => XS.i2b X160.here hx rfl (hb hby at_224) rfl k) ?_
    show OutW _ _ _ _ _ _ _ (T160.setTop (mkF m 225 #[.val (.long q1), .second, .val (.int p2), .val (.int p3), .val (.int p4), .val (.int p5), .val (.int v1), .val (.int v2), .val (.long v3), .second, .val (.long v7), .second, .val (.int (5 : Int32)), .val (.int v13), .val (.ref b14), .unset] [(.int ((v7.toUInt64 >>> ((16 : Int32) &&& 0x3f).toInt64.toUInt64).toInt64).toInt32.toInt8.toInt32), (.int (7 : Int32)), (.ref b14)]))
    generalize hv_v161 : ((v7.toUInt64 >>> ((16 : Int32) &&& 0x3f).toInt64.toUInt64).toInt64).toInt32.toInt8.toInt32 = v161
    obtain ⟨cl162, Ar162, Qk162, Sz162, Nn162, Hh162, Gg162⟩ := id V_b14_160
    have hin162 : ¬ ((7 : Int32) < 0 ∨ cl162.slots.size ≤ ((7 : Int32)).toNatClampNeg) := inb_of Sz162 ⟨by decide, by decide⟩
    obtain ⟨T162, h162, X162, e162, W162, st162⟩ := stB X160 hx hZ e160 Ar162 (j := (7 : Int32)) hin162 (g := (mkF m 225 #[.val (.long q1), .second, .val (.int p2), .val (.int p3), .val (.int p4), .val (.int p5), .val (.int v1), .val (.int v2), .val (.long v3), .second, .val (.long v7), .second, .val (.int (5 : Int32)), .val (.int v13), .val (.ref b14), .unset] [(.int v161), (.int (7 : Int32)), (.ref b14)])) rfl rfl (hb hby at_225)
    have V_b14_162 : Arv Z h162 b14 k14 .byte (16 : Int32) [(.int (nar .byte v13)), (.int (nar .byte v13)), (.int (nar .byte v13)), (.int (nar .byte v13)), (.int (nar .byte v13)), (.int (nar .byte v157)), (.int (nar .byte v159)), (.int (nar .byte v161)), (.int (nar .byte v13)), (.int (nar .byte v13)), (.int (nar .byte v13)), (.int (nar .byte v13)), (.int (nar .byte v13)), (.int (nar .byte v13)), (.int (nar .byte v13)), (.int (nar .byte v13))] (.int (0 : Int32)) := Arv.set Ar162 Qk162 Sz162 Nn162 Hh162 Gg162 (fits_nar_byte _) W162 7 rfl (Nat.le_of_ble_eq_true rfl)
    have N162 := Fr.snoc X162 N160 g_b14
    have Z162 : n0 ≤ h162.size := Nat.le_trans Z160 (Keep.of_wr W162).1
    have K162 := K160.wr W162 (Or.inr sz_b14)
    obtain ⟨lc162, X162, N162⟩ : ∃ lc, Stand p l e room_1 s m #[(.long q1), (.int p2), (.int p3), (.int p4), (.int p5)] below meth c T162 lc 1 16 ∧ Fr n0 lc := ⟨_, X162, N162⟩
    refine OutW.back st162 ?_
    show OutW _ _ _ _ _ _ _ (T162.setTop (mkF m 226 #[.val (.long q1), .second, .val (.int p2), .val (.int p3), .val (.int p4), .val (.int p5), .val (.int v1), .val (.int v2), .val (.long v3), .second, .val (.long v7), .second, .val (.int (5 : Int32)), .val (.int v13), .val (.ref b14), .unset] []))
    refine OutW.back (fun t k => XS.aload X162.here hx rfl (hb hby at_226) rfl rfl  k) ?_
    show OutW _ _ _ _ _ _ _ (T162.setTop (mkF m 228 #[.val (.long q1), .second, .val (.int p2), .val (.int p3), .val (.int p4), .val (.int p5), .val (.int v1), .val (.int v2), .val (.long v3), .second, .val (.long v7), .second, .val (.int (5 : Int32)), .val (.int v13), .val (.ref b14), .unset] [(.ref b14)]))
    refine OutW.back (fun t k => XS.iload X162.here hx rfl (hb hby at_228) rfl  k) ?_
    show OutW _ _ _ _ _ _ _ (T162.setTop (mkF m 230 #[.val (.long q1), .second, .val (.int p2), .val (.int p3), .val (.int p4), .val (.int p5), .val (.int v1), .val (.int v2), .val (.long v3), .second, .val (.long v7), .second, .val (.int (5 : Int32)), .val (.int v13), .val (.ref b14), .unset] [(.int (5 : Int32)), (.ref b14)]))
    refine OutW.back (fun t k => XS.iconst X162.here hx rfl (hb hby at_230) k) ?_
    show OutW _ _ _ _ _ _ _ (T162.setTop (mkF m 231 #[.val (.long q1), .second, .val (.int p2), .val (.int p3), .val (.int p4), .val (.int p5), .val (.int v1), .val (.int v2), .val (.long v3), .second, .val (.long v7), .second, .val (.int (5 : Int32)), .val (.int v13), .val (.ref b14), .unset] [(.int (3 : Int32)), (.int (5 : Int32)), (.ref b14)]))
    refine OutW.back (fun t k => XS.iadd X162.here hx rfl (hb hby at_231) rfl k) ?_
    show OutW _ _ _ _ _ _ _ (T162.setTop (mkF m 232 #[.val (.long q1), .second, .val (.int p2), .val (.int p3), .val (.int p4), .val (.int p5), .val (.int v1), .val (.int v2), .val (.long v3), .second, .val (.long v7), .second, .val (.int (5 : Int32)), .val (.int v13), .val (.ref b14), .unset] [(.int ((5 : Int32) + (3 : Int32))), (.ref b14)]))
    rw [show ((5 : Int32) + (3 : Int32)) = (8 : Int32) from by decide]
    refine OutW.back (fun t k => XS.lload X162.here hx rfl (hb hby at_232) rfl  k) ?_
    show OutW _ _ _ _ _ _ _ (T162.setTop (mkF m 234 #[.val (.long q1), .second, .val (.int p2), .val (.int p3), .val (.int p4), .val (.int p5), .val (.int v1), .val (.int v2), .val (.long v3), .second, .val (.long v7), .second, .val (.int (5 : Int32)), .val (.int v13), .val (.ref b14), .unset] [(.long v7), (.int (8 : Int32)), (.ref b14)]))
    refine OutW.back (fun t k => XS.bipush X162.here hx rfl (hb hby at_234) k) ?_
    show OutW _ _ _ _ _ _ _ (T162.setTop (mkF m 236 #[.val (.long q1), .second, .val (.int p2), .val (.int p3), .val (.int p4), .val (.int p5), .val (.int v1), .val (.int v2), .val (.long v3), .second, .val (.long v7), .second, .val (.int (5 : Int32)), .val (.int v13), .val (.ref b14), .unset] [(.int (24 : Int32)), (.long v7), (.int (8 : Int32)), (.ref b14)]))
    refine OutW.back (fun t k => XS.lushr X162.here hx rfl (hb hby at_236) rfl k) ?_
    show OutW _ _ _ _ _ _ _ (T162.setTop (mkF m 237 #[.val (.long q1), .second, .val (.int p2), .val (.int p3), .val (.int p4), .val (.int p5), .val (.int v1), .val (.int v2), .val (.long v3), .second, .val (.long v7), .second, .val (.int (5 : Int32)), .val (.int v13), .val (.ref b14), .unset] [(.long ((v7.toUInt64 >>> ((24 : Int32) &&& 0x3f).toInt64.toUInt64).toInt64)), (.int (8 : Int32)), (.ref b14)]))
    refine OutW.back (fun t k => XS.l2i X162.here hx rfl (hb hby at_237) rfl k) ?_
    show OutW _ _ _ _ _ _ _ (T162.setTop (mkF m 238 #[.val (.long q1), .second, .val (.int p2), .val (.int p3), .val (.int p4), .val (.int p5), .val (.int v1), .val (.int v2), .val (.long v3), .second, .val (.long v7), .second, .val (.int (5 : Int32)), .val (.int v13), .val (.ref b14), .unset] [(.int ((v7.toUInt64 >>> ((24 : Int32) &&& 0x3f).toInt64.toUInt64).toInt64).toInt32), (.int (8 : Int32)), (.ref b14)]))
    refine OutW.back (fun t k => XS.i2b X162.here hx rfl (hb hby at_238) rfl k) ?_
    show OutW _ _ _ _ _ _ _ (T162.setTop (mkF m 239 #[.val (.long q1), .second, .val (.int p2), .val (.int p3), .val (.int p4), .val (.int p5), .val (.int v1), .val (.int v2), .val (.long v3), .second, .val (.long v7), .second, .val (.int (5 : Int32)), .val (.int v13), .val (.ref b14), .unset] [(.int ((v7.toUInt64 >>> ((24 : Int32) &&& 0x3f).toInt64.toUInt64).toInt64).toInt32.toInt8.toInt32), (.int (8 : Int32)), (.ref b14)]))
    generalize hv_v163 : ((v7.toUInt64 >>> ((24 : Int32) &&& 0x3f).toInt64.toUInt64).toInt64).toInt32.toInt8.toInt32 = v163
    obtain ⟨cl164, Ar164, Qk164, Sz164, Nn164, Hh164, Gg164⟩ := id V_b14_162
    have hin164 : ¬ ((8 : Int32) < 0 ∨ cl164.slots.size ≤ ((8 : Int32)).toNatClampNeg) := inb_of Sz164 ⟨by decide, by decide⟩
    obtain ⟨T164, h164, X164, e164, W164, st164⟩ := stB X162 hx hZ e162 Ar164 (j := (8 : Int32)) hin164 (g := (mkF m 239 #[.val (.long q1), .second, .val (.int p2), .val (.int p3), .val (.int p4), .val (.int p5), .val (.int v1), .val (.int v2), .val (.long v3), .second, .val (.long v7), .second, .val (.int (5 : Int32)), .val (.int v13), .val (.ref b14), .unset] [(.int v163), (.int (8 : Int32)), (.ref b14)])) rfl rfl (hb hby at_239)
    have V_b14_164 : Arv Z h164 b14 k14 .byte (16 : Int32) [(.int (nar .byte v13)), (.int (nar .byte v13)), (.int (nar .byte v13)), (.int (nar .byte v13)), (.int (nar .byte v13)), (.int (nar .byte v157)), (.int (nar .byte v159)), (.int (nar .byte v161)), (.int (nar .byte v163)), (.int (nar .byte v13)), (.int (nar .byte v13)), (.int (nar .byte v13)), (.int (nar .byte v13)), (.int (nar .byte v13)), (.int (nar .byte v13)), (.int (nar .byte v13))] (.int (0 : Int32)) := Arv.set Ar164 Qk164 Sz164 Nn164 Hh164 Gg164 (fits_nar_byte _) W164 8 rfl (Nat.le_of_ble_eq_true rfl)
    have N164 := Fr.snoc X164 N162 g_b14
    have Z164 : n0 ≤ h164.size := Nat.le_trans Z162 (Keep.of_wr W164).1
    have K164 := K162.wr W164 (Or.inr sz_b14)
    obtain ⟨lc164, X164, N164⟩ : ∃ lc, Stand p l e room_1 s m #[(.long q1), (.int p2), (.int p3), (.int p4), (.int p5)] below meth c T164 lc 1 16 ∧ Fr n0 lc := ⟨_, X164, N164⟩
    refine OutW.back st164 ?_
    show OutW _ _ _ _ _ _ _ (T164.setTop (mkF m 240 #[.val (.long q1), .second, .val (.int p2), .val (.int p3), .val (.int p4), .val (.int p5), .val (.int v1), .val (.int v2), .val (.long v3), .second, .val (.long v7), .second, .val (.int (5 : Int32)), .val (.int v13), .val (.ref b14), .unset] []))
    refine OutW.back (fun t k => XS.aload X164.here hx rfl (hb hby at_240) rfl rfl  k) ?_
    show OutW _ _ _ _ _ _ _ (T164.setTop (mkF m 242 #[.val (.long q1), .second, .val (.int p2), .val (.int p3), .val (.int p4), .val (.int p5), .val (.int v1), .val (.int v2), .val (.long v3), .second, .val (.long v7), .second, .val (.int (5 : Int32)), .val (.int v13), .val (.ref b14), .unset] [(.ref b14)]))
    refine OutW.back (fun t k => XS.iload X164.here hx rfl (hb hby at_242) rfl  k) ?_
    show OutW _ _ _ _ _ _ _ (T164.setTop (mkF m 244 #[.val (.long q1), .second, .val (.int p2), .val (.int p3), .val (.int p4), .val (.int p5), .val (.int v1), .val (.int v2), .val (.long v3), .second, .val (.long v7), .second, .val (.int (5 : Int32)), .val (.int v13), .val (.ref b14), .unset] [(.int (5 : Int32)), (.ref b14)]))
    refine OutW.back (fun t k => XS.iconst X164.here hx rfl (hb hby at_244) k) ?_
    show OutW _ _ _ _ _ _ _ (T164.setTop (mkF m 245 #[.val (.long q1), .second, .val (.int p2), .val (.int p3), .val (.int p4), .val (.int p5), .val (.int v1), .val (.int v2), .val (.long v3), .second, .val (.long v7), .second, .val (.int (5 : Int32)), .val (.int v13), .val (.ref b14), .unset] [(.int (4 : Int32)), (.int (5 : Int32)), (.ref b14)]))
    refine OutW.back (fun t k => XS.iadd X164.here hx rfl (hb hby at_245) rfl k) ?_
    show OutW _ _ _ _ _ _ _ (T164.setTop (mkF m 246 #[.val (.long q1), .second, .val (.int p2), .val (.int p3), .val (.int p4), .val (.int p5), .val (.int v1), .val (.int v2), .val (.long v3), .second, .val (.long v7), .second, .val (.int (5 : Int32)), .val (.int v13), .val (.ref b14), .unset] [(.int ((5 : Int32) + (4 : Int32))), (.ref b14)]))
    rw [show ((5 : Int32) + (4 : Int32)) = (9 : Int32) from by decide]
    refine OutW.back (fun t k => XS.lload X164.here hx rfl (hb hby at_246) rfl  k) ?_
    show OutW _ _ _ _ _ _ _ (T164.setTop (mkF m 248 #[.val (.long q1), .second, .val (.int p2), .val (.int p3), .val (.int p4), .val (.int p5), .val (.int v1), .val (.int v2), .val (.long v3), .second, .val (.long v7), .second, .val (.int (5 : Int32)), .val (.int v13), .val (.ref b14), .unset] [(.long v7), (.int (9 : Int32)), (.ref b14)]))
    refine OutW.back (fun t k => XS.bipush X164.here hx rfl (hb hby at_248) k) ?_
    show OutW _ _ _ _ _ _ _ (T164.setTop (mkF m 250 #[.val (.long q1), .second, .val (.int p2), .val (.int p3), .val (.int p4), .val (.int p5), .val (.int v1), .val (.int v2), .val (.long v3), .second, .val (.long v7), .second, .val (.int (5 : Int32)), .val (.int v13), .val (.ref b14), .unset] [(.int (32 : Int32)), (.long v7), (.int (9 : Int32)), (.ref b14)]))
    refine OutW.back (fun t k => XS.lushr X164.here hx rfl (hb hby at_250) rfl k) ?_
    show OutW _ _ _ _ _ _ _ (T164.setTop (mkF m 251 #[.val (.long q1), .second, .val (.int p2), .val (.int p3), .val (.int p4), .val (.int p5), .val (.int v1), .val (.int v2), .val (.long v3), .second, .val (.long v7), .second, .val (.int (5 : Int32)), .val (.int v13), .val (.ref b14), .unset] [(.long ((v7.toUInt64 >>> ((32 : Int32) &&& 0x3f).toInt64.toUInt64).toInt64)), (.int (9 : Int32)), (.ref b14)]))
    refine OutW.back (fun t k => XS.l2i X164.here hx rfl (hb hby at_251) rfl k) ?_
    show OutW _ _ _ _ _ _ _ (T164.setTop (mkF m 252 #[.val (.long q1), .second, .val (.int p2), .val (.int p3), .val (.int p4), .val (.int p5), .val (.int v1), .val (.int v2), .val (.long v3), .second, .val (.long v7), .second, .val (.int (5 : Int32)), .val (.int v13), .val (.ref b14), .unset] [(.int ((v7.toUInt64 >>> ((32 : Int32) &&& 0x3f).toInt64.toUInt64).toInt64).toInt32), (.int (9 : Int32)), (.ref b14)]))
    refine OutW.back (fun t k => XS.i2b X164.here hx rfl (hb hby at_252) rfl k) ?_
    show OutW _ _ _ _ _ _ _ (T164.setTop (mkF m 253 #[.val (.long q1), .second, .val (.int p2), .val (.int p3), .val (.int p4), .val (.int p5), .val (.int v1), .val (.int v2), .val (.long v3), .second, .val (.long v7), .second, .val (.int (5 : Int32)), .val (.int v13), .val (.ref b14), .unset] [(.int ((v7.toUInt64 >>> ((32 : Int32) &&& 0x3f).toInt64.toUInt64).toInt64).toInt32.toInt8.toInt32), (.int (9 : Int32)), (.ref b14)]))
    generalize hv_v165 : ((v7.toUInt64 >>> ((32 : Int32) &&& 0x3f).toInt64.toUInt64).toInt64).toInt32.toInt8.toInt32 = v165
    obtain ⟨cl166, Ar166, Qk166, Sz166, Nn166, Hh166, Gg166⟩ := id V_b14_164
    have hin166 : ¬ ((9 : Int32) < 0 ∨ cl166.slots.size ≤ ((9 : Int32)).toNatClampNeg) := inb_of Sz166 ⟨by decide, by decide⟩
    obtain ⟨T166, h166, X166, e166, W166, st166⟩ := stB X164 hx hZ e164 Ar166 (j := (9 : Int32)) hin166 (g := (mkF m 253 #[.val (.long q1), .second, .val (.int p2), .val (.int p3), .val (.int p4), .val (.int p5), .val (.int v1), .val (.int v2), .val (.long v3), .second, .val (.long v7), .second, .val (.int (5 : Int32)), .val (.int v13), .val (.ref b14), .unset] [(.int v165), (.int (9 : Int32)), (.ref b14)])) rfl rfl (hb hby at_253)
    have V_b14_166 : Arv Z h166 b14 k14 .byte (16 : Int32) [(.int (nar .byte v13)), (.int (nar .byte v13)), (.int (nar .byte v13)), (.int (nar .byte v13)), (.int (nar .byte v13)), (.int (nar .byte v157)), (.int (nar .byte v159)), (.int (nar .byte v161)), (.int (nar .byte v163)), (.int (nar .byte v165)), (.int (nar .byte v13)), (.int (nar .byte v13)), (.int (nar .byte v13)), (.int (nar .byte v13)), (.int (nar .byte v13)), (.int (nar .byte v13))] (.int (0 : Int32)) := Arv.set Ar166 Qk166 Sz166 Nn166 Hh166 Gg166 (fits_nar_byte _) W166 9 rfl (Nat.le_of_ble_eq_true rfl)
    have N166 := Fr.snoc X166 N164 g_b14
    have Z166 : n0 ≤ h166.size := Nat.le_trans Z164 (Keep.of_wr W166).1
    have K166 := K164.wr W166 (Or.inr sz_b14)
    obtain ⟨lc166, X166, N166⟩ : ∃ lc, Stand p l e room_1 s m #[(.long q1), (.int p2), (.int p3), (.int p4), (.int p5)] below meth c T166 lc 1 16 ∧ Fr n0 lc := ⟨_, X166, N166⟩
    refine OutW.back st166 ?_
    show OutW _ _ _ _ _ _ _ (T166.setTop (mkF m 254 #[.val (.long q1), .second, .val (.int p2), .val (.int p3), .val (.int p4), .val (.int p5), .val (.int v1), .val (.int v2), .val (.long v3), .second, .val (.long v7), .second, .val (.int (5 : Int32)), .val (.int v13), .val (.ref b14), .unset] []))
    refine OutW.back (fun t k => XS.aload X166.here hx rfl (hb hby at_254) rfl rfl  k) ?_
    show OutW _ _ _ _ _ _ _ (T166.setTop (mkF m 256 #[.val (.long q1), .second, .val (.int p2), .val (.int p3), .val (.int p4), .val (.int p5), .val (.int v1), .val (.int v2), .val (.long v3), .second, .val (.long v7), .second, .val (.int (5 : Int32)), .val (.int v13), .val (.ref b14), .unset] [(.ref b14)]))
    refine OutW.back (fun t k => XS.iload X166.here hx rfl (hb hby at_256) rfl  k) ?_
    show OutW _ _ _ _ _ _ _ (T166.setTop (mkF m 258 #[.val (.long q1), .second, .val (.int p2), .val (.int p3), .val (.int p4), .val (.int p5), .val (.int v1), .val (.int v2), .val (.long v3), .second, .val (.long v7), .second, .val (.int (5 : Int32)), .val (.int v13), .val (.ref b14), .unset] [(.int (5 : Int32)), (.ref b14)]))
    refine OutW.back (fun t k => XS.iconst X166.here hx rfl (hb hby at_258) k) ?_
    show OutW _ _ _ _ _ _ _ (T166.setTop (mkF m 259 #[.val (.long q1), .second, .val (.int p2), .val (.int p3), .val (.int p4), .val (.int p5), .val (.int v1), .val (.int v2), .val (.long v3), .second, .val (.long v7), .second, .val (.int (5 : Int32)), .val (.int v13), .val (.ref b14), .unset] [(.int (5 : Int32)), (.int (5 : Int32)), (.ref b14)]))
    refine OutW.back (fun t k => XS.iadd X166.here hx rfl (hb hby at_259) rfl k) ?_
    show OutW _ _ _ _ _ _ _ (T166.setTop (mkF m 260 #[.val (.long q1), .second, .val (.int p2), .val (.int p3), .val (.int p4), .val (.int p5), .val (.int v1), .val (.int v2), .val (.long v3), .second, .val (.long v7), .second, .val (.int (5 : Int32)), .val (.int v13), .val (.ref b14), .unset] [(.int ((5 : Int32) + (5 : Int32))), (.ref b14)]))
    rw [show ((5 : Int32) + (5 : Int32)) = (10 : Int32) from by decide]
    refine OutW.back (fun t k => XS.lload X166.here hx rfl (hb hby at_260) rfl  k) ?_
    show OutW _ _ _ _ _ _ _ (T166.setTop (mkF m 262 #[.val (.long q1), .second, .val (.int p2), .val (.int p3), .val (.int p4), .val (.int p5), .val (.int v1), .val (.int v2), .val (.long v3), .second, .val (.long v7), .second, .val (.int (5 : Int32)), .val (.int v13), .val (.ref b14), .unset] [(.long v7), (.int (10 : Int32)), (.ref b14)]))
    refine OutW.back (fun t k => XS.bipush X166.here hx rfl (hb hby at_262) k) ?_
    show OutW _ _ _ _ _ _ _ (T166.setTop (mkF m 264 #[.val (.long q1), .second, .val (.int p2), .val (.int p3), .val (.int p4), .val (.int p5), .val (.int v1), .val (.int v2), .val (.long v3), .second, .val (.long v7), .second, .val (.int (5 : Int32)), .val (.int v13), .val (.ref b14), .unset] [(.int (40 : Int32)), (.long v7), (.int (10 : Int32)), (.ref b14)]))
    refine OutW.back (fun t k => XS.lushr X166.here hx rfl (hb hby at_264) rfl k) ?_
    show OutW _ _ _ _ _ _ _ (T166.setTop (mkF m 265 #[.val (.long q1), .second, .val (.int p2), .val (.int p3), .val (.int p4), .val (.int p5), .val (.int v1), .val (.int v2), .val (.long v3), .second, .val (.long v7), .second, .val (.int (5 : Int32)), .val (.int v13), .val (.ref b14), .unset] [(.long ((v7.toUInt64 >>> ((40 : Int32) &&& 0x3f).toInt64.toUInt64).toInt64)), (.int (10 : Int32)), (.ref b14)]))
    refine OutW.back (fun t k => XS.l2i X166.here hx rfl (hb hby at_265) rfl k) ?_
    show OutW _ _ _ _ _ _ _ (T166.setTop (mkF m 266 #[.val (.long q1), .second, .val (.int p2), .val (.int p3), .val (.int p4), .val (.int p5), .val (.int v1), .val (.int v2), .val (.long v3), .second, .val (.long v7), .second, .val (.int (5 : Int32)), .val (.int v13), .val (.ref b14), .unset] [(.int ((v7.toUInt64 >>> ((40 : Int32) &&& 0x3f).toInt64.toUInt64).toInt64).toInt32), (.int (10 : Int32)), (.ref b14)]))
    refine OutW.back (fun t k => XS.i2b X166.here hx rfl (hb hby at_266) rfl k) ?_
    show OutW _ _ _ _ _ _ _ (T166.setTop (mkF m 267 #[.val (.long q1), .second, .val (.int p2), .val (.int p3), .val (.int p4), .val (.int p5), .val (.int v1), .val (.int v2), .val (.long v3), .second, .val (.long v7), .second, .val (.int (5 : Int32)), .val (.int v13), .val (.ref b14), .unset] [(.int ((v7.toUInt64 >>> ((40 : Int32) &&& 0x3f).toInt64.toUInt64).toInt64).toInt32.toInt8.toInt32), (.int (10 : Int32)), (.ref b14)]))
    generalize hv_v167 : ((v7.toUInt64 >>> ((40 : Int32) &&& 0x3f).toInt64.toUInt64).toInt64).toInt32.toInt8.toInt32 = v167
    obtain ⟨cl168, Ar168, Qk168, Sz168, Nn168, Hh168, Gg168⟩ := id V_b14_166
    have hin168 : ¬ ((10 : Int32) < 0 ∨ cl168.slots.size ≤ ((10 : Int32)).toNatClampNeg) := inb_of Sz168 ⟨by decide, by decide⟩
    obtain ⟨T168, h168, X168, e168, W168, st168⟩ := stB X166 hx hZ e166 Ar168 (j := (10 : Int32)) hin168 (g := (mkF m 267 #[.val (.long q1), .second, .val (.int p2), .val (.int p3), .val (.int p4), .val (.int p5), .val (.int v1), .val (.int v2), .val (.long v3), .second, .val (.long v7), .second, .val (.int (5 : Int32)), .val (.int v13), .val (.ref b14), .unset] [(.int v167), (.int (10 : Int32)), (.ref b14)])) rfl rfl (hb hby at_267)
    have V_b14_168 : Arv Z h168 b14 k14 .byte (16 : Int32) [(.int (nar .byte v13)), (.int (nar .byte v13)), (.int (nar .byte v13)), (.int (nar .byte v13)), (.int (nar .byte v13)), (.int (nar .byte v157)), (.int (nar .byte v159)), (.int (nar .byte v161)), (.int (nar .byte v163)), (.int (nar .byte v165)), (.int (nar .byte v167)), (.int (nar .byte v13)), (.int (nar .byte v13)), (.int (nar .byte v13)), (.int (nar .byte v13)), (.int (nar .byte v13))] (.int (0 : Int32)) := Arv.set Ar168 Qk168 Sz168 Nn168 Hh168 Gg168 (fits_nar_byte _) W168 10 rfl (Nat.le_of_ble_eq_true rfl)
    have N168 := Fr.snoc X168 N166 g_b14
    have Z168 : n0 ≤ h168.size := Nat.le_trans Z166 (Keep.of_wr W168).1
    have K168 := K166.wr W168 (Or.inr sz_b14)
    obtain ⟨lc168, X168, N168⟩ : ∃ lc, Stand p l e room_1 s m #[(.long q1), (.int p2), (.int p3), (.int p4), (.int p5)] below meth c T168 lc 1 16 ∧ Fr n0 lc := ⟨_, X168, N168⟩
    refine OutW.back st168 ?_
    show OutW _ _ _ _ _ _ _ (T168.setTop (mkF m 268 #[.val (.long q1), .second, .val (.int p2), .val (.int p3), .val (.int p4), .val (.int p5), .val (.int v1), .val (.int v2), .val (.long v3), .second, .val (.long v7), .second, .val (.int (5 : Int32)), .val (.int v13), .val (.ref b14), .unset] []))
    refine OutW.back (fun t k => XS.aload X168.here hx rfl (hb hby at_268) rfl rfl  k) ?_
    show OutW _ _ _ _ _ _ _ (T168.setTop (mkF m 270 #[.val (.long q1), .second, .val (.int p2), .val (.int p3), .val (.int p4), .val (.int p5), .val (.int v1), .val (.int v2), .val (.long v3), .second, .val (.long v7), .second, .val (.int (5 : Int32)), .val (.int v13), .val (.ref b14), .unset] [(.ref b14)]))
    refine OutW.back (fun t k => XS.iload X168.here hx rfl (hb hby at_270) rfl  k) ?_
    show OutW _ _ _ _ _ _ _ (T168.setTop (mkF m 272 #[.val (.long q1), .second, .val (.int p2), .val (.int p3), .val (.int p4), .val (.int p5), .val (.int v1), .val (.int v2), .val (.long v3), .second, .val (.long v7), .second, .val (.int (5 : Int32)), .val (.int v13), .val (.ref b14), .unset] [(.int (5 : Int32)), (.ref b14)]))
    refine OutW.back (fun t k => XS.bipush X168.here hx rfl (hb hby at_272) k) ?_
    show OutW _ _ _ _ _ _ _ (T168.setTop (mkF m 274 #[.val (.long q1), .second, .val (.int p2), .val (.int p3), .val (.int p4), .val (.int p5), .val (.int v1), .val (.int v2), .val (.long v3), .second, .val (.long v7), .second, .val (.int (5 : Int32)), .val (.int v13), .val (.ref b14), .unset] [(.int (6 : Int32)), (.int (5 : Int32)), (.ref b14)]))
    refine OutW.back (fun t k => XS.iadd X168.here hx rfl (hb hby at_274) rfl k) ?_
    show OutW _ _ _ _ _ _ _ (T168.setTop (mkF m 275 #[.val (.long q1), .second, .val (.int p2), .val (.int p3), .val (.int p4), .val (.int p5), .val (.int v1), .val (.int v2), .val (.long v3), .second, .val (.long v7), .second, .val (.int (5 : Int32)), .val (.int v13), .val (.ref b14), .unset] [(.int ((5 : Int32) + (6 : Int32))), (.ref b14)]))
    rw [show ((5 : Int32) + (6 : Int32)) = (11 : Int32) from by decide]
    refine OutW.back (fun t k => XS.lload X168.here hx rfl (hb hby at_275) rfl  k) ?_
    show OutW _ _ _ _ _ _ _ (T168.setTop (mkF m 277 #[.val (.long q1), .second, .val (.int p2), .val (.int p3), .val (.int p4), .val (.int p5), .val (.int v1), .val (.int v2), .val (.long v3), .second, .val (.long v7), .second, .val (.int (5 : Int32)), .val (.int v13), .val (.ref b14), .unset] [(.long v7), (.int (11 : Int32)), (.ref b14)]))
    refine OutW.back (fun t k => XS.bipush X168.here hx rfl (hb hby at_277) k) ?_
    show OutW _ _ _ _ _ _ _ (T168.setTop (mkF m 279 #[.val (.long q1), .second, .val (.int p2), .val (.int p3), .val (.int p4), .val (.int p5), .val (.int v1), .val (.int v2), .val (.long v3), .second, .val (.long v7), .second, .val (.int (5 : Int32)), .val (.int v13), .val (.ref b14), .unset] [(.int (48 : Int32)), (.long v7), (.int (11 : Int32)), (.ref b14)]))
    refine OutW.back (fun t k => XS.lushr X168.here hx rfl (hb hby at_279) rfl k) ?_
    show OutW _ _ _ _ _ _ _ (T168.setTop (mkF m 280 #[.val (.long q1), .second, .val (.int p2), .val (.int p3), .val (.int p4), .val (.int p5), .val (.int v1), .val (.int v2), .val (.long v3), .second, .val (.long v7), .second, .val (.int (5 : Int32)), .val (.int v13), .val (.ref b14), .unset] [(.long ((v7.toUInt64 >>> ((48 : Int32) &&& 0x3f).toInt64.toUInt64).toInt64)), (.int (11 : Int32)), (.ref b14)]))
    refine OutW.back (fun t k => XS.l2i X168.here hx rfl (hb hby at_280) rfl k) ?_
    show OutW _ _ _ _ _ _ _ (T168.setTop (mkF m 281 #[.val (.long q1), .second, .val (.int p2), .val (.int p3), .val (.int p4), .val (.int p5), .val (.int v1), .val (.int v2), .val (.long v3), .second, .val (.long v7), .second, .val (.int (5 : Int32)), .val (.int v13), .val (.ref b14), .unset] [(.int ((v7.toUInt64 >>> ((48 : Int32) &&& 0x3f).toInt64.toUInt64).toInt64).toInt32), (.int (11 : Int32)), (.ref b14)]))
    refine OutW.back (fun t k => XS.i2b X168.here hx rfl (hb hby at_281) rfl k) ?_
    show OutW _ _ _ _ _ _ _ (T168.setTop (mkF m 282 #[.val (.long q1), .second, .val (.int p2), .val (.int p3), .val (.int p4), .val (.int p5), .val (.int v1), .val (.int v2), .val (.long v3), .second, .val (.long v7), .second, .val (.int (5 : Int32)), .val (.int v13), .val (.ref b14), .unset] [(.int ((v7.toUInt64 >>> ((48 : Int32) &&& 0x3f).toInt64.toUInt64).toInt64).toInt32.toInt8.toInt32), (.int (11 : Int32)), (.ref b14)]))
    generalize hv_v169 : ((v7.toUInt64 >>> ((48 : Int32) &&& 0x3f).toInt64.toUInt64).toInt64).toInt32.toInt8.toInt32 = v169
    obtain ⟨cl170, Ar170, Qk170, Sz170, Nn170, Hh170, Gg170⟩ := id V_b14_168
    have hin170 : ¬ ((11 : Int32) < 0 ∨ cl170.slots.size ≤ ((11 : Int32)).toNatClampNeg) := inb_of Sz170 ⟨by decide, by decide⟩
    obtain ⟨T170, h170, X170, e170, W170, st170⟩ := stB X168 hx hZ e168 Ar170 (j := (11 : Int32)) hin170 (g := (mkF m 282 #[.val (.long q1), .second, .val (.int p2), .val (.int p3), .val (.int p4), .val (.int p5), .val (.int v1), .val (.int v2), .val (.long v3), .second, .val (.long v7), .second, .val (.int (5 : Int32)), .val (.int v13), .val (.ref b14), .unset] [(.int v169), (.int (11 : Int32)), (.ref b14)])) rfl rfl (hb hby at_282)
    have V_b14_170 : Arv Z h170 b14 k14 .byte (16 : Int32) [(.int (nar .byte v13)), (.int (nar .byte v13)), (.int (nar .byte v13)), (.int (nar .byte v13)), (.int (nar .byte v13)), (.int (nar .byte v157)), (.int (nar .byte v159)), (.int (nar .byte v161)), (.int (nar .byte v163)), (.int (nar .byte v165)), (.int (nar .byte v167)), (.int (nar .byte v169)), (.int (nar .byte v13)), (.int (nar .byte v13)), (.int (nar .byte v13)), (.int (nar .byte v13))] (.int (0 : Int32)) := Arv.set Ar170 Qk170 Sz170 Nn170 Hh170 Gg170 (fits_nar_byte _) W170 11 rfl (Nat.le_of_ble_eq_true rfl)
    have N170 := Fr.snoc X170 N168 g_b14
    have Z170 : n0 ≤ h170.size := Nat.le_trans Z168 (Keep.of_wr W170).1
    have K170 := K168.wr W170 (Or.inr sz_b14)
    obtain ⟨lc170, X170, N170⟩ : ∃ lc, Stand p l e room_1 s m #[(.long q1), (.int p2), (.int p3), (.int p4), (.int p5)] below meth c T170 lc 1 16 ∧ Fr n0 lc := ⟨_, X170, N170⟩
    refine OutW.back st170 ?_
    show OutW _ _ _ _ _ _ _ (T170.setTop (mkF m 283 #[.val (.long q1), .second, .val (.int p2), .val (.int p3), .val (.int p4), .val (.int p5), .val (.int v1), .val (.int v2), .val (.long v3), .second, .val (.long v7), .second, .val (.int (5 : Int32)), .val (.int v13), .val (.ref b14), .unset] []))
    refine OutW.back (fun t k => XS.aload X170.here hx rfl (hb hby at_283) rfl rfl  k) ?_
    show OutW _ _ _ _ _ _ _ (T170.setTop (mkF m 285 #[.val (.long q1), .second, .val (.int p2), .val (.int p3), .val (.int p4), .val (.int p5), .val (.int v1), .val (.int v2), .val (.long v3), .second, .val (.long v7), .second, .val (.int (5 : Int32)), .val (.int v13), .val (.ref b14), .unset] [(.ref b14)]))
    refine OutW.back (fun t k => XS.iload X170.here hx rfl (hb hby at_285) rfl  k) ?_
    show OutW _ _ _ _ _ _ _ (T170.setTop (mkF m 287 #[.val (.long q1), .second, .val (.int p2), .val (.int p3), .val (.int p4), .val (.int p5), .val (.int v1), .val (.int v2), .val (.long v3), .second, .val (.long v7), .second, .val (.int (5 : Int32)), .val (.int v13), .val (.ref b14), .unset] [(.int (5 : Int32)), (.ref b14)]))
    refine OutW.back (fun t k => XS.bipush X170.here hx rfl (hb hby at_287) k) ?_
    show OutW _ _ _ _ _ _ _ (T170.setTop (mkF m 289 #[.val (.long q1), .second, .val (.int p2), .val (.int p3), .val (.int p4), .val (.int p5), .val (.int v1), .val (.int v2), .val (.long v3), .second, .val (.long v7), .second, .val (.int (5 : Int32)), .val (.int v13), .val (.ref b14), .unset] [(.int (7 : Int32)), (.int (5 : Int32)), (.ref b14)]))
    refine OutW.back (fun t k => XS.iadd X170.here hx rfl (hb hby at_289) rfl k) ?_
    show OutW _ _ _ _ _ _ _ (T170.setTop (mkF m 290 #[.val (.long q1), .second, .val (.int p2), .val (.int p3), .val (.int p4), .val (.int p5), .val (.int v1), .val (.int v2), .val (.long v3), .second, .val (.long v7), .second, .val (.int (5 : Int32)), .val (.int v13), .val (.ref b14), .unset] [(.int ((5 : Int32) + (7 : Int32))), (.ref b14)]))
    rw [show ((5 : Int32) + (7 : Int32)) = (12 : Int32) from by decide]
    refine OutW.back (fun t k => XS.lload X170.here hx rfl (hb hby at_290) rfl  k) ?_
    show OutW _ _ _ _ _ _ _ (T170.setTop (mkF m 292 #[.val (.long q1), .second, .val (.int p2), .val (.int p3), .val (.int p4), .val (.int p5), .val (.int v1), .val (.int v2), .val (.long v3), .second, .val (.long v7), .second, .val (.int (5 : Int32)), .val (.int v13), .val (.ref b14), .unset] [(.long v7), (.int (12 : Int32)), (.ref b14)]))
    refine OutW.back (fun t k => XS.bipush X170.here hx rfl (hb hby at_292) k) ?_
    show OutW _ _ _ _ _ _ _ (T170.setTop (mkF m 294 #[.val (.long q1), .second, .val (.int p2), .val (.int p3), .val (.int p4), .val (.int p5), .val (.int v1), .val (.int v2), .val (.long v3), .second, .val (.long v7), .second, .val (.int (5 : Int32)), .val (.int v13), .val (.ref b14), .unset] [(.int (56 : Int32)), (.long v7), (.int (12 : Int32)), (.ref b14)]))
    refine OutW.back (fun t k => XS.lushr X170.here hx rfl (hb hby at_294) rfl k) ?_
    show OutW _ _ _ _ _ _ _ (T170.setTop (mkF m 295 #[.val (.long q1), .second, .val (.int p2), .val (.int p3), .val (.int p4), .val (.int p5), .val (.int v1), .val (.int v2), .val (.long v3), .second, .val (.long v7), .second, .val (.int (5 : Int32)), .val (.int v13), .val (.ref b14), .unset] [(.long ((v7.toUInt64 >>> ((56 : Int32) &&& 0x3f).toInt64.toUInt64).toInt64)), (.int (12 : Int32)), (.ref b14)]))
    refine OutW.back (fun t k => XS.l2i X170.here hx rfl (hb hby at_295) rfl k) ?_
    show OutW _ _ _ _ _ _ _ (T170.setTop (mkF m 296 #[.val (.long q1), .second, .val (.int p2), .val (.int p3), .val (.int p4), .val (.int p5), .val (.int v1), .val (.int v2), .val (.long v3), .second, .val (.long v7), .second, .val (.int (5 : Int32)), .val (.int v13), .val (.ref b14), .unset] [(.int ((v7.toUInt64 >>> ((56 : Int32) &&& 0x3f).toInt64.toUInt64).toInt64).toInt32), (.int (12 : Int32)), (.ref b14)]))
    refine OutW.back (fun t k => XS.i2b X170.here hx rfl (hb hby at_296) rfl k) ?_
    show OutW _ _ _ _ _ _ _ (T170.setTop (mkF m 297 #[.val (.long q1), .second, .val (.int p2), .val (.int p3), .val (.int p4), .val (.int p5), .val (.int v1), .val (.int v2), .val (.long v3), .second, .val (.long v7), .second, .val (.int (5 : Int32)), .val (.int v13), .val (.ref b14), .unset] [(.int ((v7.toUInt64 >>> ((56 : Int32) &&& 0x3f).toInt64.toUInt64).toInt64).toInt32.toInt8.toInt32), (.int (12 : Int32)), (.ref b14)]))
    generalize hv_v171 : ((v7.toUInt64 >>> ((56 : Int32) &&& 0x3f).toInt64.toUInt64).toInt64).toInt32.toInt8.toInt32 = v171
    obtain ⟨cl172, Ar172, Qk172, Sz172, Nn172, Hh172, Gg172⟩ := id V_b14_170
    have hin172 : ¬ ((12 : Int32) < 0 ∨ cl172.slots.size ≤ ((12 : Int32)).toNatClampNeg) := inb_of Sz172 ⟨by decide, by decide⟩
    obtain ⟨T172, h172, X172, e172, W172, st172⟩ := stB X170 hx hZ e170 Ar172 (j := (12 : Int32)) hin172 (g := (mkF m 297 #[.val (.long q1), .second, .val (.int p2), .val (.int p3), .val (.int p4), .val (.int p5), .val (.int v1), .val (.int v2), .val (.long v3), .second, .val (.long v7), .second, .val (.int (5 : Int32)), .val (.int v13), .val (.ref b14), .unset] [(.int v171), (.int (12 : Int32)), (.ref b14)])) rfl rfl (hb hby at_297)
    have V_b14_172 : Arv Z h172 b14 k14 .byte (16 : Int32) [(.int (nar .byte v13)), (.int (nar .byte v13)), (.int (nar .byte v13)), (.int (nar .byte v13)), (.int (nar .byte v13)), (.int (nar .byte v157)), (.int (nar .byte v159)), (.int (nar .byte v161)), (.int (nar .byte v163)), (.int (nar .byte v165)), (.int (nar .byte v167)), (.int (nar .byte v169)), (.int (nar .byte v171)), (.int (nar .byte v13)), (.int (nar .byte v13)), (.int (nar .byte v13))] (.int (0 : Int32)) := Arv.set Ar172 Qk172 Sz172 Nn172 Hh172 Gg172 (fits_nar_byte _) W172 12 rfl (Nat.le_of_ble_eq_true rfl)
    have N172 := Fr.snoc X172 N170 g_b14
    have Z172 : n0 ≤ h172.size := Nat.le_trans Z170 (Keep.of_wr W172).1
    have K172 := K170.wr W172 (Or.inr sz_b14)
    obtain ⟨lc172, X172, N172⟩ : ∃ lc, Stand p l e room_1 s m #[(.long q1), (.int p2), (.int p3), (.int p4), (.int p5)] below meth c T172 lc 1 16 ∧ Fr n0 lc := ⟨_, X172, N172⟩
    refine OutW.back st172 ?_
    show OutW _ _ _ _ _ _ _ (T172.setTop (mkF m 298 #[.val (.long q1), .second, .val (.int p2), .val (.int p3), .val (.int p4), .val (.int p5), .val (.int v1), .val (.int v2), .val (.long v3), .second, .val (.long v7), .second, .val (.int (5 : Int32)), .val (.int v13), .val (.ref b14), .unset] []))
    refine OutW.back (fun t k => XS.lload X172.here hx rfl (hb hby at_298) rfl  k) ?_
    show OutW _ _ _ _ _ _ _ (T172.setTop (mkF m 300 #[.val (.long q1), .second, .val (.int p2), .val (.int p3), .val (.int p4), .val (.int p5), .val (.int v1), .val (.int v2), .val (.long v3), .second, .val (.long v7), .second, .val (.int (5 : Int32)), .val (.int v13), .val (.ref b14), .unset] [(.long v7)]))
    refine OutW.back (X172.ldc2Long hx hown (mvT hZ (hw _ (List.mem_of_getElem? (i := 1) rfl))) (g := (mkF m 300 #[.val (.long q1), .second, .val (.int p2), .val (.int p3), .val (.int p4), .val (.int p5), .val (.int v1), .val (.int v2), .val (.long v3), .second, .val (.long v7), .second, .val (.int (5 : Int32)), .val (.int v13), .val (.ref b14), .unset] [(.long v7)])) rfl (hb hby at_300)) ?_
    show OutW _ _ _ _ _ _ _ (T172.setTop (mkF m 303 #[.val (.long q1), .second, .val (.int p2), .val (.int p3), .val (.int p4), .val (.int p5), .val (.int v1), .val (.int v2), .val (.long v3), .second, .val (.long v7), .second, .val (.int (5 : Int32)), .val (.int v13), .val (.ref b14), .unset] [(.long (-9223372036854775808 : Int64)), (.long v7)]))
    refine OutW.back (fun t k => XS.lcmp X172.here hx rfl (hb hby at_303) rfl k) ?_
    show OutW _ _ _ _ _ _ _ (T172.setTop (mkF m 304 #[.val (.long q1), .second, .val (.int p2), .val (.int p3), .val (.int p4), .val (.int p5), .val (.int v1), .val (.int v2), .val (.long v3), .second, .val (.long v7), .second, .val (.int (5 : Int32)), .val (.int v13), .val (.ref b14), .unset] [(.int (lcmpW v7 (-9223372036854775808 : Int64)))]))
    obtain ⟨v174, hv_v174⟩ : ∃ z : Int32, z = (if v7 = (-9223372036854775808 : Int64) then (1 : Int32) else (0 : Int32)) := ⟨_, rfl⟩
    have j175 : ∀ t, Steps p.tables e below (T172.setTop (mkF m 312 #[.val (.long q1), .second, .val (.int p2), .val (.int p3), .val (.int p4), .val (.int p5), .val (.int v1), .val (.int v2), .val (.long v3), .second, .val (.long v7), .second, .val (.int (5 : Int32)), .val (.int v13), .val (.ref b14), .unset] [(.int v174)])) t → Steps p.tables e below (T172.setTop (mkF m 304 #[.val (.long q1), .second, .val (.int p2), .val (.int p3), .val (.int p4), .val (.int p5), .val (.int v1), .val (.int v2), .val (.long v3), .second, .val (.long v7), .second, .val (.int (5 : Int32)), .val (.int v13), .val (.ref b14), .unset] [(.int (lcmpW v7 (-9223372036854775808 : Int64)))])) t := by
      intro t k
      by_cases c304_176 : v7 = (-9223372036854775808 : Int64)
      · skip
        refine XS.ifNo X172.here hx rfl (hb hby at_304) rfl ((if0 _ _).trans (teq ((lw_eq _ _).mpr c304_176)).2) ?_
        show Steps p.tables e below (T172.setTop (mkF m 307 #[.val (.long q1), .second, .val (.int p2), .val (.int p3), .val (.int p4), .val (.int p5), .val (.int v1), .val (.int v2), .val (.long v3), .second, .val (.long v7), .second, .val (.int (5 : Int32)), .val (.int v13), .val (.ref b14), .unset] [])) t
        refine XS.iconst X172.here hx rfl (hb hby at_307) ?_
        show Steps p.tables e below (T172.setTop (mkF m 308 #[.val (.long q1), .second, .val (.int p2), .val (.int p3), .val (.int p4), .val (.int p5), .val (.int v1), .val (.int v2), .val (.long v3), .second, .val (.long v7), .second, .val (.int (5 : Int32)), .val (.int v13), .val (.ref b14), .unset] [(.int (1 : Int32))])) t
        refine XS.goto X172.here hx rfl (pc0 := 308) (pc' := 312) rfl (hb hby at_308) (by decide) (by decide) ?_
        show Steps p.tables e below (T172.setTop (mkF m 312 #[.val (.long q1), .second, .val (.int p2), .val (.int p3), .val (.int p4), .val (.int p5), .val (.int v1), .val (.int v2), .val (.long v3), .second, .val (.long v7), .second, .val (.int (5 : Int32)), .val (.int v13), .val (.ref b14), .unset] [(.int (1 : Int32))])) t
        have q_v174 : v174 = (1 : Int32) := by rw [hv_v174, if_pos c304_176]
        rw [q_v174] at k
        exact k
      · skip
        refine XS.ifYes X172.here hx rfl (pc0 := 304) (pc' := 311) rfl (hb hby at_304) rfl ((if0 _ _).trans (feq (fun q => c304_176 ((lw_eq _ _).mp q))).2) (by decide) (by decide) ?_
        show Steps p.tables e below (T172.setTop (mkF m 311 #[.val (.long q1), .second, .val (.int p2), .val (.int p3), .val (.int p4), .val (.int p5), .val (.int v1), .val (.int v2), .val (.long v3), .second, .val (.long v7), .second, .val (.int (5 : Int32)), .val (.int v13), .val (.ref b14), .unset] [])) t
        refine XS.iconst X172.here hx rfl (hb hby at_311) ?_
        show Steps p.tables e below (T172.setTop (mkF m 312 #[.val (.long q1), .second, .val (.int p2), .val (.int p3), .val (.int p4), .val (.int p5), .val (.int v1), .val (.int v2), .val (.long v3), .second, .val (.long v7), .second, .val (.int (5 : Int32)), .val (.int v13), .val (.ref b14), .unset] [(.int (0 : Int32))])) t
        have q_v174 : v174 = (0 : Int32) := by rw [hv_v174, if_neg c304_176]
        rw [q_v174] at k
        exact k
    refine OutW.back j175 ?_
    show OutW _ _ _ _ _ _ _ (T172.setTop (mkF m 312 #[.val (.long q1), .second, .val (.int p2), .val (.int p3), .val (.int p4), .val (.int p5), .val (.int v1), .val (.int v2), .val (.long v3), .second, .val (.long v7), .second, .val (.int (5 : Int32)), .val (.int v13), .val (.ref b14), .unset] [(.int v174)]))
    refine OutW.back (fun t k => XS.istore X172.here hx rfl (hb hby at_312) rfl (l' := #[.val (.long q1), .second, .val (.int p2), .val (.int p3), .val (.int p4), .val (.int p5), .val (.int v1), .val (.int v2), .val (.long v3), .second, .val (.long v7), .second, .val (.int (5 : Int32)), .val (.int v13), .val (.ref b14), .val (.int v174)]) rfl k) ?_
    show OutW _ _ _ _ _ _ _ (T172.setTop (mkF m 314 #[.val (.long q1), .second, .val (.int p2), .val (.int p3), .val (.int p4), .val (.int p5), .val (.int v1), .val (.int v2), .val (.long v3), .second, .val (.long v7), .second, .val (.int (5 : Int32)), .val (.int v13), .val (.ref b14), .val (.int v174)] []))
    refine OutW.back (fun t k => XS.aload X172.here hx rfl (hb hby at_314) rfl rfl  k) ?_
    show OutW _ _ _ _ _ _ _ (T172.setTop (mkF m 316 #[.val (.long q1), .second, .val (.int p2), .val (.int p3), .val (.int p4), .val (.int p5), .val (.int v1), .val (.int v2), .val (.long v3), .second, .val (.long v7), .second, .val (.int (5 : Int32)), .val (.int v13), .val (.ref b14), .val (.int v174)] [(.ref b14)]))
    refine OutW.back (fun t k => XS.iload X172.here hx rfl (hb hby at_316) rfl  k) ?_
    show OutW _ _ _ _ _ _ _ (T172.setTop (mkF m 318 #[.val (.long q1), .second, .val (.int p2), .val (.int p3), .val (.int p4), .val (.int p5), .val (.int v1), .val (.int v2), .val (.long v3), .second, .val (.long v7), .second, .val (.int (5 : Int32)), .val (.int v13), .val (.ref b14), .val (.int v174)] [(.int (5 : Int32)), (.ref b14)]))
    obtain ⟨_, _, ⟨T177, L177, k177, n177⟩, -, X177, ⟨Lc177, hQ177, l177, y177, z177⟩, st177⟩ := Jvm.LawKit.callS X172 hx (y := (⟨"com/example/patchloom/patchloom/delta/SignMagnitude", "isNegativeZero", "([BI)Z"⟩ : MethodName)) hown (mvT hZ (hw _ (List.mem_of_getElem? (i := 3) rfl))) (mvT hZ (hw _ (List.mem_of_getElem? (i := 4) rfl))) (mvT hZ (hw _ (List.mem_of_getElem? (i := 5) rfl))) (mvT hZ (hw _ (List.mem_of_getElem? (i := 6) rfl))) (by decide) (backOf (W := 0) (rm1_5 l Z a0 hw [] b14 (nar .byte v13) (nar .byte v13) (nar .byte v13) (nar .byte v13) (nar .byte v13) (nar .byte v157) (nar .byte v159) (nar .byte v161) (nar .byte v163) (nar .byte v165) (nar .byte v167) (nar .byte v169) (nar .byte v171) (nar .byte v13) (nar .byte v13) (nar .byte v13) k14 h172 n0 Z172 V_b14_172) hZ (hw _ (List.mem_of_getElem? (i := 6) rfl)) (hw _ (List.mem_of_getElem? (i := 5) rfl)) (by decide) (by decide)) (g := (mkF m 318 #[.val (.long q1), .second, .val (.int p2), .val (.int p3), .val (.int p4), .val (.int p5), .val (.int v1), .val (.int v2), .val (.long v3), .second, .val (.long v7), .second, .val (.int (5 : Int32)), .val (.int v13), .val (.ref b14), .val (.int v174)] [(.int (5 : Int32)), (.ref b14)])) rfl (by rw [hml]; rfl) (argsL := [(.ref b14), (.int (5 : Int32))]) (rest := []) (lenOf pd_0 rfl) rfl (by show 2 * 0 + _ ≤ _; exact Nat.le_of_eq rfl) (hb hby at_318) (fun _ _ => ⟨rfl, e172, (by decide : 1 + 0 ≤ _), (by decide : 16 + 0 ≤ _)⟩)
    dsimp only [Pt.U, Pt.locs, Pt.cells, Pt.slots] at X177 l177 y177 z177 st177 hQ177
    subst l177 y177 z177
    obtain ⟨rfl, Nq177, e177⟩ := hQ177
    have N177 := Fr.app N172 Nq177
    obtain ⟨lc177, X177, N177⟩ : ∃ lc, Stand p l e room_1 s m #[(.long q1), (.int p2), (.int p3), (.int p4), (.int p5)] below meth c T177 lc 1 16 ∧ Fr n0 lc := ⟨_, X177, N177⟩
    refine OutW.back st177 ?_
    show OutW _ _ _ _ _ _ _ (T177.setTop (mkF m 321 #[.val (.long q1), .second, .val (.int p2), .val (.int p3), .val (.int p4), .val (.int p5), .val (.int v1), .val (.int v2), .val (.long v3), .second, .val (.long v7), .second, .val (.int (5 : Int32)), .val (.int v13), .val (.ref b14), .val (.int v174)] [(.int (negz5 (nar .byte v157) (nar .byte v159) (nar .byte v161) (nar .byte v163) (nar .byte v165) (nar .byte v167) (nar .byte v169) (nar .byte v171)))]))
    refine OutW.back (fun t k => XS.iload X177.here hx rfl (hb hby at_321) rfl  k) ?_
    show OutW _ _ _ _ _ _ _ (T177.setTop (mkF m 323 #[.val (.long q1), .second, .val (.int p2), .val (.int p3), .val (.int p4), .val (.int p5), .val (.int v1), .val (.int v2), .val (.long v3), .second, .val (.long v7), .second, .val (.int (5 : Int32)), .val (.int v13), .val (.ref b14), .val (.int v174)] [(.int v174), (.int (negz5 (nar .byte v157) (nar .byte v159) (nar .byte v161) (nar .byte v163) (nar .byte v165) (nar .byte v167) (nar .byte v169) (nar .byte v171)))]))
    obtain ⟨v179, hv_v179⟩ : ∃ z : Int32, z = (if (negz5 (nar .byte v157) (nar .byte v159) (nar .byte v161) (nar .byte v163) (nar .byte v165) (nar .byte v167) (nar .byte v169) (nar .byte v171)) = v174 then (1 : Int32) else (0 : Int32)) := ⟨_, rfl⟩
    have j180 : ∀ t, Steps p.tables e below (T177.setTop (mkF m 331 #[.val (.long q1), .second, .val (.int p2), .val (.int p3), .val (.int p4), .val (.int p5), .val (.int v1), .val (.int v2), .val (.long v3), .second, .val (.long v7), .second, .val (.int (5 : Int32)), .val (.int v13), .val (.ref b14), .val (.int v174)] [(.int v179)])) t → Steps p.tables e below (T177.setTop (mkF m 323 #[.val (.long q1), .second, .val (.int p2), .val (.int p3), .val (.int p4), .val (.int p5), .val (.int v1), .val (.int v2), .val (.long v3), .second, .val (.long v7), .second, .val (.int (5 : Int32)), .val (.int v13), .val (.ref b14), .val (.int v174)] [(.int v174), (.int (negz5 (nar .byte v157) (nar .byte v159) (nar .byte v161) (nar .byte v163) (nar .byte v165) (nar .byte v167) (nar .byte v169) (nar .byte v171)))])) t := by
      intro t k
      by_cases c323_181 : (negz5 (nar .byte v157) (nar .byte v159) (nar .byte v161) (nar .byte v163) (nar .byte v165) (nar .byte v167) (nar .byte v169) (nar .byte v171)) = v174
      · skip
        refine XS.icmpNo X177.here hx rfl (hb hby at_323) rfl (teq c323_181).2 ?_
        show Steps p.tables e below (T177.setTop (mkF m 326 #[.val (.long q1), .second, .val (.int p2), .val (.int p3), .val (.int p4), .val (.int p5), .val (.int v1), .val (.int v2), .val (.long v3), .second, .val (.long v7), .second, .val (.int (5 : Int32)), .val (.int v13), .val (.ref b14), .val (.int v174)] [])) t
        refine XS.iconst X177.here hx rfl (hb hby at_326) ?_
        show Steps p.tables e below (T177.setTop (mkF m 327 #[.val (.long q1), .second, .val (.int p2), .val (.int p3), .val (.int p4), .val (.int p5), .val (.int v1), .val (.int v2), .val (.long v3), .second, .val (.long v7), .second, .val (.int (5 : Int32)), .val (.int v13), .val (.ref b14), .val (.int v174)] [(.int (1 : Int32))])) t
        refine XS.goto X177.here hx rfl (pc0 := 327) (pc' := 331) rfl (hb hby at_327) (by decide) (by decide) ?_
        show Steps p.tables e below (T177.setTop (mkF m 331 #[.val (.long q1), .second, .val (.int p2), .val (.int p3), .val (.int p4), .val (.int p5), .val (.int v1), .val (.int v2), .val (.long v3), .second, .val (.long v7), .second, .val (.int (5 : Int32)), .val (.int v13), .val (.ref b14), .val (.int v174)] [(.int (1 : Int32))])) t
        have q_v179 : v179 = (1 : Int32) := by rw [hv_v179, if_pos c323_181]
        rw [q_v179] at k
        exact k
      · skip
        refine XS.icmpYes X177.here hx rfl (pc0 := 323) (pc' := 330) rfl (hb hby at_323) rfl (feq c323_181).2 (by decide) (by decide) ?_
        show Steps p.tables e below (T177.setTop (mkF m 330 #[.val (.long q1), .second, .val (.int p2), .val (.int p3), .val (.int p4), .val (.int p5), .val (.int v1), .val (.int v2), .val (.long v3), .second, .val (.long v7), .second, .val (.int (5 : Int32)), .val (.int v13), .val (.ref b14), .val (.int v174)] [])) t
        refine XS.iconst X177.here hx rfl (hb hby at_330) ?_
        show Steps p.tables e below (T177.setTop (mkF m 331 #[.val (.long q1), .second, .val (.int p2), .val (.int p3), .val (.int p4), .val (.int p5), .val (.int v1), .val (.int v2), .val (.long v3), .second, .val (.long v7), .second, .val (.int (5 : Int32)), .val (.int v13), .val (.ref b14), .val (.int v174)] [(.int (0 : Int32))])) t
        have q_v179 : v179 = (0 : Int32) := by rw [hv_v179, if_neg c323_181]
        rw [q_v179] at k
        exact k
    refine OutW.back j180 ?_
    show OutW _ _ _ _ _ _ _ (T177.setTop (mkF m 331 #[.val (.long q1), .second, .val (.int p2), .val (.int p3), .val (.int p4), .val (.int p5), .val (.int v1), .val (.int v2), .val (.long v3), .second, .val (.long v7), .second, .val (.int (5 : Int32)), .val (.int v13), .val (.ref b14), .val (.int v174)] [(.int v179)]))
    refine OutW.retN X177 hx (t := .boolean) (z' := 1) Bd.returns (by simp) hlk (hb hby at_331) ?hz (by decide) (by decide) ?_
    case hz =>
      have hfin : v179 = (1 : Int32) := by
        have e : (negz5 (nar .byte v157) (nar .byte v159) (nar .byte v161) (nar .byte v163) (nar .byte v165) (nar .byte v167) (nar .byte v169) (nar .byte v171)) = v174 := by
          rw [← hv_v157, ← hv_v159, ← hv_v161, ← hv_v163, ← hv_v165, ← hv_v167, ← hv_v169, ← hv_v171, hv_v174]
          exact own_neg _
        rw [hv_v179, if_pos e]
      rw [hfin]; rfl
    show Q0 Z q1 p2 p3 p4 p5 h0 n0 _ T177.heap _
    rw [e177]
    exact ⟨rfl, N177⟩
  · skip
    show OutW _ _ _ _ _ _ _ (T30.setTop (mkF m 189 #[.val (.long q1), .second, .val (.int p2), .val (.int p3), .val (.int p4), .val (.int p5), .val (.int v1), .val (.int v2), .val (.long v3), .second, .val (.long v7), .second, .val (.int (6 : Int32)), .val (.int v13), .val (.ref b14), .unset] []))
    refine OutW.back (fun t k => XS.aload X30.here hx rfl (hb hby at_189) rfl rfl  k) ?_
    show OutW _ _ _ _ _ _ _ (T30.setTop (mkF m 191 #[.val (.long q1), .second, .val (.int p2), .val (.int p3), .val (.int p4), .val (.int p5), .val (.int v1), .val (.int v2), .val (.long v3), .second, .val (.long v7), .second, .val (.int (6 : Int32)), .val (.int v13), .val (.ref b14), .unset] [(.ref b14)]))
    refine OutW.back (fun t k => XS.iload X30.here hx rfl (hb hby at_191) rfl  k) ?_
    show OutW _ _ _ _ _ _ _ (T30.setTop (mkF m 193 #[.val (.long q1), .second, .val (.int p2), .val (.int p3), .val (.int p4), .val (.int p5), .val (.int v1), .val (.int v2), .val (.long v3), .second, .val (.long v7), .second, .val (.int (6 : Int32)), .val (.int v13), .val (.ref b14), .unset] [(.int (6 : Int32)), (.ref b14)]))
    refine OutW.back (fun t k => XS.lload X30.here hx rfl (hb hby at_193) rfl  k) ?_
    show OutW _ _ _ _ _ _ _ (T30.setTop (mkF m 195 #[.val (.long q1), .second, .val (.int p2), .val (.int p3), .val (.int p4), .val (.int p5), .val (.int v1), .val (.int v2), .val (.long v3), .second, .val (.long v7), .second, .val (.int (6 : Int32)), .val (.int v13), .val (.ref b14), .unset] [(.long v7), (.int (6 : Int32)), (.ref b14)]))
    refine OutW.back (fun t k => XS.l2i X30.here hx rfl (hb hby at_195) rfl k) ?_
    show OutW _ _ _ _ _ _ _ (T30.setTop (mkF m 196 #[.val (.long q1), .second, .val (.int p2), .val (.int p3), .val (.int p4), .val (.int p5), .val (.int v1), .val (.int v2), .val (.long v3), .second, .val (.long v7), .second, .val (.int (6 : Int32)), .val (.int v13), .val (.ref b14), .unset] [(.int v7.toInt32), (.int (6 : Int32)), (.ref b14)]))
    refine OutW.back (fun t k => XS.i2b X30.here hx rfl (hb hby at_196) rfl k) ?_
    show OutW _ _ _ _ _ _ _ (T30.setTop (mkF m 197 #[.val (.long q1), .second, .val (.int p2), .val (.int p3), .val (.int p4), .val (.int p5), .val (.int v1), .val (.int v2), .val (.long v3), .second, .val (.long v7), .second, .val (.int (6 : Int32)), .val (.int v13), .val (.ref b14), .unset] [(.int v7.toInt32.toInt8.toInt32), (.int (6 : Int32)), (.ref b14)]))
    generalize hv_v182 : v7.toInt32.toInt8.toInt32 = v182
    obtain ⟨cl183, Ar183, Qk183, Sz183, Nn183, Hh183, Gg183⟩ := id V_b14_30
    have hin183 : ¬ ((6 : Int32) < 0 ∨ cl183.slots.size ≤ ((6 : Int32)).toNatClampNeg) := inb_of Sz183 ⟨by decide, by decide⟩
    obtain ⟨T183, h183, X183, e183, W183, st183⟩ := stB X30 hx hZ e30 Ar183 (j := (6 : Int32)) hin183 (g := (mkF m 197 #[.val (.long q1), .second, .val (.int p2), .val (.int p3), .val (.int p4), .val (.int p5), .val (.int v1), .val (.int v2), .val (.long v3), .second, .val (.long v7), .second, .val (.int (6 : Int32)), .val (.int v13), .val (.ref b14), .unset] [(.int v182), (.int (6 : Int32)), (.ref b14)])) rfl rfl (hb hby at_197)
    have V_b14_183 : Arv Z h183 b14 k14 .byte (16 : Int32) [(.int (nar .byte v13)), (.int (nar .byte v13)), (.int (nar .byte v13)), (.int (nar .byte v13)), (.int (nar .byte v13)), (.int (nar .byte v13)), (.int (nar .byte v182)), (.int (nar .byte v13)), (.int (nar .byte v13)), (.int (nar .byte v13)), (.int (nar .byte v13)), (.int (nar .byte v13)), (.int (nar .byte v13)), (.int (nar .byte v13)), (.int (nar .byte v13)), (.int (nar .byte v13))] (.int (0 : Int32)) := Arv.set Ar183 Qk183 Sz183 Nn183 Hh183 Gg183 (fits_nar_byte _) W183 6 rfl (Nat.le_of_ble_eq_true rfl)
    have N183 := Fr.snoc X183 N30 g_b14
    have Z183 : n0 ≤ h183.size := Nat.le_trans Z30 (Keep.of_wr W183).1
    have K183 := K30.wr W183 (Or.inr sz_b14)
    obtain ⟨lc183, X183, N183⟩ : ∃ lc, Stand p l e room_1 s m #[(.long q1), (.int p2), (.int p3), (.int p4), (.int p5)] below meth c T183 lc 1 16 ∧ Fr n0 lc := ⟨_, X183, N183⟩
    refine OutW.back st183 ?_
    show OutW _ _ _ _ _ _ _ (T183.setTop (mkF m 198 #[.val (.long q1), .second, .val (.int p2), .val (.int p3), .val (.int p4), .val (.int p5), .val (.int v1), .val (.int v2), .val (.long v3), .second, .val (.long v7), .second, .val (.int (6 : Int32)), .val (.int v13), .val (.ref b14), .unset] []))
    refine OutW.back (fun t k => XS.aload X183.here hx rfl (hb hby at_198) rfl rfl  k) ?_
    show OutW _ _ _ _ _ _ _ (T183.setTop (mkF m 200 #[.val (.long q1), .second, .val (.int p2), .val (.int p3), .val (.int p4), .val (.int p5), .val (.int v1), .val (.int v2), .val (.long v3), .second, .val (.long v7), .second, .val (.int (6 : Int32)), .val (.int v13), .val (.ref b14), .unset] [(.ref b14)]))
    refine OutW.back (fun t k => XS.iload X183.here hx rfl (hb hby at_200) rfl  k) ?_
    show OutW _ _ _ _ _ _ _ (T183.setTop (mkF m 202 #[.val (.long q1), .second, .val (.int p2), .val (.int p3), .val (.int p4), .val (.int p5), .val (.int v1), .val (.int v2), .val (.long v3), .second, .val (.long v7), .second, .val (.int (6 : Int32)), .val (.int v13), .val (.ref b14), .unset] [(.int (6 : Int32)), (.ref b14)]))
    refine OutW.back (fun t k => XS.iconst X183.here hx rfl (hb hby at_202) k) ?_
    show OutW _ _ _ _ _ _ _ (T183.setTop (mkF m 203 #[.val (.long q1), .second, .val (.int p2), .val (.int p3), .val (.int p4), .val (.int p5), .val (.int v1), .val (.int v2), .val (.long v3), .second, .val (.long v7), .second, .val (.int (6 : Int32)), .val (.int v13), .val (.ref b14), .unset] [(.int (1 : Int32)), (.int (6 : Int32)), (.ref b14)]))
    refine OutW.back (fun t k => XS.iadd X183.here hx rfl (hb hby at_203) rfl k) ?_
    show OutW _ _ _ _ _ _ _ (T183.setTop (mkF m 204 #[.val (.long q1), .second, .val (.int p2), .val (.int p3), .val (.int p4), .val (.int p5), .val (.int v1), .val (.int v2), .val (.long v3), .second, .val (.long v7), .second, .val (.int (6 : Int32)), .val (.int v13), .val (.ref b14), .unset] [(.int ((6 : Int32) + (1 : Int32))), (.ref b14)]))
    rw [show ((6 : Int32) + (1 : Int32)) = (7 : Int32) from by decide]
    refine OutW.back (fun t k => XS.lload X183.here hx rfl (hb hby at_204) rfl  k) ?_
    show OutW _ _ _ _ _ _ _ (T183.setTop (mkF m 206 #[.val (.long q1), .second, .val (.int p2), .val (.int p3), .val (.int p4), .val (.int p5), .val (.int v1), .val (.int v2), .val (.long v3), .second, .val (.long v7), .second, .val (.int (6 : Int32)), .val (.int v13), .val (.ref b14), .unset] [(.long v7), (.int (7 : Int32)), (.ref b14)]))
    refine OutW.back (fun t k => XS.bipush X183.here hx rfl (hb hby at_206) k) ?_
    show OutW _ _ _ _ _ _ _ (T183.setTop (mkF m 208 #[.val (.long q1), .second, .val (.int p2), .val (.int p3), .val (.int p4), .val (.int p5), .val (.int v1), .val (.int v2), .val (.long v3), .second, .val (.long v7), .second, .val (.int (6 : Int32)), .val (.int v13), .val (.ref b14), .unset] [(.int (8 : Int32)), (.long v7), (.int (7 : Int32)), (.ref b14)]))
    refine OutW.back (fun t k => XS.lushr X183.here hx rfl (hb hby at_208) rfl k) ?_
    show OutW _ _ _ _ _ _ _ (T183.setTop (mkF m 209 #[.val (.long q1), .second, .val (.int p2), .val (.int p3), .val (.int p4), .val (.int p5), .val (.int v1), .val (.int v2), .val (.long v3), .second, .val (.long v7), .second, .val (.int (6 : Int32)), .val (.int v13), .val (.ref b14), .unset] [(.long ((v7.toUInt64 >>> ((8 : Int32) &&& 0x3f).toInt64.toUInt64).toInt64)), (.int (7 : Int32)), (.ref b14)]))
    refine OutW.back (fun t k => XS.l2i X183.here hx rfl (hb hby at_209) rfl k) ?_
    show OutW _ _ _ _ _ _ _ (T183.setTop (mkF m 210 #[.val (.long q1), .second, .val (.int p2), .val (.int p3), .val (.int p4), .val (.int p5), .val (.int v1), .val (.int v2), .val (.long v3), .second, .val (.long v7), .second, .val (.int (6 : Int32)), .val (.int v13), .val (.ref b14), .unset] [(.int ((v7.toUInt64 >>> ((8 : Int32) &&& 0x3f).toInt64.toUInt64).toInt64).toInt32), (.int (7 : Int32)), (.ref b14)]))
    refine OutW.back (fun t k => XS.i2b X183.here hx rfl (hb hby at_210) rfl k) ?_
    show OutW _ _ _ _ _ _ _ (T183.setTop (mkF m 211 #[.val (.long q1), .second, .val (.int p2), .val (.int p3), .val (.int p4), .val (.int p5), .val (.int v1), .val (.int v2), .val (.long v3), .second, .val (.long v7), .second, .val (.int (6 : Int32)), .val (.int v13), .val (.ref b14), .unset] [(.int ((v7.toUInt64 >>> ((8 : Int32) &&& 0x3f).toInt64.toUInt64).toInt64).toInt32.toInt8.toInt32), (.int (7 : Int32)), (.ref b14)]))
    generalize hv_v184 : ((v7.toUInt64 >>> ((8 : Int32) &&& 0x3f).toInt64.toUInt64).toInt64).toInt32.toInt8.toInt32 = v184
    obtain ⟨cl185, Ar185, Qk185, Sz185, Nn185, Hh185, Gg185⟩ := id V_b14_183
    have hin185 : ¬ ((7 : Int32) < 0 ∨ cl185.slots.size ≤ ((7 : Int32)).toNatClampNeg) := inb_of Sz185 ⟨by decide, by decide⟩
    obtain ⟨T185, h185, X185, e185, W185, st185⟩ := stB X183 hx hZ e183 Ar185 (j := (7 : Int32)) hin185 (g := (mkF m 211 #[.val (.long q1), .second, .val (.int p2), .val (.int p3), .val (.int p4), .val (.int p5), .val (.int v1), .val (.int v2), .val (.long v3), .second, .val (.long v7), .second, .val (.int (6 : Int32)), .val (.int v13), .val (.ref b14), .unset] [(.int v184), (.int (7 : Int32)), (.ref b14)])) rfl rfl (hb hby at_211)
    have V_b14_185 : Arv Z h185 b14 k14 .byte (16 : Int32) [(.int (nar .byte v13)), (.int (nar .byte v13)), (.int (nar .byte v13)), (.int (nar .byte v13)), (.int (nar .byte v13)), (.int (nar .byte v13)), (.int (nar .byte v182)), (.int (nar .byte v184)), (.int (nar .byte v13)), (.int (nar .byte v13)), (.int (nar .byte v13)), (.int (nar .byte v13)), (.int (nar .byte v13)), (.int (nar .byte v13)), (.int (nar .byte v13)), (.int (nar .byte v13))] (.int (0 : Int32)) := Arv.set Ar185 Qk185 Sz185 Nn185 Hh185 Gg185 (fits_nar_byte _) W185 7 rfl (Nat.le_of_ble_eq_true rfl)
    have N185 := Fr.snoc X185 N183 g_b14
    have Z185 : n0 ≤ h185.size := Nat.le_trans Z183 (Keep.of_wr W185).1
    have K185 := K183.wr W185 (Or.inr sz_b14)
    obtain ⟨lc185, X185, N185⟩ : ∃ lc, Stand p l e room_1 s m #[(.long q1), (.int p2), (.int p3), (.int p4), (.int p5)] below meth c T185 lc 1 16 ∧ Fr n0 lc := ⟨_, X185, N185⟩
    refine OutW.back st185 ?_
    show OutW _ _ _ _ _ _ _ (T185.setTop (mkF m 212 #[.val (.long q1), .second, .val (.int p2), .val (.int p3), .val (.int p4), .val (.int p5), .val (.int v1), .val (.int v2), .val (.long v3), .second, .val (.long v7), .second, .val (.int (6 : Int32)), .val (.int v13), .val (.ref b14), .unset] []))
    refine OutW.back (fun t k => XS.aload X185.here hx rfl (hb hby at_212) rfl rfl  k) ?_
    show OutW _ _ _ _ _ _ _ (T185.setTop (mkF m 214 #[.val (.long q1), .second, .val (.int p2), .val (.int p3), .val (.int p4), .val (.int p5), .val (.int v1), .val (.int v2), .val (.long v3), .second, .val (.long v7), .second, .val (.int (6 : Int32)), .val (.int v13), .val (.ref b14), .unset] [(.ref b14)]))
    refine OutW.back (fun t k => XS.iload X185.here hx rfl (hb hby at_214) rfl  k) ?_
    show OutW _ _ _ _ _ _ _ (T185.setTop (mkF m 216 #[.val (.long q1), .second, .val (.int p2), .val (.int p3), .val (.int p4), .val (.int p5), .val (.int v1), .val (.int v2), .val (.long v3), .second, .val (.long v7), .second, .val (.int (6 : Int32)), .val (.int v13), .val (.ref b14), .unset] [(.int (6 : Int32)), (.ref b14)]))
    refine OutW.back (fun t k => XS.iconst X185.here hx rfl (hb hby at_216) k) ?_
    show OutW _ _ _ _ _ _ _ (T185.setTop (mkF m 217 #[.val (.long q1), .second, .val (.int p2), .val (.int p3), .val (.int p4), .val (.int p5), .val (.int v1), .val (.int v2), .val (.long v3), .second, .val (.long v7), .second, .val (.int (6 : Int32)), .val (.int v13), .val (.ref b14), .unset] [(.int (2 : Int32)), (.int (6 : Int32)), (.ref b14)]))
    refine OutW.back (fun t k => XS.iadd X185.here hx rfl (hb hby at_217) rfl k) ?_
    show OutW _ _ _ _ _ _ _ (T185.setTop (mkF m 218 #[.val (.long q1), .second, .val (.int p2), .val (.int p3), .val (.int p4), .val (.int p5), .val (.int v1), .val (.int v2), .val (.long v3), .second, .val (.long v7), .second, .val (.int (6 : Int32)), .val (.int v13), .val (.ref b14), .unset] [(.int ((6 : Int32) + (2 : Int32))), (.ref b14)]))
    rw [show ((6 : Int32) + (2 : Int32)) = (8 : Int32) from by decide]
    refine OutW.back (fun t k => XS.lload X185.here hx rfl (hb hby at_218) rfl  k) ?_
    show OutW _ _ _ _ _ _ _ (T185.setTop (mkF m 220 #[.val (.long q1), .second, .val (.int p2), .val (.int p3), .val (.int p4), .val (.int p5), .val (.int v1), .val (.int v2), .val (.long v3), .second, .val (.long v7), .second, .val (.int (6 : Int32)), .val (.int v13), .val (.ref b14), .unset] [(.long v7), (.int (8 : Int32)), (.ref b14)]))
    refine OutW.back (fun t k => XS.bipush X185.here hx rfl (hb hby at_220) k) ?_
    show OutW _ _ _ _ _ _ _ (T185.setTop (mkF m 222 #[.val (.long q1), .second, .val (.int p2), .val (.int p3), .val (.int p4), .val (.int p5), .val (.int v1), .val (.int v2), .val (.long v3), .second, .val (.long v7), .second, .val (.int (6 : Int32)), .val (.int v13), .val (.ref b14), .unset] [(.int (16 : Int32)), (.long v7), (.int (8 : Int32)), (.ref b14)]))
    refine OutW.back (fun t k => XS.lushr X185.here hx rfl (hb hby at_222) rfl k) ?_
    show OutW _ _ _ _ _ _ _ (T185.setTop (mkF m 223 #[.val (.long q1), .second, .val (.int p2), .val (.int p3), .val (.int p4), .val (.int p5), .val (.int v1), .val (.int v2), .val (.long v3), .second, .val (.long v7), .second, .val (.int (6 : Int32)), .val (.int v13), .val (.ref b14), .unset] [(.long ((v7.toUInt64 >>> ((16 : Int32) &&& 0x3f).toInt64.toUInt64).toInt64)), (.int (8 : Int32)), (.ref b14)]))
    refine OutW.back (fun t k => XS.l2i X185.here hx rfl (hb hby at_223) rfl k) ?_
    show OutW _ _ _ _ _ _ _ (T185.setTop (mkF m 224 #[.val (.long q1), .second, .val (.int p2), .val (.int p3), .val (.int p4), .val (.int p5), .val (.int v1), .val (.int v2), .val (.long v3), .second, .val (.long v7), .second, .val (.int (6 : Int32)), .val (.int v13), .val (.ref b14), .unset] [(.int ((v7.toUInt64 >>> ((16 : Int32) &&& 0x3f).toInt64.toUInt64).toInt64).toInt32), (.int (8 : Int32)), (.ref b14)]))
    refine OutW.back (fun t k => XS.i2b X185.here hx rfl (hb hby at_224) rfl k) ?_
    show OutW _ _ _ _ _ _ _ (T185.setTop (mkF m 225 #[.val (.long q1), .second, .val (.int p2), .val (.int p3), .val (.int p4), .val (.int p5), .val (.int v1), .val (.int v2), .val (.long v3), .second, .val (.long v7), .second, .val (.int (6 : Int32)), .val (.int v13), .val (.ref b14), .unset] [(.int ((v7.toUInt64 >>> ((16 : Int32) &&& 0x3f).toInt64.toUInt64).toInt64).toInt32.toInt8.toInt32), (.int (8 : Int32)), (.ref b14)]))
    generalize hv_v186 : ((v7.toUInt64 >>> ((16 : Int32) &&& 0x3f).toInt64.toUInt64).toInt64).toInt32.toInt8.toInt32 = v186
    obtain ⟨cl187, Ar187, Qk187, Sz187, Nn187, Hh187, Gg187⟩ := id V_b14_185
    have hin187 : ¬ ((8 : Int32) < 0 ∨ cl187.slots.size ≤ ((8 : Int32)).toNatClampNeg) := inb_of Sz187 ⟨by decide, by decide⟩
    obtain ⟨T187, h187, X187, e187, W187, st187⟩ := stB X185 hx hZ e185 Ar187 (j := (8 : Int32)) hin187 (g := (mkF m 225 #[.val (.long q1), .second, .val (.int p2), .val (.int p3), .val (.int p4), .val (.int p5), .val (.int v1), .val (.int v2), .val (.long v3), .second, .val (.long v7), .second, .val (.int (6 : Int32)), .val (.int v13), .val (.ref b14), .unset] [(.int v186), (.int (8 : Int32)), (.ref b14)])) rfl rfl (hb hby at_225)
    have V_b14_187 : Arv Z h187 b14 k14 .byte (16 : Int32) [(.int (nar .byte v13)), (.int (nar .byte v13)), (.int (nar .byte v13)), (.int (nar .byte v13)), (.int (nar .byte v13)), (.int (nar .byte v13)), (.int (nar .byte v182)), (.int (nar .byte v184)), (.int (nar .byte v186)), (.int (nar .byte v13)), (.int (nar .byte v13)), (.int (nar .byte v13)), (.int (nar .byte v13)), (.int (nar .byte v13)), (.int (nar .byte v13)), (.int (nar .byte v13))] (.int (0 : Int32)) := Arv.set Ar187 Qk187 Sz187 Nn187 Hh187 Gg187 (fits_nar_byte _) W187 8 rfl (Nat.le_of_ble_eq_true rfl)
    have N187 := Fr.snoc X187 N185 g_b14
    have Z187 : n0 ≤ h187.size := Nat.le_trans Z185 (Keep.of_wr W187).1
    have K187 := K185.wr W187 (Or.inr sz_b14)
    obtain ⟨lc187, X187, N187⟩ : ∃ lc, Stand p l e room_1 s m #[(.long q1), (.int p2), (.int p3), (.int p4), (.int p5)] below meth c T187 lc 1 16 ∧ Fr n0 lc := ⟨_, X187, N187⟩
    refine OutW.back st187 ?_
    show OutW _ _ _ _ _ _ _ (T187.setTop (mkF m 226 #[.val (.long q1), .second, .val (.int p2), .val (.int p3), .val (.int p4), .val (.int p5), .val (.int v1), .val (.int v2), .val (.long v3), .second, .val (.long v7), .second, .val (.int (6 : Int32)), .val (.int v13), .val (.ref b14), .unset] []))
    refine OutW.back (fun t k => XS.aload X187.here hx rfl (hb hby at_226) rfl rfl  k) ?_
    show OutW _ _ _ _ _ _ _ (T187.setTop (mkF m 228 #[.val (.long q1), .second, .val (.int p2), .val (.int p3), .val (.int p4), .val (.int p5), .val (.int v1), .val (.int v2), .val (.long v3), .second, .val (.long v7), .second, .val (.int (6 : Int32)), .val (.int v13), .val (.ref b14), .unset] [(.ref b14)]))
    refine OutW.back (fun t k => XS.iload X187.here hx rfl (hb hby at_228) rfl  k) ?_
    show OutW _ _ _ _ _ _ _ (T187.setTop (mkF m 230 #[.val (.long q1), .second, .val (.int p2), .val (.int p3), .val (.int p4), .val (.int p5), .val (.int v1), .val (.int v2), .val (.long v3), .second, .val (.long v7), .second, .val (.int (6 : Int32)), .val (.int v13), .val (.ref b14), .unset] [(.int (6 : Int32)), (.ref b14)]))
    refine OutW.back (fun t k => XS.iconst X187.here hx rfl (hb hby at_230) k) ?_
    show OutW _ _ _ _ _ _ _ (T187.setTop (mkF m 231 #[.val (.long q1), .second, .val (.int p2), .val (.int p3), .val (.int p4), .val (.int p5), .val (.int v1), .val (.int v2), .val (.long v3), .second, .val (.long v7), .second, .val (.int (6 : Int32)), .val (.int v13), .val (.ref b14), .unset] [(.int (3 : Int32)), (.int (6 : Int32)), (.ref b14)]))
    refine OutW.back (fun t k => XS.iadd X187.here hx rfl (hb hby at_231) rfl k) ?_
    show OutW _ _ _ _ _ _ _ (T187.setTop (mkF m 232 #[.val (.long q1), .second, .val (.int p2), .val (.int p3), .val (.int p4), .val (.int p5), .val (.int v1), .val (.int v2), .val (.long v3), .second, .val (.long v7), .second, .val (.int (6 : Int32)), .val (.int v13), .val (.ref b14), .unset] [(.int ((6 : Int32) + (3 : Int32))), (.ref b14)]))
    rw [show ((6 : Int32) + (3 : Int32)) = (9 : Int32) from by decide]
    refine OutW.back (fun t k => XS.lload X187.here hx rfl (hb hby at_232) rfl  k) ?_
    show OutW _ _ _ _ _ _ _ (T187.setTop (mkF m 234 #[.val (.long q1), .second, .val (.int p2), .val (.int p3), .val (.int p4), .val (.int p5), .val (.int v1), .val (.int v2), .val (.long v3), .second, .val (.long v7), .second, .val (.int (6 : Int32)), .val (.int v13), .val (.ref b14), .unset] [(.long v7), (.int (9 : Int32)), (.ref b14)]))
    refine OutW.back (fun t k => XS.bipush X187.here hx rfl (hb hby at_234) k) ?_
    show OutW _ _ _ _ _ _ _ (T187.setTop (mkF m 236 #[.val (.long q1), .second, .val (.int p2), .val (.int p3), .val (.int p4), .val (.int p5), .val (.int v1), .val (.int v2), .val (.long v3), .second, .val (.long v7), .second, .val (.int (6 : Int32)), .val (.int v13), .val (.ref b14), .unset] [(.int (24 : Int32)), (.long v7), (.int (9 : Int32)), (.ref b14)]))
    refine OutW.back (fun t k => XS.lushr X187.here hx rfl (hb hby at_236) rfl k) ?_
    show OutW _ _ _ _ _ _ _ (T187.setTop (mkF m 237 #[.val (.long q1), .second, .val (.int p2), .val (.int p3), .val (.int p4), .val (.int p5), .val (.int v1), .val (.int v2), .val (.long v3), .second, .val (.long v7), .second, .val (.int (6 : Int32)), .val (.int v13), .val (.ref b14), .unset] [(.long ((v7.toUInt64 >>> ((24 : Int32) &&& 0x3f).toInt64.toUInt64).toInt64)), (.int (9 : Int32)), (.ref b14)]))
    refine OutW.back (fun t k => XS.l2i X187.here hx rfl (hb hby at_237) rfl k) ?_
    show OutW _ _ _ _ _ _ _ (T187.setTop (mkF m 238 #[.val (.long q1), .second, .val (.int p2), .val (.int p3), .val (.int p4), .val (.int p5), .val (.int v1), .val (.int v2), .val (.long v3), .second, .val (.long v7), .second, .val (.int (6 : Int32)), .val (.int v13), .val (.ref b14), .unset] [(.int ((v7.toUInt64 >>> ((24 : Int32) &&& 0x3f).toInt64.toUInt64).toInt64).toInt32), (.int (9 : Int32)), (.ref b14)]))
    refine OutW.back (fun t k => XS.i2b X187.here hx rfl (hb hby at_238) rfl k) ?_
    show OutW _ _ _ _ _ _ _ (T187.setTop (mkF m 239 #[.val (.long q1), .second, .val (.int p2), .val (.int p3), .val (.int p4), .val (.int p5), .val (.int v1), .val (.int v2), .val (.long v3), .second, .val (.long v7), .second, .val (.int (6 : Int32)), .val (.int v13), .val (.ref b14), .unset] [(.int ((v7.toUInt64 >>> ((24 : Int32) &&& 0x3f).toInt64.toUInt64).toInt64).toInt32.toInt8.toInt32), (.int (9 : Int32)), (.ref b14)]))
    generalize hv_v188 : ((v7.toUInt64 >>> ((24 : Int32) &&& 0x3f).toInt64.toUInt64).toInt64).toInt32.toInt8.toInt32 = v188
    obtain ⟨cl189, Ar189, Qk189, Sz189, Nn189, Hh189, Gg189⟩ := id V_b14_187
    have hin189 : ¬ ((9 : Int32) < 0 ∨ cl189.slots.size ≤ ((9 : Int32)).toNatClampNeg) := inb_of Sz189 ⟨by decide, by decide⟩
    obtain ⟨T189, h189, X189, e189, W189, st189⟩ := stB X187 hx hZ e187 Ar189 (j := (9 : Int32)) hin189 (g := (mkF m 239 #[.val (.long q1), .second, .val (.int p2), .val (.int p3), .val (.int p4), .val (.int p5), .val (.int v1), .val (.int v2), .val (.long v3), .second, .val (.long v7), .second, .val (.int (6 : Int32)), .val (.int v13), .val (.ref b14), .unset] [(.int v188), (.int (9 : Int32)), (.ref b14)])) rfl rfl (hb hby at_239)
    have V_b14_189 : Arv Z h189 b14 k14 .byte (16 : Int32) [(.int (nar .byte v13)), (.int (nar .byte v13)), (.int (nar .byte v13)), (.int (nar .byte v13)), (.int (nar .byte v13)), (.int (nar .byte v13)), (.int (nar .byte v182)), (.int (nar .byte v184)), (.int (nar .byte v186)), (.int (nar .byte v188)), (.int (nar .byte v13)), (.int (nar .byte v13)), (.int (nar .byte v13)), (.int (nar .byte v13)), (.int (nar .byte v13)), (.int (nar .byte v13))] (.int (0 : Int32)) := Arv.set Ar189 Qk189 Sz189 Nn189 Hh189 Gg189 (fits_nar_byte _) W189 9 rfl (Nat.le_of_ble_eq_true rfl)
    have N189 := Fr.snoc X189 N187 g_b14
    have Z189 : n0 ≤ h189.size := Nat.le_trans Z187 (Keep.of_wr W189).1
    have K189 := K187.wr W189 (Or.inr sz_b14)
    obtain ⟨lc189, X189, N189⟩ : ∃ lc, Stand p l e room_1 s m #[(.long q1), (.int p2), (.int p3), (.int p4), (.int p5)] below meth c T189 lc 1 16 ∧ Fr n0 lc := ⟨_, X189, N189⟩
    refine OutW.back st189 ?_
    show OutW _ _ _ _ _ _ _ (T189.setTop (mkF m 240 #[.val (.long q1), .second, .val (.int p2), .val (.int p3), .val (.int p4), .val (.int p5), .val (.int v1), .val (.int v2), .val (.long v3), .second, .val (.long v7), .second, .val (.int (6 : Int32)), .val (.int v13), .val (.ref b14), .unset] []))
    refine OutW.back (fun t k => XS.aload X189.here hx rfl (hb hby at_240) rfl rfl  k) ?_
    show OutW _ _ _ _ _ _ _ (T189.setTop (mkF m 242 #[.val (.long q1), .second, .val (.int p2), .val (.int p3), .val (.int p4), .val (.int p5), .val (.int v1), .val (.int v2), .val (.long v3), .second, .val (.long v7), .second, .val (.int (6 : Int32)), .val (.int v13), .val (.ref b14), .unset] [(.ref b14)]))
    refine OutW.back (fun t k => XS.iload X189.here hx rfl (hb hby at_242) rfl  k) ?_
    show OutW _ _ _ _ _ _ _ (T189.setTop (mkF m 244 #[.val (.long q1), .second, .val (.int p2), .val (.int p3), .val (.int p4), .val (.int p5), .val (.int v1), .val (.int v2), .val (.long v3), .second, .val (.long v7), .second, .val (.int (6 : Int32)), .val (.int v13), .val (.ref b14), .unset] [(.int (6 : Int32)), (.ref b14)]))
    refine OutW.back (fun t k => XS.iconst X189.here hx rfl (hb hby at_244) k) ?_
    show OutW _ _ _ _ _ _ _ (T189.setTop (mkF m 245 #[.val (.long q1), .second, .val (.int p2), .val (.int p3), .val (.int p4), .val (.int p5), .val (.int v1), .val (.int v2), .val (.long v3), .second, .val (.long v7), .second, .val (.int (6 : Int32)), .val (.int v13), .val (.ref b14), .unset] [(.int (4 : Int32)), (.int (6 : Int32)), (.ref b14)]))
    refine OutW.back (fun t k => XS.iadd X189.here hx rfl (hb hby at_245) rfl k) ?_
    show OutW _ _ _ _ _ _ _ (T189.setTop (mkF m 246 #[.val (.long q1), .second, .val (.int p2), .val (.int p3), .val (.int p4), .val (.int p5), .val (.int v1), .val (.int v2), .val (.long v3), .second, .val (.long v7), .second, .val (.int (6 : Int32)), .val (.int v13), .val (.ref b14), .unset] [(.int ((6 : Int32) + (4 : Int32))), (.ref b14)]))
    rw [show ((6 : Int32) + (4 : Int32)) = (10 : Int32) from by decide]
    refine OutW.back (fun t k => XS.lload X189.here hx rfl (hb hby at_246) rfl  k) ?_
    show OutW _ _ _ _ _ _ _ (T189.setTop (mkF m 248 #[.val (.long q1), .second, .val (.int p2), .val (.int p3), .val (.int p4), .val (.int p5), .val (.int v1), .val (.int v2), .val (.long v3), .second, .val (.long v7), .second, .val (.int (6 : Int32)), .val (.int v13), .val (.ref b14), .unset] [(.long v7), (.int (10 : Int32)), (.ref b14)]))
    refine OutW.back (fun t k => XS.bipush X189.here hx rfl (hb hby at_248) k) ?_
    show OutW _ _ _ _ _ _ _ (T189.setTop (mkF m 250 #[.val (.long q1), .second, .val (.int p2), .val (.int p3), .val (.int p4), .val (.int p5), .val (.int v1), .val (.int v2), .val (.long v3), .second, .val (.long v7), .second, .val (.int (6 : Int32)), .val (.int v13), .val (.ref b14), .unset] [(.int (32 : Int32)), (.long v7), (.int (10 : Int32)), (.ref b14)]))
    refine OutW.back (fun t k => XS.lushr X189.here hx rfl (hb hby at_250) rfl k) ?_
    show OutW _ _ _ _ _ _ _ (T189.setTop (mkF m 251 #[.val (.long q1), .second, .val (.int p2), .val (.int p3), .val (.int p4), .val (.int p5), .val (.int v1), .val (.int v2), .val (.long v3), .second, .val (.long v7), .second, .val (.int (6 : Int32)), .val (.int v13), .val (.ref b14), .unset] [(.long ((v7.toUInt64 >>> ((32 : Int32) &&& 0x3f).toInt64.toUInt64).toInt64)), (.int (10 : Int32)), (.ref b14)]))
    refine OutW.back (fun t k => XS.l2i X189.here hx rfl (hb hby at_251) rfl k) ?_
    show OutW _ _ _ _ _ _ _ (T189.setTop (mkF m 252 #[.val (.long q1), .second, .val (.int p2), .val (.int p3), .val (.int p4), .val (.int p5), .val (.int v1), .val (.int v2), .val (.long v3), .second, .val (.long v7), .second, .val (.int (6 : Int32)), .val (.int v13), .val (.ref b14), .unset] [(.int ((v7.toUInt64 >>> ((32 : Int32) &&& 0x3f).toInt64.toUInt64).toInt64).toInt32), (.int (10 : Int32)), (.ref b14)]))
    refine OutW.back (fun t k => XS.i2b X189.here hx rfl (hb hby at_252) rfl k) ?_
    show OutW _ _ _ _ _ _ _ (T189.setTop (mkF m 253 #[.val (.long q1), .second, .val (.int p2), .val (.int p3), .val (.int p4), .val (.int p5), .val (.int v1), .val (.int v2), .val (.long v3), .second, .val (.long v7), .second, .val (.int (6 : Int32)), .val (.int v13), .val (.ref b14), .unset] [(.int ((v7.toUInt64 >>> ((32 : Int32) &&& 0x3f).toInt64.toUInt64).toInt64).toInt32.toInt8.toInt32), (.int (10 : Int32)), (.ref b14)]))
    generalize hv_v190 : ((v7.toUInt64 >>> ((32 : Int32) &&& 0x3f).toInt64.toUInt64).toInt64).toInt32.toInt8.toInt32 = v190
    obtain ⟨cl191, Ar191, Qk191, Sz191, Nn191, Hh191, Gg191⟩ := id V_b14_189
    have hin191 : ¬ ((10 : Int32) < 0 ∨ cl191.slots.size ≤ ((10 : Int32)).toNatClampNeg) := inb_of Sz191 ⟨by decide, by decide⟩
    obtain ⟨T191, h191, X191, e191, W191, st191⟩ := stB X189 hx hZ e189 Ar191 (j := (10 : Int32)) hin191 (g := (mkF m 253 #[.val (.long q1), .second, .val (.int p2), .val (.int p3), .val (.int p4), .val (.int p5), .val (.int v1), .val (.int v2), .val (.long v3), .second, .val (.long v7), .second, .val (.int (6 : Int32)), .val (.int v13), .val (.ref b14), .unset] [(.int v190), (.int (10 : Int32)), (.ref b14)])) rfl rfl (hb hby at_253)
    have V_b14_191 : Arv Z h191 b14 k14 .byte (16 : Int32) [(.int (nar .byte v13)), (.int (nar .byte v13)), (.int (nar .byte v13)), (.int (nar .byte v13)), (.int (nar .byte v13)), (.int (nar .byte v13)), (.int (nar .byte v182)), (.int (nar .byte v184)), (.int (nar .byte v186)), (.int (nar .byte v188)), (.int (nar .byte v190)), (.int (nar .byte v13)), (.int (nar .byte v13)), (.int (nar .byte v13)), (.int (nar .byte v13)), (.int (nar .byte v13))] (.int (0 : Int32)) := Arv.set Ar191 Qk191 Sz191 Nn191 Hh191 Gg191 (fits_nar_byte _) W191 10 rfl (Nat.le_of_ble_eq_true rfl)
    have N191 := Fr.snoc X191 N189 g_b14
    have Z191 : n0 ≤ h191.size := Nat.le_trans Z189 (Keep.of_wr W191).1
    have K191 := K189.wr W191 (Or.inr sz_b14)
    obtain ⟨lc191, X191, N191⟩ : ∃ lc, Stand p l e room_1 s m #[(.long q1), (.int p2), (.int p3), (.int p4), (.int p5)] below meth c T191 lc 1 16 ∧ Fr n0 lc := ⟨_, X191, N191⟩
    refine OutW.back st191 ?_
    show OutW _ _ _ _ _ _ _ (T191.setTop (mkF m 254 #[.val (.long q1), .second, .val (.int p2), .val (.int p3), .val (.int p4), .val (.int p5), .val (.int v1), .val (.int v2), .val (.long v3), .second, .val (.long v7), .second, .val (.int (6 : Int32)), .val (.int v13), .val (.ref b14), .unset] []))
    refine OutW.back (fun t k => XS.aload X191.here hx rfl (hb hby at_254) rfl rfl  k) ?_
    show OutW _ _ _ _ _ _ _ (T191.setTop (mkF m 256 #[.val (.long q1), .second, .val (.int p2), .val (.int p3), .val (.int p4), .val (.int p5), .val (.int v1), .val (.int v2), .val (.long v3), .second, .val (.long v7), .second, .val (.int (6 : Int32)), .val (.int v13), .val (.ref b14), .unset] [(.ref b14)]))
    refine OutW.back (fun t k => XS.iload X191.here hx rfl (hb hby at_256) rfl  k) ?_
    show OutW _ _ _ _ _ _ _ (T191.setTop (mkF m 258 #[.val (.long q1), .second, .val (.int p2), .val (.int p3), .val (.int p4), .val (.int p5), .val (.int v1), .val (.int v2), .val (.long v3), .second, .val (.long v7), .second, .val (.int (6 : Int32)), .val (.int v13), .val (.ref b14), .unset] [(.int (6 : Int32)), (.ref b14)]))
    refine OutW.back (fun t k => XS.iconst X191.here hx rfl (hb hby at_258) k) ?_
    show OutW _ _ _ _ _ _ _ (T191.setTop (mkF m 259 #[.val (.long q1), .second, .val (.int p2), .val (.int p3), .val (.int p4), .val (.int p5), .val (.int v1), .val (.int v2), .val (.long v3), .second, .val (.long v7), .second, .val (.int (6 : Int32)), .val (.int v13), .val (.ref b14), .unset] [(.int (5 : Int32)), (.int (6 : Int32)), (.ref b14)]))
    refine OutW.back (fun t k => XS.iadd X191.here hx rfl (hb hby at_259) rfl k) ?_
    show OutW _ _ _ _ _ _ _ (T191.setTop (mkF m 260 #[.val (.long q1), .second, .val (.int p2), .val (.int p3), .val (.int p4), .val (.int p5), .val (.int v1), .val (.int v2), .val (.long v3), .second, .val (.long v7), .second, .val (.int (6 : Int32)), .val (.int v13), .val (.ref b14), .unset] [(.int ((6 : Int32) + (5 : Int32))), (.ref b14)]))
    rw [show ((6 : Int32) + (5 : Int32)) = (11 : Int32) from by decide]
    refine OutW.back (fun t k => XS.lload X191.here hx rfl (hb hby at_260) rfl  k) ?_
    show OutW _ _ _ _ _ _ _ (T191.setTop (mkF m 262 #[.val (.long q1), .second, .val (.int p2), .val (.int p3), .val (.int p4), .val (.int p5), .val (.int v1), .val (.int v2), .val (.long v3), .second, .val (.long v7), .second, .val (.int (6 : Int32)), .val (.int v13), .val (.ref b14), .unset] [(.long v7), (.int (11 : Int32)), (.ref b14)]))
    refine OutW.back (fun t k => XS.bipush X191.here hx rfl (hb hby at_262) k) ?_
    show OutW _ _ _ _ _ _ _ (T191.setTop (mkF m 264 #[.val (.long q1), .second, .val (.int p2), .val (.int p3), .val (.int p4), .val (.int p5), .val (.int v1), .val (.int v2), .val (.long v3), .second, .val (.long v7), .second, .val (.int (6 : Int32)), .val (.int v13), .val (.ref b14), .unset] [(.int (40 : Int32)), (.long v7), (.int (11 : Int32)), (.ref b14)]))
    refine OutW.back (fun t k => XS.lushr X191.here hx rfl (hb hby at_264) rfl k) ?_
    show OutW _ _ _ _ _ _ _ (T191.setTop (mkF m 265 #[.val (.long q1), .second, .val (.int p2), .val (.int p3), .val (.int p4), .val (.int p5), .val (.int v1), .val (.int v2), .val (.long v3), .second, .val (.long v7), .second, .val (.int (6 : Int32)), .val (.int v13), .val (.ref b14), .unset] [(.long ((v7.toUInt64 >>> ((40 : Int32) &&& 0x3f).toInt64.toUInt64).toInt64)), (.int (11 : Int32)), (.ref b14)]))
    refine OutW.back (fun t k => XS.l2i X191.here hx rfl (hb hby at_265) rfl k) ?_
    show OutW _ _ _ _ _ _ _ (T191.setTop (mkF m 266 #[.val (.long q1), .second, .val (.int p2), .val (.int p3), .val (.int p4), .val (.int p5), .val (.int v1), .val (.int v2), .val (.long v3), .second, .val (.long v7), .second, .val (.int (6 : Int32)), .val (.int v13), .val (.ref b14), .unset] [(.int ((v7.toUInt64 >>> ((40 : Int32) &&& 0x3f).toInt64.toUInt64).toInt64).toInt32), (.int (11 : Int32)), (.ref b14)]))
    refine OutW.back (fun t k => XS.i2b X191.here hx rfl (hb hby at_266) rfl k) ?_
    show OutW _ _ _ _ _ _ _ (T191.setTop (mkF m 267 #[.val (.long q1), .second, .val (.int p2), .val (.int p3), .val (.int p4), .val (.int p5), .val (.int v1), .val (.int v2), .val (.long v3), .second, .val (.long v7), .second, .val (.int (6 : Int32)), .val (.int v13), .val (.ref b14), .unset] [(.int ((v7.toUInt64 >>> ((40 : Int32) &&& 0x3f).toInt64.toUInt64).toInt64).toInt32.toInt8.toInt32), (.int (11 : Int32)), (.ref b14)]))
    generalize hv_v192 : ((v7.toUInt64 >>> ((40 : Int32) &&& 0x3f).toInt64.toUInt64).toInt64).toInt32.toInt8.toInt32 = v192
    obtain ⟨cl193, Ar193, Qk193, Sz193, Nn193, Hh193, Gg193⟩ := id V_b14_191
    have hin193 : ¬ ((11 : Int32) < 0 ∨ cl193.slots.size ≤ ((11 : Int32)).toNatClampNeg) := inb_of Sz193 ⟨by decide, by decide⟩
    obtain ⟨T193, h193, X193, e193, W193, st193⟩ := stB X191 hx hZ e191 Ar193 (j := (11 : Int32)) hin193 (g := (mkF m 267 #[.val (.long q1), .second, .val (.int p2), .val (.int p3), .val (.int p4), .val (.int p5), .val (.int v1), .val (.int v2), .val (.long v3), .second, .val (.long v7), .second, .val (.int (6 : Int32)), .val (.int v13), .val (.ref b14), .unset] [(.int v192), (.int (11 : Int32)), (.ref b14)])) rfl rfl (hb hby at_267)
    have V_b14_193 : Arv Z h193 b14 k14 .byte (16 : Int32) [(.int (nar .byte v13)), (.int (nar .byte v13)), (.int (nar .byte v13)), (.int (nar .byte v13)), (.int (nar .byte v13)), (.int (nar .byte v13)), (.int (nar .byte v182)), (.int (nar .byte v184)), (.int (nar .byte v186)), (.int (nar .byte v188)), (.int (nar .byte v190)), (.int (nar .byte v192)), (.int (nar .byte v13)), (.int (nar .byte v13)), (.int (nar .byte v13)), (.int (nar .byte v13))] (.int (0 : Int32)) := Arv.set Ar193 Qk193 Sz193 Nn193 Hh193 Gg193 (fits_nar_byte _) W193 11 rfl (Nat.le_of_ble_eq_true rfl)
    have N193 := Fr.snoc X193 N191 g_b14
    have Z193 : n0 ≤ h193.size := Nat.le_trans Z191 (Keep.of_wr W193).1
    have K193 := K191.wr W193 (Or.inr sz_b14)
    obtain ⟨lc193, X193, N193⟩ : ∃ lc, Stand p l e room_1 s m #[(.long q1), (.int p2), (.int p3), (.int p4), (.int p5)] below meth c T193 lc 1 16 ∧ Fr n0 lc := ⟨_, X193, N193⟩
    refine OutW.back st193 ?_
    show OutW _ _ _ _ _ _ _ (T193.setTop (mkF m 268 #[.val (.long q1), .second, .val (.int p2), .val (.int p3), .val (.int p4), .val (.int p5), .val (.int v1), .val (.int v2), .val (.long v3), .second, .val (.long v7), .second, .val (.int (6 : Int32)), .val (.int v13), .val (.ref b14), .unset] []))
    refine OutW.back (fun t k => XS.aload X193.here hx rfl (hb hby at_268) rfl rfl  k) ?_
    show OutW _ _ _ _ _ _ _ (T193.setTop (mkF m 270 #[.val (.long q1), .second, .val (.int p2), .val (.int p3), .val (.int p4), .val (.int p5), .val (.int v1), .val (.int v2), .val (.long v3), .second, .val (.long v7), .second, .val (.int (6 : Int32)), .val (.int v13), .val (.ref b14), .unset] [(.ref b14)]))
    refine OutW.back (fun t k => XS.iload X193.here hx rfl (hb hby at_270) rfl  k) ?_
    show OutW _ _ _ _ _ _ _ (T193.setTop (mkF m 272 #[.val (.long q1), .second, .val (.int p2), .val (.int p3), .val (.int p4), .val (.int p5), .val (.int v1), .val (.int v2), .val (.long v3), .second, .val (.long v7), .second, .val (.int (6 : Int32)), .val (.int v13), .val (.ref b14), .unset] [(.int (6 : Int32)), (.ref b14)]))
    refine OutW.back (fun t k => XS.bipush X193.here hx rfl (hb hby at_272) k) ?_
    show OutW _ _ _ _ _ _ _ (T193.setTop (mkF m 274 #[.val (.long q1), .second, .val (.int p2), .val (.int p3), .val (.int p4), .val (.int p5), .val (.int v1), .val (.int v2), .val (.long v3), .second, .val (.long v7), .second, .val (.int (6 : Int32)), .val (.int v13), .val (.ref b14), .unset] [(.int (6 : Int32)), (.int (6 : Int32)), (.ref b14)]))
    refine OutW.back (fun t k => XS.iadd X193.here hx rfl (hb hby at_274) rfl k) ?_
    show OutW _ _ _ _ _ _ _ (T193.setTop (mkF m 275 #[.val (.long q1), .second, .val (.int p2), .val (.int p3), .val (.int p4), .val (.int p5), .val (.int v1), .val (.int v2), .val (.long v3), .second, .val (.long v7), .second, .val (.int (6 : Int32)), .val (.int v13), .val (.ref b14), .unset] [(.int ((6 : Int32) + (6 : Int32))), (.ref b14)]))
    rw [show ((6 : Int32) + (6 : Int32)) = (12 : Int32) from by decide]
    refine OutW.back (fun t k => XS.lload X193.here hx rfl (hb hby at_275) rfl  k) ?_
    show OutW _ _ _ _ _ _ _ (T193.setTop (mkF m 277 #[.val (.long q1), .second, .val (.int p2), .val (.int p3), .val (.int p4), .val (.int p5), .val (.int v1), .val (.int v2), .val (.long v3), .second, .val (.long v7), .second, .val (.int (6 : Int32)), .val (.int v13), .val (.ref b14), .unset] [(.long v7), (.int (12 : Int32)), (.ref b14)]))
    refine OutW.back (fun t k => XS.bipush X193.here hx rfl (hb hby at_277) k) ?_
    show OutW _ _ _ _ _ _ _ (T193.setTop (mkF m 279 #[.val (.long q1), .second, .val (.int p2), .val (.int p3), .val (.int p4), .val (.int p5), .val (.int v1), .val (.int v2), .val (.long v3), .second, .val (.long v7), .second, .val (.int (6 : Int32)), .val (.int v13), .val (.ref b14), .unset] [(.int (48 : Int32)), (.long v7), (.int (12 : Int32)), (.ref b14)]))
    refine OutW.back (fun t k => XS.lushr X193.here hx rfl (hb hby at_279) rfl k) ?_
    show OutW _ _ _ _ _ _ _ (T193.setTop (mkF m 280 #[.val (.long q1), .second, .val (.int p2), .val (.int p3), .val (.int p4), .val (.int p5), .val (.int v1), .val (.int v2), .val (.long v3), .second, .val (.long v7), .second, .val (.int (6 : Int32)), .val (.int v13), .val (.ref b14), .unset] [(.long ((v7.toUInt64 >>> ((48 : Int32) &&& 0x3f).toInt64.toUInt64).toInt64)), (.int (12 : Int32)), (.ref b14)]))
    refine OutW.back (fun t k => XS.l2i X193.here hx rfl (hb hby at_280) rfl k) ?_
    show OutW _ _ _ _ _ _ _ (T193.setTop (mkF m 281 #[.val (.long q1), .second, .val (.int p2), .val (.int p3), .val (.int p4), .val (.int p5), .val (.int v1), .val (.int v2), .val (.long v3), .second, .val (.long v7), .second, .val (.int (6 : Int32)), .val (.int v13), .val (.ref b14), .unset] [(.int ((v7.toUInt64 >>> ((48 : Int32) &&& 0x3f).toInt64.toUInt64).toInt64).toInt32), (.int (12 : Int32)), (.ref b14)]))
    refine OutW.back (fun t k => XS.i2b X193.here hx rfl (hb hby at_281) rfl k) ?_
    show OutW _ _ _ _ _ _ _ (T193.setTop (mkF m 282 #[.val (.long q1), .second, .val (.int p2), .val (.int p3), .val (.int p4), .val (.int p5), .val (.int v1), .val (.int v2), .val (.long v3), .second, .val (.long v7), .second, .val (.int (6 : Int32)), .val (.int v13), .val (.ref b14), .unset] [(.int ((v7.toUInt64 >>> ((48 : Int32) &&& 0x3f).toInt64.toUInt64).toInt64).toInt32.toInt8.toInt32), (.int (12 : Int32)), (.ref b14)]))
    generalize hv_v194 : ((v7.toUInt64 >>> ((48 : Int32) &&& 0x3f).toInt64.toUInt64).toInt64).toInt32.toInt8.toInt32 = v194
    obtain ⟨cl195, Ar195, Qk195, Sz195, Nn195, Hh195, Gg195⟩ := id V_b14_193
    have hin195 : ¬ ((12 : Int32) < 0 ∨ cl195.slots.size ≤ ((12 : Int32)).toNatClampNeg) := inb_of Sz195 ⟨by decide, by decide⟩
    obtain ⟨T195, h195, X195, e195, W195, st195⟩ := stB X193 hx hZ e193 Ar195 (j := (12 : Int32)) hin195 (g := (mkF m 282 #[.val (.long q1), .second, .val (.int p2), .val (.int p3), .val (.int p4), .val (.int p5), .val (.int v1), .val (.int v2), .val (.long v3), .second, .val (.long v7), .second, .val (.int (6 : Int32)), .val (.int v13), .val (.ref b14), .unset] [(.int v194), (.int (12 : Int32)), (.ref b14)])) rfl rfl (hb hby at_282)
    have V_b14_195 : Arv Z h195 b14 k14 .byte (16 : Int32) [(.int (nar .byte v13)), (.int (nar .byte v13)), (.int (nar .byte v13)), (.int (nar .byte v13)), (.int (nar .byte v13)), (.int (nar .byte v13)), (.int (nar .byte v182)), (.int (nar .byte v184)), (.int (nar .byte v186)), (.int (nar .byte v188)), (.int (nar .byte v190)), (.int (nar .byte v192)), (.int (nar .byte v194)), (.int (nar .byte v13)), (.int (nar .byte v13)), (.int (nar .byte v13))] (.int (0 : Int32)) := Arv.set Ar195 Qk195 Sz195 Nn195 Hh195 Gg195 (fits_nar_byte _) W195 12 rfl (Nat.le_of_ble_eq_true rfl)
    have N195 := Fr.snoc X195 N193 g_b14
    have Z195 : n0 ≤ h195.size := Nat.le_trans Z193 (Keep.of_wr W195).1
    have K195 := K193.wr W195 (Or.inr sz_b14)
    obtain ⟨lc195, X195, N195⟩ : ∃ lc, Stand p l e room_1 s m #[(.long q1), (.int p2), (.int p3), (.int p4), (.int p5)] below meth c T195 lc 1 16 ∧ Fr n0 lc := ⟨_, X195, N195⟩
    refine OutW.back st195 ?_
    show OutW _ _ _ _ _ _ _ (T195.setTop (mkF m 283 #[.val (.long q1), .second, .val (.int p2), .val (.int p3), .val (.int p4), .val (.int p5), .val (.int v1), .val (.int v2), .val (.long v3), .second, .val (.long v7), .second, .val (.int (6 : Int32)), .val (.int v13), .val (.ref b14), .unset] []))
    refine OutW.back (fun t k => XS.aload X195.here hx rfl (hb hby at_283) rfl rfl  k) ?_
    show OutW _ _ _ _ _ _ _ (T195.setTop (mkF m 285 #[.val (.long q1), .second, .val (.int p2), .val (.int p3), .val (.int p4), .val (.int p5), .val (.int v1), .val (.int v2), .val (.long v3), .second, .val (.long v7), .second, .val (.int (6 : Int32)), .val (.int v13), .val (.ref b14), .unset] [(.ref b14)]))
    refine OutW.back (fun t k => XS.iload X195.here hx rfl (hb hby at_285) rfl  k) ?_
    show OutW _ _ _ _ _ _ _ (T195.setTop (mkF m 287 #[.val (.long q1), .second, .val (.int p2), .val (.int p3), .val (.int p4), .val (.int p5), .val (.int v1), .val (.int v2), .val (.long v3), .second, .val (.long v7), .second, .val (.int (6 : Int32)), .val (.int v13), .val (.ref b14), .unset] [(.int (6 : Int32)), (.ref b14)]))
    refine OutW.back (fun t k => XS.bipush X195.here hx rfl (hb hby at_287) k) ?_
    show OutW _ _ _ _ _ _ _ (T195.setTop (mkF m 289 #[.val (.long q1), .second, .val (.int p2), .val (.int p3), .val (.int p4), .val (.int p5), .val (.int v1), .val (.int v2), .val (.long v3), .second, .val (.long v7), .second, .val (.int (6 : Int32)), .val (.int v13), .val (.ref b14), .unset] [(.int (7 : Int32)), (.int (6 : Int32)), (.ref b14)]))
    refine OutW.back (fun t k => XS.iadd X195.here hx rfl (hb hby at_289) rfl k) ?_
    show OutW _ _ _ _ _ _ _ (T195.setTop (mkF m 290 #[.val (.long q1), .second, .val (.int p2), .val (.int p3), .val (.int p4), .val (.int p5), .val (.int v1), .val (.int v2), .val (.long v3), .second, .val (.long v7), .second, .val (.int (6 : Int32)), .val (.int v13), .val (.ref b14), .unset] [(.int ((6 : Int32) + (7 : Int32))), (.ref b14)]))
    rw [show ((6 : Int32) + (7 : Int32)) = (13 : Int32) from by decide]
    refine OutW.back (fun t k => XS.lload X195.here hx rfl (hb hby at_290) rfl  k) ?_
    show OutW _ _ _ _ _ _ _ (T195.setTop (mkF m 292 #[.val (.long q1), .second, .val (.int p2), .val (.int p3), .val (.int p4), .val (.int p5), .val (.int v1), .val (.int v2), .val (.long v3), .second, .val (.long v7), .second, .val (.int (6 : Int32)), .val (.int v13), .val (.ref b14), .unset] [(.long v7), (.int (13 : Int32)), (.ref b14)]))
    refine OutW.back (fun t k => XS.bipush X195.here hx rfl (hb hby at_292) k) ?_
    show OutW _ _ _ _ _ _ _ (T195.setTop (mkF m 294 #[.val (.long q1), .second, .val (.int p2), .val (.int p3), .val (.int p4), .val (.int p5), .val (.int v1), .val (.int v2), .val (.long v3), .second, .val (.long v7), .second, .val (.int (6 : Int32)), .val (.int v13), .val (.ref b14), .unset] [(.int (56 : Int32)), (.long v7), (.int (13 : Int32)), (.ref b14)]))
    refine OutW.back (fun t k => XS.lushr X195.here hx rfl (hb hby at_294) rfl k) ?_
    show OutW _ _ _ _ _ _ _ (T195.setTop (mkF m 295 #[.val (.long q1), .second, .val (.int p2), .val (.int p3), .val (.int p4), .val (.int p5), .val (.int v1), .val (.int v2), .val (.long v3), .second, .val (.long v7), .second, .val (.int (6 : Int32)), .val (.int v13), .val (.ref b14), .unset] [(.long ((v7.toUInt64 >>> ((56 : Int32) &&& 0x3f).toInt64.toUInt64).toInt64)), (.int (13 : Int32)), (.ref b14)]))
    refine OutW.back (fun t k => XS.l2i X195.here hx rfl (hb hby at_295) rfl k) ?_
    show OutW _ _ _ _ _ _ _ (T195.setTop (mkF m 296 #[.val (.long q1), .second, .val (.int p2), .val (.int p3), .val (.int p4), .val (.int p5), .val (.int v1), .val (.int v2), .val (.long v3), .second, .val (.long v7), .second, .val (.int (6 : Int32)), .val (.int v13), .val (.ref b14), .unset] [(.int ((v7.toUInt64 >>> ((56 : Int32) &&& 0x3f).toInt64.toUInt64).toInt64).toInt32), (.int (13 : Int32)), (.ref b14)]))
    refine OutW.back (fun t k => XS.i2b X195.here hx rfl (hb hby at_296) rfl k) ?_
    show OutW _ _ _ _ _ _ _ (T195.setTop (mkF m 297 #[.val (.long q1), .second, .val (.int p2), .val (.int p3), .val (.int p4), .val (.int p5), .val (.int v1), .val (.int v2), .val (.long v3), .second, .val (.long v7), .second, .val (.int (6 : Int32)), .val (.int v13), .val (.ref b14), .unset] [(.int ((v7.toUInt64 >>> ((56 : Int32) &&& 0x3f).toInt64.toUInt64).toInt64).toInt32.toInt8.toInt32), (.int (13 : Int32)), (.ref b14)]))
    generalize hv_v196 : ((v7.toUInt64 >>> ((56 : Int32) &&& 0x3f).toInt64.toUInt64).toInt64).toInt32.toInt8.toInt32 = v196
    obtain ⟨cl197, Ar197, Qk197, Sz197, Nn197, Hh197, Gg197⟩ := id V_b14_195
    have hin197 : ¬ ((13 : Int32) < 0 ∨ cl197.slots.size ≤ ((13 : Int32)).toNatClampNeg) := inb_of Sz197 ⟨by decide, by decide⟩
    obtain ⟨T197, h197, X197, e197, W197, st197⟩ := stB X195 hx hZ e195 Ar197 (j := (13 : Int32)) hin197 (g := (mkF m 297 #[.val (.long q1), .second, .val (.int p2), .val (.int p3), .val (.int p4), .val (.int p5), .val (.int v1), .val (.int v2), .val (.long v3), .second, .val (.long v7), .second, .val (.int (6 : Int32)), .val (.int v13), .val (.ref b14), .unset] [(.int v196), (.int (13 : Int32)), (.ref b14)])) rfl rfl (hb hby at_297)
    have V_b14_197 : Arv Z h197 b14 k14 .byte (16 : Int32) [(.int (nar .byte v13)), (.int (nar .byte v13)), (.int (nar .byte v13)), (.int (nar .byte v13)), (.int (nar .byte v13)), (.int (nar .byte v13)), (.int (nar .byte v182)), (.int (nar .byte v184)), (.int (nar .byte v186)), (.int (nar .byte v188)), (.int (nar .byte v190)), (.int (nar .byte v192)), (.int (nar .byte v194)), (.int (nar .byte v196)), (.int (nar .byte v13)), (.int (nar .byte v13))] (.int (0 : Int32)) := Arv.set Ar197 Qk197 Sz197 Nn197 Hh197 Gg197 (fits_nar_byte _) W197 13 rfl (Nat.le_of_ble_eq_true rfl)
    have N197 := Fr.snoc X197 N195 g_b14
    have Z197 : n0 ≤ h197.size := Nat.le_trans Z195 (Keep.of_wr W197).1
    have K197 := K195.wr W197 (Or.inr sz_b14)
    obtain ⟨lc197, X197, N197⟩ : ∃ lc, Stand p l e room_1 s m #[(.long q1), (.int p2), (.int p3), (.int p4), (.int p5)] below meth c T197 lc 1 16 ∧ Fr n0 lc := ⟨_, X197, N197⟩
    refine OutW.back st197 ?_
    show OutW _ _ _ _ _ _ _ (T197.setTop (mkF m 298 #[.val (.long q1), .second, .val (.int p2), .val (.int p3), .val (.int p4), .val (.int p5), .val (.int v1), .val (.int v2), .val (.long v3), .second, .val (.long v7), .second, .val (.int (6 : Int32)), .val (.int v13), .val (.ref b14), .unset] []))
    refine OutW.back (fun t k => XS.lload X197.here hx rfl (hb hby at_298) rfl  k) ?_
    show OutW _ _ _ _ _ _ _ (T197.setTop (mkF m 300 #[.val (.long q1), .second, .val (.int p2), .val (.int p3), .val (.int p4), .val (.int p5), .val (.int v1), .val (.int v2), .val (.long v3), .second, .val (.long v7), .second, .val (.int (6 : Int32)), .val (.int v13), .val (.ref b14), .unset] [(.long v7)]))
    refine OutW.back (X197.ldc2Long hx hown (mvT hZ (hw _ (List.mem_of_getElem? (i := 1) rfl))) (g := (mkF m 300 #[.val (.long q1), .second, .val (.int p2), .val (.int p3), .val (.int p4), .val (.int p5), .val (.int v1), .val (.int v2), .val (.long v3), .second, .val (.long v7), .second, .val (.int (6 : Int32)), .val (.int v13), .val (.ref b14), .unset] [(.long v7)])) rfl (hb hby at_300)) ?_
    show OutW _ _ _ _ _ _ _ (T197.setTop (mkF m 303 #[.val (.long q1), .second, .val (.int p2), .val (.int p3), .val (.int p4), .val (.int p5), .val (.int v1), .val (.int v2), .val (.long v3), .second, .val (.long v7), .second, .val (.int (6 : Int32)), .val (.int v13), .val (.ref b14), .unset] [(.long (-9223372036854775808 : Int64)), (.long v7)]))
    refine OutW.back (fun t k => XS.lcmp X197.here hx rfl (hb hby at_303) rfl k) ?_
    show OutW _ _ _ _ _ _ _ (T197.setTop (mkF m 304 #[.val (.long q1), .second, .val (.int p2), .val (.int p3), .val (.int p4), .val (.int p5), .val (.int v1), .val (.int v2), .val (.long v3), .second, .val (.long v7), .second, .val (.int (6 : Int32)), .val (.int v13), .val (.ref b14), .unset] [(.int (lcmpW v7 (-9223372036854775808 : Int64)))]))
    obtain ⟨v199, hv_v199⟩ : ∃ z : Int32, z = (if v7 = (-9223372036854775808 : Int64) then (1 : Int32) else (0 : Int32)) := ⟨_, rfl⟩
    have j200 : ∀ t, Steps p.tables e below (T197.setTop (mkF m 312 #[.val (.long q1), .second, .val (.int p2), .val (.int p3), .val (.int p4), .val (.int p5), .val (.int v1), .val (.int v2), .val (.long v3), .second, .val (.long v7), .second, .val (.int (6 : Int32)), .val (.int v13), .val (.ref b14), .unset] [(.int v199)])) t → Steps p.tables e below (T197.setTop (mkF m 304 #[.val (.long q1), .second, .val (.int p2), .val (.int p3), .val (.int p4), .val (.int p5), .val (.int v1), .val (.int v2), .val (.long v3), .second, .val (.long v7), .second, .val (.int (6 : Int32)), .val (.int v13), .val (.ref b14), .unset] [(.int (lcmpW v7 (-9223372036854775808 : Int64)))])) t := by
      intro t k
      by_cases c304_201 : v7 = (-9223372036854775808 : Int64)
      · skip
        refine XS.ifNo X197.here hx rfl (hb hby at_304) rfl ((if0 _ _).trans (teq ((lw_eq _ _).mpr c304_201)).2) ?_
        show Steps p.tables e below (T197.setTop (mkF m 307 #[.val (.long q1), .second, .val (.int p2), .val (.int p3), .val (.int p4), .val (.int p5), .val (.int v1), .val (.int v2), .val (.long v3), .second, .val (.long v7), .second, .val (.int (6 : Int32)), .val (.int v13), .val (.ref b14), .unset] [])) t
        refine XS.iconst X197.here hx rfl (hb hby at_307) ?_
        show Steps p.tables e below (T197.setTop (mkF m 308 #[.val (.long q1), .second, .val (.int p2), .val (.int p3), .val (.int p4), .val (.int p5), .val (.int v1), .val (.int v2), .val (.long v3), .second, .val (.long v7), .second, .val (.int (6 : Int32)), .val (.int v13), .val (.ref b14), .unset] [(.int (1 : Int32))])) t
        refine XS.goto X197.here hx rfl (pc0 := 308) (pc' := 312) rfl (hb hby at_308) (by decide) (by decide) ?_
        show Steps p.tables e below (T197.setTop (mkF m 312 #[.val (.long q1), .second, .val (.int p2), .val (.int p3), .val (.int p4), .val (.int p5), .val (.int v1), .val (.int v2), .val (.long v3), .second, .val (.long v7), .second, .val (.int (6 : Int32)), .val (.int v13), .val (.ref b14), .unset] [(.int (1 : Int32))])) t
        have q_v199 : v199 = (1 : Int32) := by rw [hv_v199, if_pos c304_201]
        rw [q_v199] at k
        exact k
      · skip
        refine XS.ifYes X197.here hx rfl (pc0 := 304) (pc' := 311) rfl (hb hby at_304) rfl ((if0 _ _).trans (feq (fun q => c304_201 ((lw_eq _ _).mp q))).2) (by decide) (by decide) ?_
        show Steps p.tables e below (T197.setTop (mkF m 311 #[.val (.long q1), .second, .val (.int p2), .val (.int p3), .val (.int p4), .val (.int p5), .val (.int v1), .val (.int v2), .val (.long v3), .second, .val (.long v7), .second, .val (.int (6 : Int32)), .val (.int v13), .val (.ref b14), .unset] [])) t
        refine XS.iconst X197.here hx rfl (hb hby at_311) ?_
        show Steps p.tables e below (T197.setTop (mkF m 312 #[.val (.long q1), .second, .val (.int p2), .val (.int p3), .val (.int p4), .val (.int p5), .val (.int v1), .val (.int v2), .val (.long v3), .second, .val (.long v7), .second, .val (.int (6 : Int32)), .val (.int v13), .val (.ref b14), .unset] [(.int (0 : Int32))])) t
        have q_v199 : v199 = (0 : Int32) := by rw [hv_v199, if_neg c304_201]
        rw [q_v199] at k
        exact k
    refine OutW.back j200 ?_
    show OutW _ _ _ _ _ _ _ (T197.setTop (mkF m 312 #[.val (.long q1), .second, .val (.int p2), .val (.int p3), .val (.int p4), .val (.int p5), .val (.int v1), .val (.int v2), .val (.long v3), .second, .val (.long v7), .second, .val (.int (6 : Int32)), .val (.int v13), .val (.ref b14), .unset] [(.int v199)]))
    refine OutW.back (fun t k => XS.istore X197.here hx rfl (hb hby at_312) rfl (l' := #[.val (.long q1), .second, .val (.int p2), .val (.int p3), .val (.int p4), .val (.int p5), .val (.int v1), .val (.int v2), .val (.long v3), .second, .val (.long v7), .second, .val (.int (6 : Int32)), .val (.int v13), .val (.ref b14), .val (.int v199)]) rfl k) ?_
    show OutW _ _ _ _ _ _ _ (T197.setTop (mkF m 314 #[.val (.long q1), .second, .val (.int p2), .val (.int p3), .val (.int p4), .val (.int p5), .val (.int v1), .val (.int v2), .val (.long v3), .second, .val (.long v7), .second, .val (.int (6 : Int32)), .val (.int v13), .val (.ref b14), .val (.int v199)] []))
    refine OutW.back (fun t k => XS.aload X197.here hx rfl (hb hby at_314) rfl rfl  k) ?_
    show OutW _ _ _ _ _ _ _ (T197.setTop (mkF m 316 #[.val (.long q1), .second, .val (.int p2), .val (.int p3), .val (.int p4), .val (.int p5), .val (.int v1), .val (.int v2), .val (.long v3), .second, .val (.long v7), .second, .val (.int (6 : Int32)), .val (.int v13), .val (.ref b14), .val (.int v199)] [(.ref b14)]))
    refine OutW.back (fun t k => XS.iload X197.here hx rfl (hb hby at_316) rfl  k) ?_
    show OutW _ _ _ _ _ _ _ (T197.setTop (mkF m 318 #[.val (.long q1), .second, .val (.int p2), .val (.int p3), .val (.int p4), .val (.int p5), .val (.int v1), .val (.int v2), .val (.long v3), .second, .val (.long v7), .second, .val (.int (6 : Int32)), .val (.int v13), .val (.ref b14), .val (.int v199)] [(.int (6 : Int32)), (.ref b14)]))
    obtain ⟨_, _, ⟨T202, L202, k202, n202⟩, -, X202, ⟨Lc202, hQ202, l202, y202, z202⟩, st202⟩ := Jvm.LawKit.callS X197 hx (y := (⟨"com/example/patchloom/patchloom/delta/SignMagnitude", "isNegativeZero", "([BI)Z"⟩ : MethodName)) hown (mvT hZ (hw _ (List.mem_of_getElem? (i := 3) rfl))) (mvT hZ (hw _ (List.mem_of_getElem? (i := 4) rfl))) (mvT hZ (hw _ (List.mem_of_getElem? (i := 5) rfl))) (mvT hZ (hw _ (List.mem_of_getElem? (i := 6) rfl))) (by decide) (backOf (W := 0) (rm1_6 l Z a0 hw [] b14 (nar .byte v13) (nar .byte v13) (nar .byte v13) (nar .byte v13) (nar .byte v13) (nar .byte v13) (nar .byte v182) (nar .byte v184) (nar .byte v186) (nar .byte v188) (nar .byte v190) (nar .byte v192) (nar .byte v194) (nar .byte v196) (nar .byte v13) (nar .byte v13) k14 h197 n0 Z197 V_b14_197) hZ (hw _ (List.mem_of_getElem? (i := 6) rfl)) (hw _ (List.mem_of_getElem? (i := 5) rfl)) (by decide) (by decide)) (g := (mkF m 318 #[.val (.long q1), .second, .val (.int p2), .val (.int p3), .val (.int p4), .val (.int p5), .val (.int v1), .val (.int v2), .val (.long v3), .second, .val (.long v7), .second, .val (.int (6 : Int32)), .val (.int v13), .val (.ref b14), .val (.int v199)] [(.int (6 : Int32)), (.ref b14)])) rfl (by rw [hml]; rfl) (argsL := [(.ref b14), (.int (6 : Int32))]) (rest := []) (lenOf pd_0 rfl) rfl (by show 2 * 0 + _ ≤ _; exact Nat.le_of_eq rfl) (hb hby at_318) (fun _ _ => ⟨rfl, e197, (by decide : 1 + 0 ≤ _), (by decide : 16 + 0 ≤ _)⟩)
    dsimp only [Pt.U, Pt.locs, Pt.cells, Pt.slots] at X202 l202 y202 z202 st202 hQ202
    subst l202 y202 z202
    obtain ⟨rfl, Nq202, e202⟩ := hQ202
    have N202 := Fr.app N197 Nq202
    obtain ⟨lc202, X202, N202⟩ : ∃ lc, Stand p l e room_1 s m #[(.long q1), (.int p2), (.int p3), (.int p4), (.int p5)] below meth c T202 lc 1 16 ∧ Fr n0 lc := ⟨_, X202, N202⟩
    refine OutW.back st202 ?_
    show OutW _ _ _ _ _ _ _ (T202.setTop (mkF m 321 #[.val (.long q1), .second, .val (.int p2), .val (.int p3), .val (.int p4), .val (.int p5), .val (.int v1), .val (.int v2), .val (.long v3), .second, .val (.long v7), .second, .val (.int (6 : Int32)), .val (.int v13), .val (.ref b14), .val (.int v199)] [(.int (negz6 (nar .byte v182) (nar .byte v184) (nar .byte v186) (nar .byte v188) (nar .byte v190) (nar .byte v192) (nar .byte v194) (nar .byte v196)))]))
    refine OutW.back (fun t k => XS.iload X202.here hx rfl (hb hby at_321) rfl  k) ?_
    show OutW _ _ _ _ _ _ _ (T202.setTop (mkF m 323 #[.val (.long q1), .second, .val (.int p2), .val (.int p3), .val (.int p4), .val (.int p5), .val (.int v1), .val (.int v2), .val (.long v3), .second, .val (.long v7), .second, .val (.int (6 : Int32)), .val (.int v13), .val (.ref b14), .val (.int v199)] [(.int v199), (.int (negz6 (nar .byte v182) (nar .byte v184) (nar .byte v186) (nar .byte v188) (nar .byte v190) (nar .byte v192) (nar .byte v194) (nar .byte v196)))]))
    obtain ⟨v204, hv_v204⟩ : ∃ z : Int32, z = (if (negz6 (nar .byte v182) (nar .byte v184) (nar .byte v186) (nar .byte v188) (nar .byte v190) (nar .byte v192) (nar .byte v194) (nar .byte v196)) = v199 then (1 : Int32) else (0 : Int32)) := ⟨_, rfl⟩
    have j205 : ∀ t, Steps p.tables e below (T202.setTop (mkF m 331 #[.val (.long q1), .second, .val (.int p2), .val (.int p3), .val (.int p4), .val (.int p5), .val (.int v1), .val (.int v2), .val (.long v3), .second, .val (.long v7), .second, .val (.int (6 : Int32)), .val (.int v13), .val (.ref b14), .val (.int v199)] [(.int v204)])) t → Steps p.tables e below (T202.setTop (mkF m 323 #[.val (.long q1), .second, .val (.int p2), .val (.int p3), .val (.int p4), .val (.int p5), .val (.int v1), .val (.int v2), .val (.long v3), .second, .val (.long v7), .second, .val (.int (6 : Int32)), .val (.int v13), .val (.ref b14), .val (.int v199)] [(.int v199), (.int (negz6 (nar .byte v182) (nar .byte v184) (nar .byte v186) (nar .byte v188) (nar .byte v190) (nar .byte v192) (nar .byte v194) (nar .byte v196)))])) t := by
      intro t k
      by_cases c323_206 : (negz6 (nar .byte v182) (nar .byte v184) (nar .byte v186) (nar .byte v188) (nar .byte v190) (nar .byte v192) (nar .byte v194) (nar .byte v196)) = v199
      · skip
        refine XS.icmpNo X202.here hx rfl (hb hby at_323) rfl (teq c323_206).2 ?_
        show Steps p.tables e below (T202.setTop (mkF m 326 #[.val (.long q1), .second, .val (.int p2), .val (.int p3), .val (.int p4), .val (.int p5), .val (.int v1), .val (.int v2), .val (.long v3), .second, .val (.long v7), .second, .val (.int (6 : Int32)), .val (.int v13), .val (.ref b14), .val (.int v199)] [])) t
        refine XS.iconst X202.here hx rfl (hb hby at_326) ?_
        show Steps p.tables e below (T202.setTop (mkF m 327 #[.val (.long q1), .second, .val (.int p2), .val (.int p3), .val (.int p4), .val (.int p5), .val (.int v1), .val (.int v2), .val (.long v3), .second, .val (.long v7), .second, .val (.int (6 : Int32)), .val (.int v13), .val (.ref b14), .val (.int v199)] [(.int (1 : Int32))])) t
        refine XS.goto X202.here hx rfl (pc0 := 327) (pc' := 331) rfl (hb hby at_327) (by decide) (by decide) ?_
        show Steps p.tables e below (T202.setTop (mkF m 331 #[.val (.long q1), .second, .val (.int p2), .val (.int p3), .val (.int p4), .val (.int p5), .val (.int v1), .val (.int v2), .val (.long v3), .second, .val (.long v7), .second, .val (.int (6 : Int32)), .val (.int v13), .val (.ref b14), .val (.int v199)] [(.int (1 : Int32))])) t
        have q_v204 : v204 = (1 : Int32) := by rw [hv_v204, if_pos c323_206]
        rw [q_v204] at k
        exact k
      · skip
        refine XS.icmpYes X202.here hx rfl (pc0 := 323) (pc' := 330) rfl (hb hby at_323) rfl (feq c323_206).2 (by decide) (by decide) ?_
        show Steps p.tables e below (T202.setTop (mkF m 330 #[.val (.long q1), .second, .val (.int p2), .val (.int p3), .val (.int p4), .val (.int p5), .val (.int v1), .val (.int v2), .val (.long v3), .second, .val (.long v7), .second, .val (.int (6 : Int32)), .val (.int v13), .val (.ref b14), .val (.int v199)] [])) t
        refine XS.iconst X202.here hx rfl (hb hby at_330) ?_
        show Steps p.tables e below (T202.setTop (mkF m 331 #[.val (.long q1), .second, .val (.int p2), .val (.int p3), .val (.int p4), .val (.int p5), .val (.int v1), .val (.int v2), .val (.long v3), .second, .val (.long v7), .second, .val (.int (6 : Int32)), .val (.int v13), .val (.ref b14), .val (.int v199)] [(.int (0 : Int32))])) t
        have q_v204 : v204 = (0 : Int32) := by rw [hv_v204, if_neg c323_206]
        rw [q_v204] at k
        exact k
    refine OutW.back j205 ?_
    show OutW _ _ _ _ _ _ _ (T202.setTop (mkF m 331 #[.val (.long q1), .second, .val (.int p2), .val (.int p3), .val (.int p4), .val (.int p5), .val (.int v1), .val (.int v2), .val (.long v3), .second, .val (.long v7), .second, .val (.int (6 : Int32)), .val (.int v13), .val (.ref b14), .val (.int v199)] [(.int v204)]))
    refine OutW.retN X202 hx (t := .boolean) (z' := 1) Bd.returns (by simp) hlk (hb hby at_331) ?hz (by decide) (by decide) ?_
    case hz =>
      have hfin : v204 = (1 : Int32) := by
        have e : (negz6 (nar .byte v182) (nar .byte v184) (nar .byte v186) (nar .byte v188) (nar .byte v190) (nar .byte v192) (nar .byte v194) (nar .byte v196)) = v199 := by
          rw [← hv_v182, ← hv_v184, ← hv_v186, ← hv_v188, ← hv_v190, ← hv_v192, ← hv_v194, ← hv_v196, hv_v199]
          exact own_neg _
        rw [hv_v204, if_pos e]
      rw [hfin]; rfl
    show Q0 Z q1 p2 p3 p4 p5 h0 n0 _ T202.heap _
    rw [e202]
    exact ⟨rfl, N202⟩
  · skip
    show OutW _ _ _ _ _ _ _ (T30.setTop (mkF m 189 #[.val (.long q1), .second, .val (.int p2), .val (.int p3), .val (.int p4), .val (.int p5), .val (.int v1), .val (.int v2), .val (.long v3), .second, .val (.long v7), .second, .val (.int (7 : Int32)), .val (.int v13), .val (.ref b14), .unset] []))
    refine OutW.back (fun t k => XS.aload X30.here hx rfl (hb hby at_189) rfl rfl  k) ?_
    show OutW _ _ _ _ _ _ _ (T30.setTop (mkF m 191 #[.val (.long q1), .second, .val (.int p2), .val (.int p3), .val (.int p4), .val (.int p5), .val (.int v1), .val (.int v2), .val (.long v3), .second, .val (.long v7), .second, .val (.int (7 : Int32)), .val (.int v13), .val (.ref b14), .unset] [(.ref b14)]))
    refine OutW.back (fun t k => XS.iload X30.here hx rfl (hb hby at_191) rfl  k) ?_
    show OutW _ _ _ _ _ _ _ (T30.setTop (mkF m 193 #[.val (.long q1), .second, .val (.int p2), .val (.int p3), .val (.int p4), .val (.int p5), .val (.int v1), .val (.int v2), .val (.long v3), .second, .val (.long v7), .second, .val (.int (7 : Int32)), .val (.int v13), .val (.ref b14), .unset] [(.int (7 : Int32)), (.ref b14)]))
    refine OutW.back (fun t k => XS.lload X30.here hx rfl (hb hby at_193) rfl  k) ?_
    show OutW _ _ _ _ _ _ _ (T30.setTop (mkF m 195 #[.val (.long q1), .second, .val (.int p2), .val (.int p3), .val (.int p4), .val (.int p5), .val (.int v1), .val (.int v2), .val (.long v3), .second, .val (.long v7), .second, .val (.int (7 : Int32)), .val (.int v13), .val (.ref b14), .unset] [(.long v7), (.int (7 : Int32)), (.ref b14)]))
    refine OutW.back (fun t k => XS.l2i X30.here hx rfl (hb hby at_195) rfl k) ?_
    show OutW _ _ _ _ _ _ _ (T30.setTop (mkF m 196 #[.val (.long q1), .second, .val (.int p2), .val (.int p3), .val (.int p4), .val (.int p5), .val (.int v1), .val (.int v2), .val (.long v3), .second, .val (.long v7), .second, .val (.int (7 : Int32)), .val (.int v13), .val (.ref b14), .unset] [(.int v7.toInt32), (.int (7 : Int32)), (.ref b14)]))
    refine OutW.back (fun t k => XS.i2b X30.here hx rfl (hb hby at_196) rfl k) ?_
    show OutW _ _ _ _ _ _ _ (T30.setTop (mkF m 197 #[.val (.long q1), .second, .val (.int p2), .val (.int p3), .val (.int p4), .val (.int p5), .val (.int v1), .val (.int v2), .val (.long v3), .second, .val (.long v7), .second, .val (.int (7 : Int32)), .val (.int v13), .val (.ref b14), .unset] [(.int v7.toInt32.toInt8.toInt32), (.int (7 : Int32)), (.ref b14)]))
    generalize hv_v207 : v7.toInt32.toInt8.toInt32 = v207
    obtain ⟨cl208, Ar208, Qk208, Sz208, Nn208, Hh208, Gg208⟩ := id V_b14_30
    have hin208 : ¬ ((7 : Int32) < 0 ∨ cl208.slots.size ≤ ((7 : Int32)).toNatClampNeg) := inb_of Sz208 ⟨by decide, by decide⟩
    obtain ⟨T208, h208, X208, e208, W208, st208⟩ := stB X30 hx hZ e30 Ar208 (j := (7 : Int32)) hin208 (g := (mkF m 197 #[.val (.long q1), .second, .val (.int p2), .val (.int p3), .val (.int p4), .val (.int p5), .val (.int v1), .val (.int v2), .val (.long v3), .second, .val (.long v7), .second, .val (.int (7 : Int32)), .val (.int v13), .val (.ref b14), .unset] [(.int v207), (.int (7 : Int32)), (.ref b14)])) rfl rfl (hb hby at_197)
    have V_b14_208 : Arv Z h208 b14 k14 .byte (16 : Int32) [(.int (nar .byte v13)), (.int (nar .byte v13)), (.int (nar .byte v13)), (.int (nar .byte v13)), (.int (nar .byte v13)), (.int (nar .byte v13)), (.int (nar .byte v13)), (.int (nar .byte v207)), (.int (nar .byte v13)), (.int (nar .byte v13)), (.int (nar .byte v13)), (.int (nar .byte v13)), (.int (nar .byte v13)), (.int (nar .byte v13)), (.int (nar .byte v13)), (.int (nar .byte v13))] (.int (0 : Int32)) := Arv.set Ar208 Qk208 Sz208 Nn208 Hh208 Gg208 (fits_nar_byte _) W208 7 rfl (Nat.le_of_ble_eq_true rfl)
    have N208 := Fr.snoc X208 N30 g_b14
    have Z208 : n0 ≤ h208.size := Nat.le_trans Z30 (Keep.of_wr W208).1
    have K208 := K30.wr W208 (Or.inr sz_b14)
    obtain ⟨lc208, X208, N208⟩ : ∃ lc, Stand p l e room_1 s m #[(.long q1), (.int p2), (.int p3), (.int p4), (.int p5)] below meth c T208 lc 1 16 ∧ Fr n0 lc := ⟨_, X208, N208⟩
    refine OutW.back st208 ?_
    show OutW _ _ _ _ _ _ _ (T208.setTop (mkF m 198 #[.val (.long q1), .second, .val (.int p2), .val (.int p3), .val (.int p4), .val (.int p5), .val (.int v1), .val (.int v2), .val (.long v3), .second, .val (.long v7), .second, .val (.int (7 : Int32)), .val (.int v13), .val (.ref b14), .unset] []))
    refine OutW.back (fun t k => XS.aload X208.here hx rfl (hb hby at_198) rfl rfl  k) ?_
    show OutW _ _ _ _ _ _ _ (T208.setTop (mkF m 200 #[.val (.long q1), .second, .val (.int p2), .val (.int p3), .val (.int p4), .val (.int p5), .val (.int v1), .val (.int v2), .val (.long v3), .second, .val (.long v7), .second, .val (.int (7 : Int32)), .val (.int v13), .val (.ref b14), .unset] [(.ref b14)]))
    refine OutW.back (fun t k => XS.iload X208.here hx rfl (hb hby at_200) rfl  k) ?_
    show OutW _ _ _ _ _ _ _ (T208.setTop (mkF m 202 #[.val (.long q1), .second, .val (.int p2), .val (.int p3), .val (.int p4), .val (.int p5), .val (.int v1), .val (.int v2), .val (.long v3), .second, .val (.long v7), .second, .val (.int (7 : Int32)), .val (.int v13), .val (.ref b14), .unset] [(.int (7 : Int32)), (.ref b14)]))
    refine OutW.back (fun t k => XS.iconst X208.here hx rfl (hb hby at_202) k) ?_
    show OutW _ _ _ _ _ _ _ (T208.setTop (mkF m 203 #[.val (.long q1), .second, .val (.int p2), .val (.int p3), .val (.int p4), .val (.int p5), .val (.int v1), .val (.int v2), .val (.long v3), .second, .val (.long v7), .second, .val (.int (7 : Int32)), .val (.int v13), .val (.ref b14), .unset] [(.int (1 : Int32)), (.int (7 : Int32)), (.ref b14)]))
    refine OutW.back (fun t k => XS.iadd X208.here hx rfl (hb hby at_203) rfl k) ?_
    show OutW _ _ _ _ _ _ _ (T208.setTop (mkF m 204 #[.val (.long q1), .second, .val (.int p2), .val (.int p3), .val (.int p4), .val (.int p5), .val (.int v1), .val (.int v2), .val (.long v3), .second, .val (.long v7), .second, .val (.int (7 : Int32)), .val (.int v13), .val (.ref b14), .unset] [(.int ((7 : Int32) + (1 : Int32))), (.ref b14)]))
    rw [show ((7 : Int32) + (1 : Int32)) = (8 : Int32) from by decide]
    refine OutW.back (fun t k => XS.lload X208.here hx rfl (hb hby at_204) rfl  k) ?_
    show OutW _ _ _ _ _ _ _ (T208.setTop (mkF m 206 #[.val (.long q1), .second, .val (.int p2), .val (.int p3), .val (.int p4), .val (.int p5), .val (.int v1), .val (.int v2), .val (.long v3), .second, .val (.long v7), .second, .val (.int (7 : Int32)), .val (.int v13), .val (.ref b14), .unset] [(.long v7), (.int (8 : Int32)), (.ref b14)]))
    refine OutW.back (fun t k => XS.bipush X208.here hx rfl (hb hby at_206) k) ?_
    show OutW _ _ _ _ _ _ _ (T208.setTop (mkF m 208 #[.val (.long q1), .second, .val (.int p2), .val (.int p3), .val (.int p4), .val (.int p5), .val (.int v1), .val (.int v2), .val (.long v3), .second, .val (.long v7), .second, .val (.int (7 : Int32)), .val (.int v13), .val (.ref b14), .unset] [(.int (8 : Int32)), (.long v7), (.int (8 : Int32)), (.ref b14)]))
    refine OutW.back (fun t k => XS.lushr X208.here hx rfl (hb hby at_208) rfl k) ?_
    show OutW _ _ _ _ _ _ _ (T208.setTop (mkF m 209 #[.val (.long q1), .second, .val (.int p2), .val (.int p3), .val (.int p4), .val (.int p5), .val (.int v1), .val (.int v2), .val (.long v3), .second, .val (.long v7), .second, .val (.int (7 : Int32)), .val (.int v13), .val (.ref b14), .unset] [(.long ((v7.toUInt64 >>> ((8 : Int32) &&& 0x3f).toInt64.toUInt64).toInt64)), (.int (8 : Int32)), (.ref b14)]))
    refine OutW.back (fun t k => XS.l2i X208.here hx rfl (hb hby at_209) rfl k) ?_
    show OutW _ _ _ _ _ _ _ (T208.setTop (mkF m 210 #[.val (.long q1), .second, .val (.int p2), .val (.int p3), .val (.int p4), .val (.int p5), .val (.int v1), .val (.int v2), .val (.long v3), .second, .val (.long v7), .second, .val (.int (7 : Int32)), .val (.int v13), .val (.ref b14), .unset] [(.int ((v7.toUInt64 >>> ((8 : Int32) &&& 0x3f).toInt64.toUInt64).toInt64).toInt32), (.int (8 : Int32)), (.ref b14)]))
    refine OutW.back (fun t k => XS.i2b X208.here hx rfl (hb hby at_210) rfl k) ?_
    show OutW _ _ _ _ _ _ _ (T208.setTop (mkF m 211 #[.val (.long q1), .second, .val (.int p2), .val (.int p3), .val (.int p4), .val (.int p5), .val (.int v1), .val (.int v2), .val (.long v3), .second, .val (.long v7), .second, .val (.int (7 : Int32)), .val (.int v13), .val (.ref b14), .unset] [(.int ((v7.toUInt64 >>> ((8 : Int32) &&& 0x3f).toInt64.toUInt64).toInt64).toInt32.toInt8.toInt32), (.int (8 : Int32)), (.ref b14)]))
    generalize hv_v209 : ((v7.toUInt64 >>> ((8 : Int32) &&& 0x3f).toInt64.toUInt64).toInt64).toInt32.toInt8.toInt32 = v209
    obtain ⟨cl210, Ar210, Qk210, Sz210, Nn210, Hh210, Gg210⟩ := id V_b14_208
    have hin210 : ¬ ((8 : Int32) < 0 ∨ cl210.slots.size ≤ ((8 : Int32)).toNatClampNeg) := inb_of Sz210 ⟨by decide, by decide⟩
    obtain ⟨T210, h210, X210, e210, W210, st210⟩ := stB X208 hx hZ e208 Ar210 (j := (8 : Int32)) hin210 (g := (mkF m 211 #[.val (.long q1), .second, .val (.int p2), .val (.int p3), .val (.int p4), .val (.int p5), .val (.int v1), .val (.int v2), .val (.long v3), .second, .val (.long v7), .second, .val (.int (7 : Int32)), .val (.int v13), .val (.ref b14), .unset] [(.int v209), (.int (8 : Int32)), (.ref b14)])) rfl rfl (hb hby at_211)
    have V_b14_210 : Arv Z h210 b14 k14 .byte (16 : Int32) [(.int (nar .byte v13)), (.int (nar .byte v13)), (.int (nar .byte v13)), (.int (nar .byte v13)), (.int (nar .byte v13)), (.int (nar .byte v13)), (.int (nar .byte v13)), (.int (nar .byte v207)), (.int (nar .byte v209)), (.int (nar .byte v13)), (.int (nar .byte v13)), (.int (nar .byte v13)), (.int (nar .byte v13)), (.int (nar .byte v13)), (.int (nar .byte v13)), (.int (nar .byte v13))] (.int (0 : Int32)) := Arv.set Ar210 Qk210 Sz210 Nn210 Hh210 Gg210 (fits_nar_byte _) W210 8 rfl (Nat.le_of_ble_eq_true rfl)
    have N210 := Fr.snoc X210 N208 g_b14
    have Z210 : n0 ≤ h210.size := Nat.le_trans Z208 (Keep.of_wr W210).1
    have K210 := K208.wr W210 (Or.inr sz_b14)
    obtain ⟨lc210, X210, N210⟩ : ∃ lc, Stand p l e room_1 s m #[(.long q1), (.int p2), (.int p3), (.int p4), (.int p5)] below meth c T210 lc 1 16 ∧ Fr n0 lc := ⟨_, X210, N210⟩
    refine OutW.back st210 ?_
    show OutW _ _ _ _ _ _ _ (T210.setTop (mkF m 212 #[.val (.long q1), .second, .val (.int p2), .val (.int p3), .val (.int p4), .val (.int p5), .val (.int v1), .val (.int v2), .val (.long v3), .second, .val (.long v7), .second, .val (.int (7 : Int32)), .val (.int v13), .val (.ref b14), .unset] []))
    refine OutW.back (fun t k => XS.aload X210.here hx rfl (hb hby at_212) rfl rfl  k) ?_
    show OutW _ _ _ _ _ _ _ (T210.setTop (mkF m 214 #[.val (.long q1), .second, .val (.int p2), .val (.int p3), .val (.int p4), .val (.int p5), .val (.int v1), .val (.int v2), .val (.long v3), .second, .val (.long v7), .second, .val (.int (7 : Int32)), .val (.int v13), .val (.ref b14), .unset] [(.ref b14)]))
    refine OutW.back (fun t k => XS.iload X210.here hx rfl (hb hby at_214) rfl  k) ?_
    show OutW _ _ _ _ _ _ _ (T210.setTop (mkF m 216 #[.val (.long q1), .second, .val (.int p2), .val (.int p3), .val (.int p4), .val (.int p5), .val (.int v1), .val (.int v2), .val (.long v3), .second, .val (.long v7), .second, .val (.int (7 : Int32)), .val (.int v13), .val (.ref b14), .unset] [(.int (7 : Int32)), (.ref b14)]))
    refine OutW.back (fun t k => XS.iconst X210.here hx rfl (hb hby at_216) k) ?_
    show OutW _ _ _ _ _ _ _ (T210.setTop (mkF m 217 #[.val (.long q1), .second, .val (.int p2), .val (.int p3), .val (.int p4), .val (.int p5), .val (.int v1), .val (.int v2), .val (.long v3), .second, .val (.long v7), .second, .val (.int (7 : Int32)), .val (.int v13), .val (.ref b14), .unset] [(.int (2 : Int32)), (.int (7 : Int32)), (.ref b14)]))
    refine OutW.back (fun t k => XS.iadd X210.here hx rfl (hb hby at_217) rfl k) ?_
    show OutW _ _ _ _ _ _ _ (T210.setTop (mkF m 218 #[.val (.long q1), .second, .val (.int p2), .val (.int p3), .val (.int p4), .val (.int p5), .val (.int v1), .val (.int v2), .val (.long v3), .second, .val (.long v7), .second, .val (.int (7 : Int32)), .val (.int v13), .val (.ref b14), .unset] [(.int ((7 : Int32) + (2 : Int32))), (.ref b14)]))
    rw [show ((7 : Int32) + (2 : Int32)) = (9 : Int32) from by decide]
    refine OutW.back (fun t k => XS.lload X210.here hx rfl (hb hby at_218) rfl  k) ?_
    show OutW _ _ _ _ _ _ _ (T210.setTop (mkF m 220 #[.val (.long q1), .second, .val (.int p2), .val (.int p3), .val (.int p4), .val (.int p5), .val (.int v1), .val (.int v2), .val (.long v3), .second, .val (.long v7), .second, .val (.int (7 : Int32)), .val (.int v13), .val (.ref b14), .unset] [(.long v7), (.int (9 : Int32)), (.ref b14)]))
    refine OutW.back (fun t k => XS.bipush X210.here hx rfl (hb hby at_220) k) ?_
    show OutW _ _ _ _ _ _ _ (T210.setTop (mkF m 222 #[.val (.long q1), .second, .val (.int p2), .val (.int p3), .val (.int p4), .val (.int p5), .val (.int v1), .val (.int v2), .val (.long v3), .second, .val (.long v7), .second, .val (.int (7 : Int32)), .val (.int v13), .val (.ref b14), .unset] [(.int (16 : Int32)), (.long v7), (.int (9 : Int32)), (.ref b14)]))
    refine OutW.back (fun t k => XS.lushr X210.here hx rfl (hb hby at_222) rfl k) ?_
    show OutW _ _ _ _ _ _ _ (T210.setTop (mkF m 223 #[.val (.long q1), .second, .val (.int p2), .val (.int p3), .val (.int p4), .val (.int p5), .val (.int v1), .val (.int v2), .val (.long v3), .second, .val (.long v7), .second, .val (.int (7 : Int32)), .val (.int v13), .val (.ref b14), .unset] [(.long ((v7.toUInt64 >>> ((16 : Int32) &&& 0x3f).toInt64.toUInt64).toInt64)), (.int (9 : Int32)), (.ref b14)]))
    refine OutW.back (fun t k => XS.l2i X210.here hx rfl (hb hby at_223) rfl k) ?_
    show OutW _ _ _ _ _ _ _ (T210.setTop (mkF m 224 #[.val (.long q1), .second, .val (.int p2), .val (.int p3), .val (.int p4), .val (.int p5), .val (.int v1), .val (.int v2), .val (.long v3), .second, .val (.long v7), .second, .val (.int (7 : Int32)), .val (.int v13), .val (.ref b14), .unset] [(.int ((v7.toUInt64 >>> ((16 : Int32) &&& 0x3f).toInt64.toUInt64).toInt64).toInt32), (.int (9 : Int32)), (.ref b14)]))
    refine OutW.back (fun t k => XS.i2b X210.here hx rfl (hb hby at_224) rfl k) ?_
    show OutW _ _ _ _ _ _ _ (T210.setTop (mkF m 225 #[.val (.long q1), .second, .val (.int p2), .val (.int p3), .val (.int p4), .val (.int p5), .val (.int v1), .val (.int v2), .val (.long v3), .second, .val (.long v7), .second, .val (.int (7 : Int32)), .val (.int v13), .val (.ref b14), .unset] [(.int ((v7.toUInt64 >>> ((16 : Int32) &&& 0x3f).toInt64.toUInt64).toInt64).toInt32.toInt8.toInt32), (.int (9 : Int32)), (.ref b14)]))
    generalize hv_v211 : ((v7.toUInt64 >>> ((16 : Int32) &&& 0x3f).toInt64.toUInt64).toInt64).toInt32.toInt8.toInt32 = v211
    obtain ⟨cl212, Ar212, Qk212, Sz212, Nn212, Hh212, Gg212⟩ := id V_b14_210
    have hin212 : ¬ ((9 : Int32) < 0 ∨ cl212.slots.size ≤ ((9 : Int32)).toNatClampNeg) := inb_of Sz212 ⟨by decide, by decide⟩
    obtain ⟨T212, h212, X212, e212, W212, st212⟩ := stB X210 hx hZ e210 Ar212 (j := (9 : Int32)) hin212 (g := (mkF m 225 #[.val (.long q1), .second, .val (.int p2), .val (.int p3), .val (.int p4), .val (.int p5), .val (.int v1), .val (.int v2), .val (.long v3), .second, .val (.long v7), .second, .val (.int (7 : Int32)), .val (.int v13), .val (.ref b14), .unset] [(.int v211), (.int (9 : Int32)), (.ref b14)])) rfl rfl (hb hby at_225)
    have V_b14_212 : Arv Z h212 b14 k14 .byte (16 : Int32) [(.int (nar .byte v13)), (.int (nar .byte v13)), (.int (nar .byte v13)), (.int (nar .byte v13)), (.int (nar .byte v13)), (.int (nar .byte v13)), (.int (nar .byte v13)), (.int (nar .byte v207)), (.int (nar .byte v209)), (.int (nar .byte v211)), (.int (nar .byte v13)), (.int (nar .byte v13)), (.int (nar .byte v13)), (.int (nar .byte v13)), (.int (nar .byte v13)), (.int (nar .byte v13))] (.int (0 : Int32)) := Arv.set Ar212 Qk212 Sz212 Nn212 Hh212 Gg212 (fits_nar_byte _) W212 9 rfl (Nat.le_of_ble_eq_true rfl)
    have N212 := Fr.snoc X212 N210 g_b14
    have Z212 : n0 ≤ h212.size := Nat.le_trans Z210 (Keep.of_wr W212).1
    have K212 := K210.wr W212 (Or.inr sz_b14)
    obtain ⟨lc212, X212, N212⟩ : ∃ lc, Stand p l e room_1 s m #[(.long q1), (.int p2), (.int p3), (.int p4), (.int p5)] below meth c T212 lc 1 16 ∧ Fr n0 lc := ⟨_, X212, N212⟩
    refine OutW.back st212 ?_
    show OutW _ _ _ _ _ _ _ (T212.setTop (mkF m 226 #[.val (.long q1), .second, .val (.int p2), .val (.int p3), .val (.int p4), .val (.int p5), .val (.int v1), .val (.int v2), .val (.long v3), .second, .val (.long v7), .second, .val (.int (7 : Int32)), .val (.int v13), .val (.ref b14), .unset] []))
    refine OutW.back (fun t k => XS.aload X212.here hx rfl (hb hby at_226) rfl rfl  k) ?_
    show OutW _ _ _ _ _ _ _ (T212.setTop (mkF m 228 #[.val (.long q1), .second, .val (.int p2), .val (.int p3), .val (.int p4), .val (.int p5), .val (.int v1), .val (.int v2), .val (.long v3), .second, .val (.long v7), .second, .val (.int (7 : Int32)), .val (.int v13), .val (.ref b14), .unset] [(.ref b14)]))
    refine OutW.back (fun t k => XS.iload X212.here hx rfl (hb hby at_228) rfl  k) ?_
    show OutW _ _ _ _ _ _ _ (T212.setTop (mkF m 230 #[.val (.long q1), .second, .val (.int p2), .val (.int p3), .val (.int p4), .val (.int p5), .val (.int v1), .val (.int v2), .val (.long v3), .second, .val (.long v7), .second, .val (.int (7 : Int32)), .val (.int v13), .val (.ref b14), .unset] [(.int (7 : Int32)), (.ref b14)]))
    refine OutW.back (fun t k => XS.iconst X212.here hx rfl (hb hby at_230) k) ?_
    show OutW _ _ _ _ _ _ _ (T212.setTop (mkF m 231 #[.val (.long q1), .second, .val (.int p2), .val (.int p3), .val (.int p4), .val (.int p5), .val (.int v1), .val (.int v2), .val (.long v3), .second, .val (.long v7), .second, .val (.int (7 : Int32)), .val (.int v13), .val (.ref b14), .unset] [(.int (3 : Int32)), (.int (7 : Int32)), (.ref b14)]))
    refine OutW.back (fun t k => XS.iadd X212.here hx rfl (hb hby at_231) rfl k) ?_
    show OutW _ _ _ _ _ _ _ (T212.setTop (mkF m 232 #[.val (.long q1), .second, .val (.int p2), .val (.int p3), .val (.int p4), .val (.int p5), .val (.int v1), .val (.int v2), .val (.long v3), .second, .val (.long v7), .second, .val (.int (7 : Int32)), .val (.int v13), .val (.ref b14), .unset] [(.int ((7 : Int32) + (3 : Int32))), (.ref b14)]))
    rw [show ((7 : Int32) + (3 : Int32)) = (10 : Int32) from by decide]
    refine OutW.back (fun t k => XS.lload X212.here hx rfl (hb hby at_232) rfl  k) ?_
    show OutW _ _ _ _ _ _ _ (T212.setTop (mkF m 234 #[.val (.long q1), .second, .val (.int p2), .val (.int p3), .val (.int p4), .val (.int p5), .val (.int v1), .val (.int v2), .val (.long v3), .second, .val (.long v7), .second, .val (.int (7 : Int32)), .val (.int v13), .val (.ref b14), .unset] [(.long v7), (.int (10 : Int32)), (.ref b14)]))
    refine OutW.back (fun t k => XS.bipush X212.here hx rfl (hb hby at_234) k) ?_
    show OutW _ _ _ _ _ _ _ (T212.setTop (mkF m 236 #[.val (.long q1), .second, .val (.int p2), .val (.int p3), .val (.int p4), .val (.int p5), .val (.int v1), .val (.int v2), .val (.long v3), .second, .val (.long v7), .second, .val (.int (7 : Int32)), .val (.int v13), .val (.ref b14), .unset] [(.int (24 : Int32)), (.long v7), (.int (10 : Int32)), (.ref b14)]))
    refine OutW.back (fun t k => XS.lushr X212.here hx rfl (hb hby at_236) rfl k) ?_
    show OutW _ _ _ _ _ _ _ (T212.setTop (mkF m 237 #[.val (.long q1), .second, .val (.int p2), .val (.int p3), .val (.int p4), .val (.int p5), .val (.int v1), .val (.int v2), .val (.long v3), .second, .val (.long v7), .second, .val (.int (7 : Int32)), .val (.int v13), .val (.ref b14), .unset] [(.long ((v7.toUInt64 >>> ((24 : Int32) &&& 0x3f).toInt64.toUInt64).toInt64)), (.int (10 : Int32)), (.ref b14)]))
    refine OutW.back (fun t k => XS.l2i X212.here hx rfl (hb hby at_237) rfl k) ?_
    show OutW _ _ _ _ _ _ _ (T212.setTop (mkF m 238 #[.val (.long q1), .second, .val (.int p2), .val (.int p3), .val (.int p4), .val (.int p5), .val (.int v1), .val (.int v2), .val (.long v3), .second, .val (.long v7), .second, .val (.int (7 : Int32)), .val (.int v13), .val (.ref b14), .unset] [(.int ((v7.toUInt64 >>> ((24 : Int32) &&& 0x3f).toInt64.toUInt64).toInt64).toInt32), (.int (10 : Int32)), (.ref b14)]))
    refine OutW.back (fun t k => XS.i2b X212.here hx rfl (hb hby at_238) rfl k) ?_
    show OutW _ _ _ _ _ _ _ (T212.setTop (mkF m 239 #[.val (.long q1), .second, .val (.int p2), .val (.int p3), .val (.int p4), .val (.int p5), .val (.int v1), .val (.int v2), .val (.long v3), .second, .val (.long v7), .second, .val (.int (7 : Int32)), .val (.int v13), .val (.ref b14), .unset] [(.int ((v7.toUInt64 >>> ((24 : Int32) &&& 0x3f).toInt64.toUInt64).toInt64).toInt32.toInt8.toInt32), (.int (10 : Int32)), (.ref b14)]))
    generalize hv_v213 : ((v7.toUInt64 >>> ((24 : Int32) &&& 0x3f).toInt64.toUInt64).toInt64).toInt32.toInt8.toInt32 = v213
    obtain ⟨cl214, Ar214, Qk214, Sz214, Nn214, Hh214, Gg214⟩ := id V_b14_212
    have hin214 : ¬ ((10 : Int32) < 0 ∨ cl214.slots.size ≤ ((10 : Int32)).toNatClampNeg) := inb_of Sz214 ⟨by decide, by decide⟩
    obtain ⟨T214, h214, X214, e214, W214, st214⟩ := stB X212 hx hZ e212 Ar214 (j := (10 : Int32)) hin214 (g := (mkF m 239 #[.val (.long q1), .second, .val (.int p2), .val (.int p3), .val (.int p4), .val (.int p5), .val (.int v1), .val (.int v2), .val (.long v3), .second, .val (.long v7), .second, .val (.int (7 : Int32)), .val (.int v13), .val (.ref b14), .unset] [(.int v213), (.int (10 : Int32)), (.ref b14)])) rfl rfl (hb hby at_239)
    have V_b14_214 : Arv Z h214 b14 k14 .byte (16 : Int32) [(.int (nar .byte v13)), (.int (nar .byte v13)), (.int (nar .byte v13)), (.int (nar .byte v13)), (.int (nar .byte v13)), (.int (nar .byte v13)), (.int (nar .byte v13)), (.int (nar .byte v207)), (.int (nar .byte v209)), (.int (nar .byte v211)), (.int (nar .byte v213)), (.int (nar .byte v13)), (.int (nar .byte v13)), (.int (nar .byte v13)), (.int (nar .byte v13)), (.int (nar .byte v13))] (.int (0 : Int32)) := Arv.set Ar214 Qk214 Sz214 Nn214 Hh214 Gg214 (fits_nar_byte _) W214 10 rfl (Nat.le_of_ble_eq_true rfl)
    have N214 := Fr.snoc X214 N212 g_b14
    have Z214 : n0 ≤ h214.size := Nat.le_trans Z212 (Keep.of_wr W214).1
    have K214 := K212.wr W214 (Or.inr sz_b14)
    obtain ⟨lc214, X214, N214⟩ : ∃ lc, Stand p l e room_1 s m #[(.long q1), (.int p2), (.int p3), (.int p4), (.int p5)] below meth c T214 lc 1 16 ∧ Fr n0 lc := ⟨_, X214, N214⟩
    refine OutW.back st214 ?_
    show OutW _ _ _ _ _ _ _ (T214.setTop (mkF m 240 #[.val (.long q1), .second, .val (.int p2), .val (.int p3), .val (.int p4), .val (.int p5), .val (.int v1), .val (.int v2), .val (.long v3), .second, .val (.long v7), .second, .val (.int (7 : Int32)), .val (.int v13), .val (.ref b14), .unset] []))
    refine OutW.back (fun t k => XS.aload X214.here hx rfl (hb hby at_240) rfl rfl  k) ?_
    show OutW _ _ _ _ _ _ _ (T214.setTop (mkF m 242 #[.val (.long q1), .second, .val (.int p2), .val (.int p3), .val (.int p4), .val (.int p5), .val (.int v1), .val (.int v2), .val (.long v3), .second, .val (.long v7), .second, .val (.int (7 : Int32)), .val (.int v13), .val (.ref b14), .unset] [(.ref b14)]))
    refine OutW.back (fun t k => XS.iload X214.here hx rfl (hb hby at_242) rfl  k) ?_
    show OutW _ _ _ _ _ _ _ (T214.setTop (mkF m 244 #[.val (.long q1), .second, .val (.int p2), .val (.int p3), .val (.int p4), .val (.int p5), .val (.int v1), .val (.int v2), .val (.long v3), .second, .val (.long v7), .second, .val (.int (7 : Int32)), .val (.int v13), .val (.ref b14), .unset] [(.int (7 : Int32)), (.ref b14)]))
    refine OutW.back (fun t k => XS.iconst X214.here hx rfl (hb hby at_244) k) ?_
    show OutW _ _ _ _ _ _ _ (T214.setTop (mkF m 245 #[.val (.long q1), .second, .val (.int p2), .val (.int p3), .val (.int p4), .val (.int p5), .val (.int v1), .val (.int v2), .val (.long v3), .second, .val (.long v7), .second, .val (.int (7 : Int32)), .val (.int v13), .val (.ref b14), .unset] [(.int (4 : Int32)), (.int (7 : Int32)), (.ref b14)]))
    refine OutW.back (fun t k => XS.iadd X214.here hx rfl (hb hby at_245) rfl k) ?_
    show OutW _ _ _ _ _ _ _ (T214.setTop (mkF m 246 #[.val (.long q1), .second, .val (.int p2), .val (.int p3), .val (.int p4), .val (.int p5), .val (.int v1), .val (.int v2), .val (.long v3), .second, .val (.long v7), .second, .val (.int (7 : Int32)), .val (.int v13), .val (.ref b14), .unset] [(.int ((7 : Int32) + (4 : Int32))), (.ref b14)]))
    rw [show ((7 : Int32) + (4 : Int32)) = (11 : Int32) from by decide]
    refine OutW.back (fun t k => XS.lload X214.here hx rfl (hb hby at_246) rfl  k) ?_
    show OutW _ _ _ _ _ _ _ (T214.setTop (mkF m 248 #[.val (.long q1), .second, .val (.int p2), .val (.int p3), .val (.int p4), .val (.int p5), .val (.int v1), .val (.int v2), .val (.long v3), .second, .val (.long v7), .second, .val (.int (7 : Int32)), .val (.int v13), .val (.ref b14), .unset] [(.long v7), (.int (11 : Int32)), (.ref b14)]))
    refine OutW.back (fun t k => XS.bipush X214.here hx rfl (hb hby at_248) k) ?_
    show OutW _ _ _ _ _ _ _ (T214.setTop (mkF m 250 #[.val (.long q1), .second, .val (.int p2), .val (.int p3), .val (.int p4), .val (.int p5), .val (.int v1), .val (.int v2), .val (.long v3), .second, .val (.long v7), .second, .val (.int (7 : Int32)), .val (.int v13), .val (.ref b14), .unset] [(.int (32 : Int32)), (.long v7), (.int (11 : Int32)), (.ref b14)]))
    refine OutW.back (fun t k => XS.lushr X214.here hx rfl (hb hby at_250) rfl k) ?_
    show OutW _ _ _ _ _ _ _ (T214.setTop (mkF m 251 #[.val (.long q1), .second, .val (.int p2), .val (.int p3), .val (.int p4), .val (.int p5), .val (.int v1), .val (.int v2), .val (.long v3), .second, .val (.long v7), .second, .val (.int (7 : Int32)), .val (.int v13), .val (.ref b14), .unset] [(.long ((v7.toUInt64 >>> ((32 : Int32) &&& 0x3f).toInt64.toUInt64).toInt64)), (.int (11 : Int32)), (.ref b14)]))
    refine OutW.back (fun t k => XS.l2i X214.here hx rfl (hb hby at_251) rfl k) ?_
    show OutW _ _ _ _ _ _ _ (T214.setTop (mkF m 252 #[.val (.long q1), .second, .val (.int p2), .val (.int p3), .val (.int p4), .val (.int p5), .val (.int v1), .val (.int v2), .val (.long v3), .second, .val (.long v7), .second, .val (.int (7 : Int32)), .val (.int v13), .val (.ref b14), .unset] [(.int ((v7.toUInt64 >>> ((32 : Int32) &&& 0x3f).toInt64.toUInt64).toInt64).toInt32), (.int (11 : Int32)), (.ref b14)]))
    refine OutW.back (fun t k => XS.i2b X214.here hx rfl (hb hby at_252) rfl k) ?_
    show OutW _ _ _ _ _ _ _ (T214.setTop (mkF m 253 #[.val (.long q1), .second, .val (.int p2), .val (.int p3), .val (.int p4), .val (.int p5), .val (.int v1), .val (.int v2), .val (.long v3), .second, .val (.long v7), .second, .val (.int (7 : Int32)), .val (.int v13), .val (.ref b14), .unset] [(.int ((v7.toUInt64 >>> ((32 : Int32) &&& 0x3f).toInt64.toUInt64).toInt64).toInt32.toInt8.toInt32), (.int (11 : Int32)), (.ref b14)]))
    generalize hv_v215 : ((v7.toUInt64 >>> ((32 : Int32) &&& 0x3f).toInt64.toUInt64).toInt64).toInt32.toInt8.toInt32 = v215
    obtain ⟨cl216, Ar216, Qk216, Sz216, Nn216, Hh216, Gg216⟩ := id V_b14_214
    have hin216 : ¬ ((11 : Int32) < 0 ∨ cl216.slots.size ≤ ((11 : Int32)).toNatClampNeg) := inb_of Sz216 ⟨by decide, by decide⟩
    obtain ⟨T216, h216, X216, e216, W216, st216⟩ := stB X214 hx hZ e214 Ar216 (j := (11 : Int32)) hin216 (g := (mkF m 253 #[.val (.long q1), .second, .val (.int p2), .val (.int p3), .val (.int p4), .val (.int p5), .val (.int v1), .val (.int v2), .val (.long v3), .second, .val (.long v7), .second, .val (.int (7 : Int32)), .val (.int v13), .val (.ref b14), .unset] [(.int v215), (.int (11 : Int32)), (.ref b14)])) rfl rfl (hb hby at_253)
    have V_b14_216 : Arv Z h216 b14 k14 .byte (16 : Int32) [(.int (nar .byte v13)), (.int (nar .byte v13)), (.int (nar .byte v13)), (.int (nar .byte v13)), (.int (nar .byte v13)), (.int (nar .byte v13)), (.int (nar .byte v13)), (.int (nar .byte v207)), (.int (nar .byte v209)), (.int (nar .byte v211)), (.int (nar .byte v213)), (.int (nar .byte v215)), (.int (nar .byte v13)), (.int (nar .byte v13)), (.int (nar .byte v13)), (.int (nar .byte v13))] (.int (0 : Int32)) := Arv.set Ar216 Qk216 Sz216 Nn216 Hh216 Gg216 (fits_nar_byte _) W216 11 rfl (Nat.le_of_ble_eq_true rfl)
    have N216 := Fr.snoc X216 N214 g_b14
    have Z216 : n0 ≤ h216.size := Nat.le_trans Z214 (Keep.of_wr W216).1
    have K216 := K214.wr W216 (Or.inr sz_b14)
    obtain ⟨lc216, X216, N216⟩ : ∃ lc, Stand p l e room_1 s m #[(.long q1), (.int p2), (.int p3), (.int p4), (.int p5)] below meth c T216 lc 1 16 ∧ Fr n0 lc := ⟨_, X216, N216⟩
    refine OutW.back st216 ?_
    show OutW _ _ _ _ _ _ _ (T216.setTop (mkF m 254 #[.val (.long q1), .second, .val (.int p2), .val (.int p3), .val (.int p4), .val (.int p5), .val (.int v1), .val (.int v2), .val (.long v3), .second, .val (.long v7), .second, .val (.int (7 : Int32)), .val (.int v13), .val (.ref b14), .unset] []))
    refine OutW.back (fun t k => XS.aload X216.here hx rfl (hb hby at_254) rfl rfl  k) ?_
    show OutW _ _ _ _ _ _ _ (T216.setTop (mkF m 256 #[.val (.long q1), .second, .val (.int p2), .val (.int p3), .val (.int p4), .val (.int p5), .val (.int v1), .val (.int v2), .val (.long v3), .second, .val (.long v7), .second, .val (.int (7 : Int32)), .val (.int v13), .val (.ref b14), .unset] [(.ref b14)]))
    refine OutW.back (fun t k => XS.iload X216.here hx rfl (hb hby at_256) rfl  k) ?_
    show OutW _ _ _ _ _ _ _ (T216.setTop (mkF m 258 #[.val (.long q1), .second, .val (.int p2), .val (.int p3), .val (.int p4), .val (.int p5), .val (.int v1), .val (.int v2), .val (.long v3), .second, .val (.long v7), .second, .val (.int (7 : Int32)), .val (.int v13), .val (.ref b14), .unset] [(.int (7 : Int32)), (.ref b14)]))
    refine OutW.back (fun t k => XS.iconst X216.here hx rfl (hb hby at_258) k) ?_
    show OutW _ _ _ _ _ _ _ (T216.setTop (mkF m 259 #[.val (.long q1), .second, .val (.int p2), .val (.int p3), .val (.int p4), .val (.int p5), .val (.int v1), .val (.int v2), .val (.long v3), .second, .val (.long v7), .second, .val (.int (7 : Int32)), .val (.int v13), .val (.ref b14), .unset] [(.int (5 : Int32)), (.int (7 : Int32)), (.ref b14)]))
    refine OutW.back (fun t k => XS.iadd X216.here hx rfl (hb hby at_259) rfl k) ?_
    show OutW _ _ _ _ _ _ _ (T216.setTop (mkF m 260 #[.val (.long q1), .second, .val (.int p2), .val (.int p3), .val (.int p4), .val (.int p5), .val (.int v1), .val (.int v2), .val (.long v3), .second, .val (.long v7), .second, .val (.int (7 : Int32)), .val (.int v13), .val (.ref b14), .unset] [(.int ((7 : Int32) + (5 : Int32))), (.ref b14)]))
    rw [show ((7 : Int32) + (5 : Int32)) = (12 : Int32) from by decide]
    refine OutW.back (fun t k => XS.lload X216.here hx rfl (hb hby at_260) rfl  k) ?_
    show OutW _ _ _ _ _ _ _ (T216.setTop (mkF m 262 #[.val (.long q1), .second, .val (.int p2), .val (.int p3), .val (.int p4), .val (.int p5), .val (.int v1), .val (.int v2), .val (.long v3), .second, .val (.long v7), .second, .val (.int (7 : Int32)), .val (.int v13), .val (.ref b14), .unset] [(.long v7), (.int (12 : Int32)), (.ref b14)]))
    refine OutW.back (fun t k => XS.bipush X216.here hx rfl (hb hby at_262) k) ?_
    show OutW _ _ _ _ _ _ _ (T216.setTop (mkF m 264 #[.val (.long q1), .second, .val (.int p2), .val (.int p3), .val (.int p4), .val (.int p5), .val (.int v1), .val (.int v2), .val (.long v3), .second, .val (.long v7), .second, .val (.int (7 : Int32)), .val (.int v13), .val (.ref b14), .unset] [(.int (40 : Int32)), (.long v7), (.int (12 : Int32)), (.ref b14)]))
    refine OutW.back (fun t k => XS.lushr X216.here hx rfl (hb hby at_264) rfl k) ?_
    show OutW _ _ _ _ _ _ _ (T216.setTop (mkF m 265 #[.val (.long q1), .second, .val (.int p2), .val (.int p3), .val (.int p4), .val (.int p5), .val (.int v1), .val (.int v2), .val (.long v3), .second, .val (.long v7), .second, .val (.int (7 : Int32)), .val (.int v13), .val (.ref b14), .unset] [(.long ((v7.toUInt64 >>> ((40 : Int32) &&& 0x3f).toInt64.toUInt64).toInt64)), (.int (12 : Int32)), (.ref b14)]))
    refine OutW.back (fun t k => XS.l2i X216.here hx rfl (hb hby at_265) rfl k) ?_
    show OutW _ _ _ _ _ _ _ (T216.setTop (mkF m 266 #[.val (.long q1), .second, .val (.int p2), .val (.int p3), .val (.int p4), .val (.int p5), .val (.int v1), .val (.int v2), .val (.long v3), .second, .val (.long v7), .second, .val (.int (7 : Int32)), .val (.int v13), .val (.ref b14), .unset] [(.int ((v7.toUInt64 >>> ((40 : Int32) &&& 0x3f).toInt64.toUInt64).toInt64).toInt32), (.int (12 : Int32)), (.ref b14)]))
    refine OutW.back (fun t k => XS.i2b X216.here hx rfl (hb hby at_266) rfl k) ?_
    show OutW _ _ _ _ _ _ _ (T216.setTop (mkF m 267 #[.val (.long q1), .second, .val (.int p2), .val (.int p3), .val (.int p4), .val (.int p5), .val (.int v1), .val (.int v2), .val (.long v3), .second, .val (.long v7), .second, .val (.int (7 : Int32)), .val (.int v13), .val (.ref b14), .unset] [(.int ((v7.toUInt64 >>> ((40 : Int32) &&& 0x3f).toInt64.toUInt64).toInt64).toInt32.toInt8.toInt32), (.int (12 : Int32)), (.ref b14)]))
    generalize hv_v217 : ((v7.toUInt64 >>> ((40 : Int32) &&& 0x3f).toInt64.toUInt64).toInt64).toInt32.toInt8.toInt32 = v217
    obtain ⟨cl218, Ar218, Qk218, Sz218, Nn218, Hh218, Gg218⟩ := id V_b14_216
    have hin218 : ¬ ((12 : Int32) < 0 ∨ cl218.slots.size ≤ ((12 : Int32)).toNatClampNeg) := inb_of Sz218 ⟨by decide, by decide⟩
    obtain ⟨T218, h218, X218, e218, W218, st218⟩ := stB X216 hx hZ e216 Ar218 (j := (12 : Int32)) hin218 (g := (mkF m 267 #[.val (.long q1), .second, .val (.int p2), .val (.int p3), .val (.int p4), .val (.int p5), .val (.int v1), .val (.int v2), .val (.long v3), .second, .val (.long v7), .second, .val (.int (7 : Int32)), .val (.int v13), .val (.ref b14), .unset] [(.int v217), (.int (12 : Int32)), (.ref b14)])) rfl rfl (hb hby at_267)
    have V_b14_218 : Arv Z h218 b14 k14 .byte (16 : Int32) [(.int (nar .byte v13)), (.int (nar .byte v13)), (.int (nar .byte v13)), (.int (nar .byte v13)), (.int (nar .byte v13)), (.int (nar .byte v13)), (.int (nar .byte v13)), (.int (nar .byte v207)), (.int (nar .byte v209)), (.int (nar .byte v211)), (.int (nar .byte v213)), (.int (nar .byte v215)), (.int (nar .byte v217)), (.int (nar .byte v13)), (.int (nar .byte v13)), (.int (nar .byte v13))] (.int (0 : Int32)) := Arv.set Ar218 Qk218 Sz218 Nn218 Hh218 Gg218 (fits_nar_byte _) W218 12 rfl (Nat.le_of_ble_eq_true rfl)
    have N218 := Fr.snoc X218 N216 g_b14
    have Z218 : n0 ≤ h218.size := Nat.le_trans Z216 (Keep.of_wr W218).1
    have K218 := K216.wr W218 (Or.inr sz_b14)
    obtain ⟨lc218, X218, N218⟩ : ∃ lc, Stand p l e room_1 s m #[(.long q1), (.int p2), (.int p3), (.int p4), (.int p5)] below meth c T218 lc 1 16 ∧ Fr n0 lc := ⟨_, X218, N218⟩
    refine OutW.back st218 ?_
    show OutW _ _ _ _ _ _ _ (T218.setTop (mkF m 268 #[.val (.long q1), .second, .val (.int p2), .val (.int p3), .val (.int p4), .val (.int p5), .val (.int v1), .val (.int v2), .val (.long v3), .second, .val (.long v7), .second, .val (.int (7 : Int32)), .val (.int v13), .val (.ref b14), .unset] []))
    refine OutW.back (fun t k => XS.aload X218.here hx rfl (hb hby at_268) rfl rfl  k) ?_
    show OutW _ _ _ _ _ _ _ (T218.setTop (mkF m 270 #[.val (.long q1), .second, .val (.int p2), .val (.int p3), .val (.int p4), .val (.int p5), .val (.int v1), .val (.int v2), .val (.long v3), .second, .val (.long v7), .second, .val (.int (7 : Int32)), .val (.int v13), .val (.ref b14), .unset] [(.ref b14)]))
    refine OutW.back (fun t k => XS.iload X218.here hx rfl (hb hby at_270) rfl  k) ?_
    show OutW _ _ _ _ _ _ _ (T218.setTop (mkF m 272 #[.val (.long q1), .second, .val (.int p2), .val (.int p3), .val (.int p4), .val (.int p5), .val (.int v1), .val (.int v2), .val (.long v3), .second, .val (.long v7), .second, .val (.int (7 : Int32)), .val (.int v13), .val (.ref b14), .unset] [(.int (7 : Int32)), (.ref b14)]))
    refine OutW.back (fun t k => XS.bipush X218.here hx rfl (hb hby at_272) k) ?_
    show OutW _ _ _ _ _ _ _ (T218.setTop (mkF m 274 #[.val (.long q1), .second, .val (.int p2), .val (.int p3), .val (.int p4), .val (.int p5), .val (.int v1), .val (.int v2), .val (.long v3), .second, .val (.long v7), .second, .val (.int (7 : Int32)), .val (.int v13), .val (.ref b14), .unset] [(.int (6 : Int32)), (.int (7 : Int32)), (.ref b14)]))
    refine OutW.back (fun t k => XS.iadd X218.here hx rfl (hb hby at_274) rfl k) ?_
    show OutW _ _ _ _ _ _ _ (T218.setTop (mkF m 275 #[.val (.long q1), .second, .val (.int p2), .val (.int p3), .val (.int p4), .val (.int p5), .val (.int v1), .val (.int v2), .val (.long v3), .second, .val (.long v7), .second, .val (.int (7 : Int32)), .val (.int v13), .val (.ref b14), .unset] [(.int ((7 : Int32) + (6 : Int32))), (.ref b14)]))
    rw [show ((7 : Int32) + (6 : Int32)) = (13 : Int32) from by decide]
    refine OutW.back (fun t k => XS.lload X218.here hx rfl (hb hby at_275) rfl  k) ?_
    show OutW _ _ _ _ _ _ _ (T218.setTop (mkF m 277 #[.val (.long q1), .second, .val (.int p2), .val (.int p3), .val (.int p4), .val (.int p5), .val (.int v1), .val (.int v2), .val (.long v3), .second, .val (.long v7), .second, .val (.int (7 : Int32)), .val (.int v13), .val (.ref b14), .unset] [(.long v7), (.int (13 : Int32)), (.ref b14)]))
    refine OutW.back (fun t k => XS.bipush X218.here hx rfl (hb hby at_277) k) ?_
    show OutW _ _ _ _ _ _ _ (T218.setTop (mkF m 279 #[.val (.long q1), .second, .val (.int p2), .val (.int p3), .val (.int p4), .val (.int p5), .val (.int v1), .val (.int v2), .val (.long v3), .second, .val (.long v7), .second, .val (.int (7 : Int32)), .val (.int v13), .val (.ref b14), .unset] [(.int (48 : Int32)), (.long v7), (.int (13 : Int32)), (.ref b14)]))
    refine OutW.back (fun t k => XS.lushr X218.here hx rfl (hb hby at_279) rfl k) ?_
    show OutW _ _ _ _ _ _ _ (T218.setTop (mkF m 280 #[.val (.long q1), .second, .val (.int p2), .val (.int p3), .val (.int p4), .val (.int p5), .val (.int v1), .val (.int v2), .val (.long v3), .second, .val (.long v7), .second, .val (.int (7 : Int32)), .val (.int v13), .val (.ref b14), .unset] [(.long ((v7.toUInt64 >>> ((48 : Int32) &&& 0x3f).toInt64.toUInt64).toInt64)), (.int (13 : Int32)), (.ref b14)]))
    refine OutW.back (fun t k => XS.l2i X218.here hx rfl (hb hby at_280) rfl k) ?_
    show OutW _ _ _ _ _ _ _ (T218.setTop (mkF m 281 #[.val (.long q1), .second, .val (.int p2), .val (.int p3), .val (.int p4), .val (.int p5), .val (.int v1), .val (.int v2), .val (.long v3), .second, .val (.long v7), .second, .val (.int (7 : Int32)), .val (.int v13), .val (.ref b14), .unset] [(.int ((v7.toUInt64 >>> ((48 : Int32) &&& 0x3f).toInt64.toUInt64).toInt64).toInt32), (.int (13 : Int32)), (.ref b14)]))
    refine OutW.back (fun t k => XS.i2b X218.here hx rfl (hb hby at_281) rfl k) ?_
    show OutW _ _ _ _ _ _ _ (T218.setTop (mkF m 282 #[.val (.long q1), .second, .val (.int p2), .val (.int p3), .val (.int p4), .val (.int p5), .val (.int v1), .val (.int v2), .val (.long v3), .second, .val (.long v7), .second, .val (.int (7 : Int32)), .val (.int v13), .val (.ref b14), .unset] [(.int ((v7.toUInt64 >>> ((48 : Int32) &&& 0x3f).toInt64.toUInt64).toInt64).toInt32.toInt8.toInt32), (.int (13 : Int32)), (.ref b14)]))
    generalize hv_v219 : ((v7.toUInt64 >>> ((48 : Int32) &&& 0x3f).toInt64.toUInt64).toInt64).toInt32.toInt8.toInt32 = v219
    obtain ⟨cl220, Ar220, Qk220, Sz220, Nn220, Hh220, Gg220⟩ := id V_b14_218
    have hin220 : ¬ ((13 : Int32) < 0 ∨ cl220.slots.size ≤ ((13 : Int32)).toNatClampNeg) := inb_of Sz220 ⟨by decide, by decide⟩
    obtain ⟨T220, h220, X220, e220, W220, st220⟩ := stB X218 hx hZ e218 Ar220 (j := (13 : Int32)) hin220 (g := (mkF m 282 #[.val (.long q1), .second, .val (.int p2), .val (.int p3), .val (.int p4), .val (.int p5), .val (.int v1), .val (.int v2), .val (.long v3), .second, .val (.long v7), .second, .val (.int (7 : Int32)), .val (.int v13), .val (.ref b14), .unset] [(.int v219), (.int (13 : Int32)), (.ref b14)])) rfl rfl (hb hby at_282)
    have V_b14_220 : Arv Z h220 b14 k14 .byte (16 : Int32) [(.int (nar .byte v13)), (.int (nar .byte v13)), (.int (nar .byte v13)), (.int (nar .byte v13)), (.int (nar .byte v13)), (.int (nar .byte v13)), (.int (nar .byte v13)), (.int (nar .byte v207)), (.int (nar .byte v209)), (.int (nar .byte v211)), (.int (nar .byte v213)), (.int (nar .byte v215)), (.int (nar .byte v217)), (.int (nar .byte v219)), (.int (nar .byte v13)), (.int (nar .byte v13))] (.int (0 : Int32)) := Arv.set Ar220 Qk220 Sz220 Nn220 Hh220 Gg220 (fits_nar_byte _) W220 13 rfl (Nat.le_of_ble_eq_true rfl)
    have N220 := Fr.snoc X220 N218 g_b14
    have Z220 : n0 ≤ h220.size := Nat.le_trans Z218 (Keep.of_wr W220).1
    have K220 := K218.wr W220 (Or.inr sz_b14)
    obtain ⟨lc220, X220, N220⟩ : ∃ lc, Stand p l e room_1 s m #[(.long q1), (.int p2), (.int p3), (.int p4), (.int p5)] below meth c T220 lc 1 16 ∧ Fr n0 lc := ⟨_, X220, N220⟩
    refine OutW.back st220 ?_
    show OutW _ _ _ _ _ _ _ (T220.setTop (mkF m 283 #[.val (.long q1), .second, .val (.int p2), .val (.int p3), .val (.int p4), .val (.int p5), .val (.int v1), .val (.int v2), .val (.long v3), .second, .val (.long v7), .second, .val (.int (7 : Int32)), .val (.int v13), .val (.ref b14), .unset] []))
    refine OutW.back (fun t k => XS.aload X220.here hx rfl (hb hby at_283) rfl rfl  k) ?_
    show OutW _ _ _ _ _ _ _ (T220.setTop (mkF m 285 #[.val (.long q1), .second, .val (.int p2), .val (.int p3), .val (.int p4), .val (.int p5), .val (.int v1), .val (.int v2), .val (.long v3), .second, .val (.long v7), .second, .val (.int (7 : Int32)), .val (.int v13), .val (.ref b14), .unset] [(.ref b14)]))
    refine OutW.back (fun t k => XS.iload X220.here hx rfl (hb hby at_285) rfl  k) ?_
    show OutW _ _ _ _ _ _ _ (T220.setTop (mkF m 287 #[.val (.long q1), .second, .val (.int p2), .val (.int p3), .val (.int p4), .val (.int p5), .val (.int v1), .val (.int v2), .val (.long v3), .second, .val (.long v7), .second, .val (.int (7 : Int32)), .val (.int v13), .val (.ref b14), .unset] [(.int (7 : Int32)), (.ref b14)]))
    refine OutW.back (fun t k => XS.bipush X220.here hx rfl (hb hby at_287) k) ?_
    show OutW _ _ _ _ _ _ _ (T220.setTop (mkF m 289 #[.val (.long q1), .second, .val (.int p2), .val (.int p3), .val (.int p4), .val (.int p5), .val (.int v1), .val (.int v2), .val (.long v3), .second, .val (.long v7), .second, .val (.int (7 : Int32)), .val (.int v13), .val (.ref b14), .unset] [(.int (7 : Int32)), (.int (7 : Int32)), (.ref b14)]))
    refine OutW.back (fun t k => XS.iadd X220.here hx rfl (hb hby at_289) rfl k) ?_
    show OutW _ _ _ _ _ _ _ (T220.setTop (mkF m 290 #[.val (.long q1), .second, .val (.int p2), .val (.int p3), .val (.int p4), .val (.int p5), .val (.int v1), .val (.int v2), .val (.long v3), .second, .val (.long v7), .second, .val (.int (7 : Int32)), .val (.int v13), .val (.ref b14), .unset] [(.int ((7 : Int32) + (7 : Int32))), (.ref b14)]))
    rw [show ((7 : Int32) + (7 : Int32)) = (14 : Int32) from by decide]
    refine OutW.back (fun t k => XS.lload X220.here hx rfl (hb hby at_290) rfl  k) ?_
    show OutW _ _ _ _ _ _ _ (T220.setTop (mkF m 292 #[.val (.long q1), .second, .val (.int p2), .val (.int p3), .val (.int p4), .val (.int p5), .val (.int v1), .val (.int v2), .val (.long v3), .second, .val (.long v7), .second, .val (.int (7 : Int32)), .val (.int v13), .val (.ref b14), .unset] [(.long v7), (.int (14 : Int32)), (.ref b14)]))
    refine OutW.back (fun t k => XS.bipush X220.here hx rfl (hb hby at_292) k) ?_
    show OutW _ _ _ _ _ _ _ (T220.setTop (mkF m 294 #[.val (.long q1), .second, .val (.int p2), .val (.int p3), .val (.int p4), .val (.int p5), .val (.int v1), .val (.int v2), .val (.long v3), .second, .val (.long v7), .second, .val (.int (7 : Int32)), .val (.int v13), .val (.ref b14), .unset] [(.int (56 : Int32)), (.long v7), (.int (14 : Int32)), (.ref b14)]))
    refine OutW.back (fun t k => XS.lushr X220.here hx rfl (hb hby at_294) rfl k) ?_
    show OutW _ _ _ _ _ _ _ (T220.setTop (mkF m 295 #[.val (.long q1), .second, .val (.int p2), .val (.int p3), .val (.int p4), .val (.int p5), .val (.int v1), .val (.int v2), .val (.long v3), .second, .val (.long v7), .second, .val (.int (7 : Int32)), .val (.int v13), .val (.ref b14), .unset] [(.long ((v7.toUInt64 >>> ((56 : Int32) &&& 0x3f).toInt64.toUInt64).toInt64)), (.int (14 : Int32)), (.ref b14)]))
    refine OutW.back (fun t k => XS.l2i X220.here hx rfl (hb hby at_295) rfl k) ?_
    show OutW _ _ _ _ _ _ _ (T220.setTop (mkF m 296 #[.val (.long q1), .second, .val (.int p2), .val (.int p3), .val (.int p4), .val (.int p5), .val (.int v1), .val (.int v2), .val (.long v3), .second, .val (.long v7), .second, .val (.int (7 : Int32)), .val (.int v13), .val (.ref b14), .unset] [(.int ((v7.toUInt64 >>> ((56 : Int32) &&& 0x3f).toInt64.toUInt64).toInt64).toInt32), (.int (14 : Int32)), (.ref b14)]))
    refine OutW.back (fun t k => XS.i2b X220.here hx rfl (hb hby at_296) rfl k) ?_
    show OutW _ _ _ _ _ _ _ (T220.setTop (mkF m 297 #[.val (.long q1), .second, .val (.int p2), .val (.int p3), .val (.int p4), .val (.int p5), .val (.int v1), .val (.int v2), .val (.long v3), .second, .val (.long v7), .second, .val (.int (7 : Int32)), .val (.int v13), .val (.ref b14), .unset] [(.int ((v7.toUInt64 >>> ((56 : Int32) &&& 0x3f).toInt64.toUInt64).toInt64).toInt32.toInt8.toInt32), (.int (14 : Int32)), (.ref b14)]))
    generalize hv_v221 : ((v7.toUInt64 >>> ((56 : Int32) &&& 0x3f).toInt64.toUInt64).toInt64).toInt32.toInt8.toInt32 = v221
    obtain ⟨cl222, Ar222, Qk222, Sz222, Nn222, Hh222, Gg222⟩ := id V_b14_220
    have hin222 : ¬ ((14 : Int32) < 0 ∨ cl222.slots.size ≤ ((14 : Int32)).toNatClampNeg) := inb_of Sz222 ⟨by decide, by decide⟩
    obtain ⟨T222, h222, X222, e222, W222, st222⟩ := stB X220 hx hZ e220 Ar222 (j := (14 : Int32)) hin222 (g := (mkF m 297 #[.val (.long q1), .second, .val (.int p2), .val (.int p3), .val (.int p4), .val (.int p5), .val (.int v1), .val (.int v2), .val (.long v3), .second, .val (.long v7), .second, .val (.int (7 : Int32)), .val (.int v13), .val (.ref b14), .unset] [(.int v221), (.int (14 : Int32)), (.ref b14)])) rfl rfl (hb hby at_297)
    have V_b14_222 : Arv Z h222 b14 k14 .byte (16 : Int32) [(.int (nar .byte v13)), (.int (nar .byte v13)), (.int (nar .byte v13)), (.int (nar .byte v13)), (.int (nar .byte v13)), (.int (nar .byte v13)), (.int (nar .byte v13)), (.int (nar .byte v207)), (.int (nar .byte v209)), (.int (nar .byte v211)), (.int (nar .byte v213)), (.int (nar .byte v215)), (.int (nar .byte v217)), (.int (nar .byte v219)), (.int (nar .byte v221)), (.int (nar .byte v13))] (.int (0 : Int32)) := Arv.set Ar222 Qk222 Sz222 Nn222 Hh222 Gg222 (fits_nar_byte _) W222 14 rfl (Nat.le_of_ble_eq_true rfl)
    have N222 := Fr.snoc X222 N220 g_b14
    have Z222 : n0 ≤ h222.size := Nat.le_trans Z220 (Keep.of_wr W222).1
    have K222 := K220.wr W222 (Or.inr sz_b14)
    obtain ⟨lc222, X222, N222⟩ : ∃ lc, Stand p l e room_1 s m #[(.long q1), (.int p2), (.int p3), (.int p4), (.int p5)] below meth c T222 lc 1 16 ∧ Fr n0 lc := ⟨_, X222, N222⟩
    refine OutW.back st222 ?_
    show OutW _ _ _ _ _ _ _ (T222.setTop (mkF m 298 #[.val (.long q1), .second, .val (.int p2), .val (.int p3), .val (.int p4), .val (.int p5), .val (.int v1), .val (.int v2), .val (.long v3), .second, .val (.long v7), .second, .val (.int (7 : Int32)), .val (.int v13), .val (.ref b14), .unset] []))
    refine OutW.back (fun t k => XS.lload X222.here hx rfl (hb hby at_298) rfl  k) ?_
    show OutW _ _ _ _ _ _ _ (T222.setTop (mkF m 300 #[.val (.long q1), .second, .val (.int p2), .val (.int p3), .val (.int p4), .val (.int p5), .val (.int v1), .val (.int v2), .val (.long v3), .second, .val (.long v7), .second, .val (.int (7 : Int32)), .val (.int v13), .val (.ref b14), .unset] [(.long v7)]))
    refine OutW.back (X222.ldc2Long hx hown (mvT hZ (hw _ (List.mem_of_getElem? (i := 1) rfl))) (g := (mkF m 300 #[.val (.long q1), .second, .val (.int p2), .val (.int p3), .val (.int p4), .val (.int p5), .val (.int v1), .val (.int v2), .val (.long v3), .second, .val (.long v7), .second, .val (.int (7 : Int32)), .val (.int v13), .val (.ref b14), .unset] [(.long v7)])) rfl (hb hby at_300)) ?_
    show OutW _ _ _ _ _ _ _ (T222.setTop (mkF m 303 #[.val (.long q1), .second, .val (.int p2), .val (.int p3), .val (.int p4), .val (.int p5), .val (.int v1), .val (.int v2), .val (.long v3), .second, .val (.long v7), .second, .val (.int (7 : Int32)), .val (.int v13), .val (.ref b14), .unset] [(.long (-9223372036854775808 : Int64)), (.long v7)]))
    refine OutW.back (fun t k => XS.lcmp X222.here hx rfl (hb hby at_303) rfl k) ?_
    show OutW _ _ _ _ _ _ _ (T222.setTop (mkF m 304 #[.val (.long q1), .second, .val (.int p2), .val (.int p3), .val (.int p4), .val (.int p5), .val (.int v1), .val (.int v2), .val (.long v3), .second, .val (.long v7), .second, .val (.int (7 : Int32)), .val (.int v13), .val (.ref b14), .unset] [(.int (lcmpW v7 (-9223372036854775808 : Int64)))]))
    obtain ⟨v224, hv_v224⟩ : ∃ z : Int32, z = (if v7 = (-9223372036854775808 : Int64) then (1 : Int32) else (0 : Int32)) := ⟨_, rfl⟩
    have j225 : ∀ t, Steps p.tables e below (T222.setTop (mkF m 312 #[.val (.long q1), .second, .val (.int p2), .val (.int p3), .val (.int p4), .val (.int p5), .val (.int v1), .val (.int v2), .val (.long v3), .second, .val (.long v7), .second, .val (.int (7 : Int32)), .val (.int v13), .val (.ref b14), .unset] [(.int v224)])) t → Steps p.tables e below (T222.setTop (mkF m 304 #[.val (.long q1), .second, .val (.int p2), .val (.int p3), .val (.int p4), .val (.int p5), .val (.int v1), .val (.int v2), .val (.long v3), .second, .val (.long v7), .second, .val (.int (7 : Int32)), .val (.int v13), .val (.ref b14), .unset] [(.int (lcmpW v7 (-9223372036854775808 : Int64)))])) t := by
      intro t k
      by_cases c304_226 : v7 = (-9223372036854775808 : Int64)
      · skip
        refine XS.ifNo X222.here hx rfl (hb hby at_304) rfl ((if0 _ _).trans (teq ((lw_eq _ _).mpr c304_226)).2) ?_
        show Steps p.tables e below (T222.setTop (mkF m 307 #[.val (.long q1), .second, .val (.int p2), .val (.int p3), .val (.int p4), .val (.int p5), .val (.int v1), .val (.int v2), .val (.long v3), .second, .val (.long v7), .second, .val (.int (7 : Int32)), .val (.int v13), .val (.ref b14), .unset] [])) t
        refine XS.iconst X222.here hx rfl (hb hby at_307) ?_
        show Steps p.tables e below (T222.setTop (mkF m 308 #[.val (.long q1), .second, .val (.int p2), .val (.int p3), .val (.int p4), .val (.int p5), .val (.int v1), .val (.int v2), .val (.long v3), .second, .val (.long v7), .second, .val (.int (7 : Int32)), .val (.int v13), .val (.ref b14), .unset] [(.int (1 : Int32))])) t
        refine XS.goto X222.here hx rfl (pc0 := 308) (pc' := 312) rfl (hb hby at_308) (by decide) (by decide) ?_
        show Steps p.tables e below (T222.setTop (mkF m 312 #[.val (.long q1), .second, .val (.int p2), .val (.int p3), .val (.int p4), .val (.int p5), .val (.int v1), .val (.int v2), .val (.long v3), .second, .val (.long v7), .second, .val (.int (7 : Int32)), .val (.int v13), .val (.ref b14), .unset] [(.int (1 : Int32))])) t
        have q_v224 : v224 = (1 : Int32) := by rw [hv_v224, if_pos c304_226]
        rw [q_v224] at k
        exact k
      · skip
        refine XS.ifYes X222.here hx rfl (pc0 := 304) (pc' := 311) rfl (hb hby at_304) rfl ((if0 _ _).trans (feq (fun q => c304_226 ((lw_eq _ _).mp q))).2) (by decide) (by decide) ?_
        show Steps p.tables e below (T222.setTop (mkF m 311 #[.val (.long q1), .second, .val (.int p2), .val (.int p3), .val (.int p4), .val (.int p5), .val (.int v1), .val (.int v2), .val (.long v3), .second, .val (.long v7), .second, .val (.int (7 : Int32)), .val (.int v13), .val (.ref b14), .unset] [])) t
        refine XS.iconst X222.here hx rfl (hb hby at_311) ?_
        show Steps p.tables e below (T222.setTop (mkF m 312 #[.val (.long q1), .second, .val (.int p2), .val (.int p3), .val (.int p4), .val (.int p5), .val (.int v1), .val (.int v2), .val (.long v3), .second, .val (.long v7), .second, .val (.int (7 : Int32)), .val (.int v13), .val (.ref b14), .unset] [(.int (0 : Int32))])) t
        have q_v224 : v224 = (0 : Int32) := by rw [hv_v224, if_neg c304_226]
        rw [q_v224] at k
        exact k
    refine OutW.back j225 ?_
    show OutW _ _ _ _ _ _ _ (T222.setTop (mkF m 312 #[.val (.long q1), .second, .val (.int p2), .val (.int p3), .val (.int p4), .val (.int p5), .val (.int v1), .val (.int v2), .val (.long v3), .second, .val (.long v7), .second, .val (.int (7 : Int32)), .val (.int v13), .val (.ref b14), .unset] [(.int v224)]))
    refine OutW.back (fun t k => XS.istore X222.here hx rfl (hb hby at_312) rfl (l' := #[.val (.long q1), .second, .val (.int p2), .val (.int p3), .val (.int p4), .val (.int p5), .val (.int v1), .val (.int v2), .val (.long v3), .second, .val (.long v7), .second, .val (.int (7 : Int32)), .val (.int v13), .val (.ref b14), .val (.int v224)]) rfl k) ?_
    show OutW _ _ _ _ _ _ _ (T222.setTop (mkF m 314 #[.val (.long q1), .second, .val (.int p2), .val (.int p3), .val (.int p4), .val (.int p5), .val (.int v1), .val (.int v2), .val (.long v3), .second, .val (.long v7), .second, .val (.int (7 : Int32)), .val (.int v13), .val (.ref b14), .val (.int v224)] []))
    refine OutW.back (fun t k => XS.aload X222.here hx rfl (hb hby at_314) rfl rfl  k) ?_
    show OutW _ _ _ _ _ _ _ (T222.setTop (mkF m 316 #[.val (.long q1), .second, .val (.int p2), .val (.int p3), .val (.int p4), .val (.int p5), .val (.int v1), .val (.int v2), .val (.long v3), .second, .val (.long v7), .second, .val (.int (7 : Int32)), .val (.int v13), .val (.ref b14), .val (.int v224)] [(.ref b14)]))
    refine OutW.back (fun t k => XS.iload X222.here hx rfl (hb hby at_316) rfl  k) ?_
    show OutW _ _ _ _ _ _ _ (T222.setTop (mkF m 318 #[.val (.long q1), .second, .val (.int p2), .val (.int p3), .val (.int p4), .val (.int p5), .val (.int v1), .val (.int v2), .val (.long v3), .second, .val (.long v7), .second, .val (.int (7 : Int32)), .val (.int v13), .val (.ref b14), .val (.int v224)] [(.int (7 : Int32)), (.ref b14)]))
    obtain ⟨_, _, ⟨T227, L227, k227, n227⟩, -, X227, ⟨Lc227, hQ227, l227, y227, z227⟩, st227⟩ := Jvm.LawKit.callS X222 hx (y := (⟨"com/example/patchloom/patchloom/delta/SignMagnitude", "isNegativeZero", "([BI)Z"⟩ : MethodName)) hown (mvT hZ (hw _ (List.mem_of_getElem? (i := 3) rfl))) (mvT hZ (hw _ (List.mem_of_getElem? (i := 4) rfl))) (mvT hZ (hw _ (List.mem_of_getElem? (i := 5) rfl))) (mvT hZ (hw _ (List.mem_of_getElem? (i := 6) rfl))) (by decide) (backOf (W := 0) (rm1_7 l Z a0 hw [] b14 (nar .byte v13) (nar .byte v13) (nar .byte v13) (nar .byte v13) (nar .byte v13) (nar .byte v13) (nar .byte v13) (nar .byte v207) (nar .byte v209) (nar .byte v211) (nar .byte v213) (nar .byte v215) (nar .byte v217) (nar .byte v219) (nar .byte v221) (nar .byte v13) k14 h222 n0 Z222 V_b14_222) hZ (hw _ (List.mem_of_getElem? (i := 6) rfl)) (hw _ (List.mem_of_getElem? (i := 5) rfl)) (by decide) (by decide)) (g := (mkF m 318 #[.val (.long q1), .second, .val (.int p2), .val (.int p3), .val (.int p4), .val (.int p5), .val (.int v1), .val (.int v2), .val (.long v3), .second, .val (.long v7), .second, .val (.int (7 : Int32)), .val (.int v13), .val (.ref b14), .val (.int v224)] [(.int (7 : Int32)), (.ref b14)])) rfl (by rw [hml]; rfl) (argsL := [(.ref b14), (.int (7 : Int32))]) (rest := []) (lenOf pd_0 rfl) rfl (by show 2 * 0 + _ ≤ _; exact Nat.le_of_eq rfl) (hb hby at_318) (fun _ _ => ⟨rfl, e222, (by decide : 1 + 0 ≤ _), (by decide : 16 + 0 ≤ _)⟩)
    dsimp only [Pt.U, Pt.locs, Pt.cells, Pt.slots] at X227 l227 y227 z227 st227 hQ227
    subst l227 y227 z227
    obtain ⟨rfl, Nq227, e227⟩ := hQ227
    have N227 := Fr.app N222 Nq227
    obtain ⟨lc227, X227, N227⟩ : ∃ lc, Stand p l e room_1 s m #[(.long q1), (.int p2), (.int p3), (.int p4), (.int p5)] below meth c T227 lc 1 16 ∧ Fr n0 lc := ⟨_, X227, N227⟩
    refine OutW.back st227 ?_
    show OutW _ _ _ _ _ _ _ (T227.setTop (mkF m 321 #[.val (.long q1), .second, .val (.int p2), .val (.int p3), .val (.int p4), .val (.int p5), .val (.int v1), .val (.int v2), .val (.long v3), .second, .val (.long v7), .second, .val (.int (7 : Int32)), .val (.int v13), .val (.ref b14), .val (.int v224)] [(.int (negz7 (nar .byte v207) (nar .byte v209) (nar .byte v211) (nar .byte v213) (nar .byte v215) (nar .byte v217) (nar .byte v219) (nar .byte v221)))]))
    refine OutW.back (fun t k => XS.iload X227.here hx rfl (hb hby at_321) rfl  k) ?_
    show OutW _ _ _ _ _ _ _ (T227.setTop (mkF m 323 #[.val (.long q1), .second, .val (.int p2), .val (.int p3), .val (.int p4), .val (.int p5), .val (.int v1), .val (.int v2), .val (.long v3), .second, .val (.long v7), .second, .val (.int (7 : Int32)), .val (.int v13), .val (.ref b14), .val (.int v224)] [(.int v224), (.int (negz7 (nar .byte v207) (nar .byte v209) (nar .byte v211) (nar .byte v213) (nar .byte v215) (nar .byte v217) (nar .byte v219) (nar .byte v221)))]))
    obtain ⟨v229, hv_v229⟩ : ∃ z : Int32, z = (if (negz7 (nar .byte v207) (nar .byte v209) (nar .byte v211) (nar .byte v213) (nar .byte v215) (nar .byte v217) (nar .byte v219) (nar .byte v221)) = v224 then (1 : Int32) else (0 : Int32)) := ⟨_, rfl⟩
    have j230 : ∀ t, Steps p.tables e below (T227.setTop (mkF m 331 #[.val (.long q1), .second, .val (.int p2), .val (.int p3), .val (.int p4), .val (.int p5), .val (.int v1), .val (.int v2), .val (.long v3), .second, .val (.long v7), .second, .val (.int (7 : Int32)), .val (.int v13), .val (.ref b14), .val (.int v224)] [(.int v229)])) t → Steps p.tables e below (T227.setTop (mkF m 323 #[.val (.long q1), .second, .val (.int p2), .val (.int p3), .val (.int p4), .val (.int p5), .val (.int v1), .val (.int v2), .val (.long v3), .second, .val (.long v7), .second, .val (.int (7 : Int32)), .val (.int v13), .val (.ref b14), .val (.int v224)] [(.int v224), (.int (negz7 (nar .byte v207) (nar .byte v209) (nar .byte v211) (nar .byte v213) (nar .byte v215) (nar .byte v217) (nar .byte v219) (nar .byte v221)))])) t := by
      intro t k
      by_cases c323_231 : (negz7 (nar .byte v207) (nar .byte v209) (nar .byte v211) (nar .byte v213) (nar .byte v215) (nar .byte v217) (nar .byte v219) (nar .byte v221)) = v224
      · skip
        refine XS.icmpNo X227.here hx rfl (hb hby at_323) rfl (teq c323_231).2 ?_
        show Steps p.tables e below (T227.setTop (mkF m 326 #[.val (.long q1), .second, .val (.int p2), .val (.int p3), .val (.int p4), .val (.int p5), .val (.int v1), .val (.int v2), .val (.long v3), .second, .val (.long v7), .second, .val (.int (7 : Int32)), .val (.int v13), .val (.ref b14), .val (.int v224)] [])) t
        refine XS.iconst X227.here hx rfl (hb hby at_326) ?_
        show Steps p.tables e below (T227.setTop (mkF m 327 #[.val (.long q1), .second, .val (.int p2), .val (.int p3), .val (.int p4), .val (.int p5), .val (.int v1), .val (.int v2), .val (.long v3), .second, .val (.long v7), .second, .val (.int (7 : Int32)), .val (.int v13), .val (.ref b14), .val (.int v224)] [(.int (1 : Int32))])) t
        refine XS.goto X227.here hx rfl (pc0 := 327) (pc' := 331) rfl (hb hby at_327) (by decide) (by decide) ?_
        show Steps p.tables e below (T227.setTop (mkF m 331 #[.val (.long q1), .second, .val (.int p2), .val (.int p3), .val (.int p4), .val (.int p5), .val (.int v1), .val (.int v2), .val (.long v3), .second, .val (.long v7), .second, .val (.int (7 : Int32)), .val (.int v13), .val (.ref b14), .val (.int v224)] [(.int (1 : Int32))])) t
        have q_v229 : v229 = (1 : Int32) := by rw [hv_v229, if_pos c323_231]
        rw [q_v229] at k
        exact k
      · skip
        refine XS.icmpYes X227.here hx rfl (pc0 := 323) (pc' := 330) rfl (hb hby at_323) rfl (feq c323_231).2 (by decide) (by decide) ?_
        show Steps p.tables e below (T227.setTop (mkF m 330 #[.val (.long q1), .second, .val (.int p2), .val (.int p3), .val (.int p4), .val (.int p5), .val (.int v1), .val (.int v2), .val (.long v3), .second, .val (.long v7), .second, .val (.int (7 : Int32)), .val (.int v13), .val (.ref b14), .val (.int v224)] [])) t
        refine XS.iconst X227.here hx rfl (hb hby at_330) ?_
        show Steps p.tables e below (T227.setTop (mkF m 331 #[.val (.long q1), .second, .val (.int p2), .val (.int p3), .val (.int p4), .val (.int p5), .val (.int v1), .val (.int v2), .val (.long v3), .second, .val (.long v7), .second, .val (.int (7 : Int32)), .val (.int v13), .val (.ref b14), .val (.int v224)] [(.int (0 : Int32))])) t
        have q_v229 : v229 = (0 : Int32) := by rw [hv_v229, if_neg c323_231]
        rw [q_v229] at k
        exact k
    refine OutW.back j230 ?_
    show OutW _ _ _ _ _ _ _ (T227.setTop (mkF m 331 #[.val (.long q1), .second, .val (.int p2), .val (.int p3), .val (.int p4), .val (.int p5), .val (.int v1), .val (.int v2), .val (.long v3), .second, .val (.long v7), .second, .val (.int (7 : Int32)), .val (.int v13), .val (.ref b14), .val (.int v224)] [(.int v229)]))
    refine OutW.retN X227 hx (t := .boolean) (z' := 1) Bd.returns (by simp) hlk (hb hby at_331) ?hz (by decide) (by decide) ?_
    case hz =>
      have hfin : v229 = (1 : Int32) := by
        have e : (negz7 (nar .byte v207) (nar .byte v209) (nar .byte v211) (nar .byte v213) (nar .byte v215) (nar .byte v217) (nar .byte v219) (nar .byte v221)) = v224 := by
          rw [← hv_v207, ← hv_v209, ← hv_v211, ← hv_v213, ← hv_v215, ← hv_v217, ← hv_v219, ← hv_v221, hv_v224]
          exact own_neg _
        rw [hv_v229, if_pos e]
      rw [hfin]; rfl
    show Q0 Z q1 p2 p3 p4 p5 h0 n0 _ T227.heap _
    rw [e227]
    exact ⟨rfl, N227⟩
set_option maxRecDepth 65536 in
set_option maxHeartbeats 40000000 in
theorem comes_1 {Post : Tables → Env → Array Value → State → Outcome → State → Prop} (hpost : ∀ tb e args s v u, (limb_1_1.after args s (.returned v) u = true ∧ limb_1_2.after args s (.returned v) u = true ∧ True) → FrameEnd s (.returned v) u (Jvm.fieldLocs frame_1_writes args s ++ Jvm.arrayLocs frame_1_arrays args s ++ Jvm.staticLocs frame_1_statics s) 16 128 → Post tb e args s (.returned v) u) :
    ArmFor flags0 classFile x code maxLocals ret World_1 tables_1 room_1 Calls_1 rest_1 Pre_1 Post := by
  intro l hfl _ _ p e ha hc hk s m args below hf hA hF happ hP
  obtain ⟨hcalls, hrest, hpre⟩ := hP
  obtain ⟨-, -, -, hnamed, -, -, -, hat⟩ := (Spec.applies_iff hf).mp happ
  obtain ⟨hg, hn⟩ := and_e (Cond.before_iff.mp (show (Jvm.Cond.and given_1 narrow_1).before args s = true from hpre))
  obtain ⟨hcount, hg0⟩ := and_e hg
  obtain ⟨ga0, hg1⟩ := and_e hg0
  obtain ⟨ga1, hg2⟩ := and_e hg1
  obtain ⟨ga2, hg3⟩ := and_e hg2
  obtain ⟨ga3, hg4⟩ := and_e hg3
  have ga4 := hg4
  obtain ⟨w0, w1, w2, w3, w4, rfl⟩ : ∃ w0 w1 w2 w3 w4 : Value, args = #[w0, w1, w2, w3, w4] := by
    have hs : args.size = 5 := by simpa [Cond.value, given_1] using hcount
    obtain ⟨L⟩ := args
    match L, hs with
    | [w0, w1, w2, w3, w4], _ => exact ⟨w0, w1, w2, w3, w4, rfl⟩
  have hw := fun d (hd : d ∈ tables_1) => atoms_spec (ws := Jvm.Cond.code x code maxLocals ret :: tables_1) hat d (List.mem_cons_of_mem _ hd)
  obtain ⟨i0, ei0⟩ := isL_v ga0
  obtain rfl : w0 = (.long i0) := Option.some.inj ei0
  obtain ⟨i1, ei1⟩ := is_v ga1
  obtain rfl : w1 = (.int i1) := Option.some.inj ei1
  obtain ⟨i2, ei2⟩ := is_v ga2
  obtain rfl : w2 = (.int i2) := Option.some.inj ei2
  obtain ⟨i3, ei3⟩ := is_v ga3
  obtain rfl : w3 = (.int i3) := Option.some.inj ei3
  obtain ⟨i4, ei4⟩ := is_v ga4
  obtain rfl : w4 = (.int i4) := Option.some.inj ei4
  obtain ⟨n, o, h1, h2, h3, _, L, rfl, ⟨rfl, N⟩, hq⟩ := rm0 l s _ hw tables_1 i0 i1 i2 i3 i4  s.heap s.heap.size (Nat.le_refl _)  p e ha hc hk s m _ below hf ((Spec.applies_iff_loose hf).mp happ).1 ⟨rfl, State.Warmed39.refl s, rfl⟩ trivial
  refine ⟨n, _, h1, h2, h3, hpost _ _ _ _ _ _ ⟨Cond.after_iff.mpr rfl, Cond.after_iff.mpr (eq_i res_at (Term.int_eval (1)) rfl), trivial⟩ ⟨hq.1, hq.2.1, (hq.2.2.sift fun y hy => Or.inr (N y hy)).mono (by decide) (by decide)⟩⟩
theorem main_1_1 : Claimed_1_1 := comes_1 fun _ _ _ _ _ _ h hF => ⟨h.1, hF⟩
theorem main_1_2 : Claimed_1_2 := comes_1 fun _ _ _ _ _ _ h hF => ⟨h.2.1, hF⟩
end Jvm.Pilot.@@N@@
namespace Jvm.Pilot.@@N@@
open Jvm Jvm.ClassFile Sem Op Lib Jvm.Free Jvm.Stand Jvm.Pilot.@@N@@.Jvm.D
/-! MADE BY PROGRAM (witnessworld.py) out of the Statement's table words and the real class files: 9 classes; the members and pool entries that the words name. The judged class is class 1, her method 1. -/
namespace start1
open Jvm.ClassFile
def u (s : String) : CpInfo := .utf8 (stringToUtf16 s)
/-- a pool by its gaps: so many unusable entries, then the entry; so many at the end -/
def gap : Nat → List CpInfo → List CpInfo
  | 0, r => r
  | n + 1, r => .unusable :: gap n r
def poolList (es : List (Nat × CpInfo)) (last : Nat) : List CpInfo := es.foldr (fun e r => gap e.1 (e.2 :: r)) (gap last [])
def pool (es : List (Nat × CpInfo)) (last : Nat) : Array CpInfo := ⟨poolList es last⟩
def fileOf (pool : Array CpInfo) (this : Nat) (attrs : Array Attribute := #[]) (ms : Array MethodInfo := #[]) (fl : Nat := 33) (sup : Nat := 0) (ifs : Array Nat := #[]) (fds : Array FieldInfo := #[]) : ClassFile where
  minorVersion := 0
  majorVersion := 65
  constantPool := pool
  accessFlags := fl
  thisClass := this
  superClass := sup
  interfaces := ifs
  fields := fds
  methods := ms
  attributes := attrs
def plain (name : String) (sup : Option ClassId) : Class where
  name := name
  kind := .ordinary
  loader := none
  accessFlags := 33
  super := sup
  interfaces := #[]
  cf := none
  fields := #[]
  methods := #[]
  instanceTypes := #[]
  staticTypes := #[]
  resolved := #[]
  callSites := []
  init := .initialized
  statics := none
  mirror := none

def pool0 : Array CpInfo := pool [(5, u "<init>"), (0, u "()V"), (1, .class_ 10), (1, u "java/lang/Object")] 113

def k0m0 : Method := { name := "<init>", desc := "()V", sig := { parameters := [], returnType := none }, accessFlags := 1, code := none }
/-- java/lang/Object -/
def k0 : Class := { plain "java/lang/Object" none with
  accessFlags := 33
  interfaces := #[]
  cf := some (fileOf pool0 8 #[] #[{ accessFlags := 1, nameIndex := 5, descriptorIndex := 6, attributes := #[] }] 33 0 #[] #[])
  fields := #[]
  methods := #[k0m0]
  instanceTypes := #[]
  staticTypes := #[]
  resolved := Array.replicate 124 none
  statics := none }

def pool1 : Array CpInfo := pool [(2, .class_ 4), (1, u "java/lang/Object"), (0, u "<init>"), (0, u "()V"), (0, .long 255), (3, .long 9223372036854775808), (1, .methodref 14 15), (0, .class_ 16), (0, .nameAndType 17 18), (0, u "com/example/patchloom/patchloom/delta/SignMagnitude"), (0, u "isNegativeZero"), (0, u "([BI)Z"), (0, .class_ 20), (0, u "com/example/patchloom/patchloom/delta/SignMagnitudeIsNegativeZeroPinLaw"), (2, u "law"), (0, u "(JIIII)Z")] 5

def k1m0 : Method := { name := "<init>", desc := "()V", sig := { parameters := [], returnType := none }, accessFlags := 2, code := none }
def k1c1 : Code := { maxStack := 7, maxLocals := 16, code := code, exceptionTable := #[], attributes := #[] }
def k1m1 : Method := { name := "law", desc := "(JIIII)Z", sig := { parameters := [.long, .int, .int, .int, .int], returnType := some .boolean }, accessFlags := 9, code := some k1c1 }
/-- com/example/patchloom/patchloom/delta/SignMagnitudeIsNegativeZeroPinLaw -/
def k1 : Class := { plain "com/example/patchloom/patchloom/delta/SignMagnitudeIsNegativeZeroPinLaw" (some 0) with
  accessFlags := 49
  interfaces := #[]
  cf := some (fileOf pool1 19 #[] #[{ accessFlags := 2, nameIndex := 5, descriptorIndex := 6, attributes := #[] }, { accessFlags := 9, nameIndex := 23, descriptorIndex := 24, attributes := #[] }] 49 2 #[] #[])
  fields := #[]
  methods := #[k1m0, k1m1]
  instanceTypes := #[]
  staticTypes := #[]
  resolved := Array.replicate 30 none
  statics := none }

def pool2 : Array CpInfo := pool [(2, .class_ 4), (1, u "java/lang/Object"), (0, u "<init>"), (0, u "()V"), (0, .class_ 8), (0, u "com/example/patchloom/patchloom/delta/SignMagnitude"), (15, u "BYTES"), (0, u "I"), (7, u "isNegativeZero"), (0, u "([BI)Z")] 19

def k2m0 : Method := { name := "<init>", desc := "()V", sig := { parameters := [], returnType := none }, accessFlags := 2, code := none }
def k2c1 : Code := { maxStack := 3, maxLocals := 3, code := prog_26_method_3_code, exceptionTable := #[], attributes := #[] }
def k2m1 : Method := { name := "isNegativeZero", desc := "([BI)Z", sig := { parameters := [(.array .byte), .int], returnType := some .boolean }, accessFlags := 9, code := some k2c1 }
/-- com/example/patchloom/patchloom/delta/SignMagnitude -/
def k2 : Class := { plain "com/example/patchloom/patchloom/delta/SignMagnitude" (some 0) with
  accessFlags := 49
  interfaces := #[]
  cf := some (fileOf pool2 7 #[] #[{ accessFlags := 2, nameIndex := 5, descriptorIndex := 6, attributes := #[] }, { accessFlags := 9, nameIndex := 33, descriptorIndex := 34, attributes := #[] }] 49 2 #[] #[{ accessFlags := 25, nameIndex := 24, descriptorIndex := 25, attributes := #[] }])
  fields := #[{ name := "BYTES", type := .int, accessFlags := 25, slot := 0, constantValue := 0 }]
  methods := #[k2m0, k2m1]
  instanceTypes := #[]
  staticTypes := #[.int]
  resolved := Array.replicate 54 none
  statics := none }

def pool3 : Array CpInfo := pool [(1, u "java/lang/Cloneable"), (0, .class_ 1), (0, u "java/lang/Object"), (0, .class_ 3)] 3

/-- java/lang/Cloneable -/
def k3 : Class := { plain "java/lang/Cloneable" (some 0) with
  accessFlags := 1537
  interfaces := #[]
  cf := some (fileOf pool3 2 #[] #[] 1537 4 #[] #[])
  fields := #[]
  methods := #[]
  instanceTypes := #[]
  staticTypes := #[]
  resolved := Array.replicate 8 none
  statics := none }

def pool4 : Array CpInfo := pool [(1, u "java/io/Serializable"), (0, .class_ 1), (0, u "java/lang/Object"), (0, .class_ 3)] 3

/-- java/io/Serializable -/
def k4 : Class := { plain "java/io/Serializable" (some 0) with
  accessFlags := 1537
  interfaces := #[]
  cf := some (fileOf pool4 2 #[] #[] 1537 4 #[] #[])
  fields := #[]
  methods := #[]
  instanceTypes := #[]
  staticTypes := #[]
  resolved := Array.replicate 8 none
  statics := none }

/-- the primitive byte -/
def k5 : Class := { plain "byte" none with kind := .primitive 'B', accessFlags := 0x411 }
/-- [B -/
def k6 : Class := { plain "[B" (some 0) with kind := .array 5 .byte, interfaces := #[3, 4], accessFlags := 1041 }

/-- the primitive int -/
def k7 : Class := { plain "int" none with kind := .primitive 'I', accessFlags := 0x411 }
/-- [I -/
def k8 : Class := { plain "[I" (some 0) with kind := .array 7 .int, interfaces := #[3, 4], accessFlags := 1041 }

def heap : Heap := #[]
def classes : Array Class := #[k0, k1, k2, k3, k4, k5, k6, k7, k8]
def interned : List (Array UInt16 × Addr) := []
def slotsUsed : Nat := 0
def theMethod : MethodId := ⟨1, 1⟩
def args0 : Array Value := #[.long 7, .int 6, .int 7, .int 8, .int 9]
def aboutOver (below : List Frame) : State where
  vm := { classes := classes, interned := interned.toArray }
  heap := heap
  slotsUsed := slotsUsed
  threads := #[{ frames := .invoking theMethod args0 :: below }]
def below0 : List Frame := [.native { method := ⟨0, 0⟩, args := #[] }]
def about1 : State := aboutOver below0
def p0 : Program := .bare "" "" ""
def e0 : Env := launch0.env 0 0 0
theorem w_frames : about1.frames = Frame.invoking theMethod args0 :: below0 := rfl
set_option maxRecDepth 65536 in
theorem w_args : argsFit about1.vm theMethod args0 = true := by decide +kernel
set_option maxRecDepth 65536 in
theorem w_heap : heapFits about1 = true := by decide +kernel
set_option maxRecDepth 65536 in
theorem w_runnable : about1.curStatus? = some .runnable := by decide +kernel
set_option maxRecDepth 65536 in
theorem w_alone : about1.alone = true := by decide +kernel
set_option maxRecDepth 65536 in
theorem w_named : about1.methodNamed? x = some theMethod := by decide +kernel
set_option maxRecDepth 65536 in
theorem w_hears : about1.hears theMethod below0 = true := by decide +kernel
set_option maxRecDepth 65536 in
theorem w_ripe : about1.ripe theMethod args0 below0 = true := by decide +kernel
theorem w_running : about1.status = .running := rfl
set_option maxRecDepth 65536 in
theorem w_room : about1.hasRoom e0.platform room_1 = true :=
  launch0.hasRoom_least _ room_1 (by decide +kernel) (by decide +kernel) (by decide +kernel) (by decide +kernel) (by decide +kernel) (by decide +kernel)
theorem allAtoms_all (ts : List Jvm.Cond) (a : Array Jvm.Value) (st : Jvm.State) : (allAtoms ts).before a st = ts.all (fun c => c.before a st) := by
  induction ts with
  | nil => rfl
  | cons c t ih =>
    show (Jvm.Cond.and c (allAtoms t)).before a st = _
    rw [Jvm.Cond.before_and, ih, List.all_cons]
def words1 : List Jvm.Cond := Jvm.Cond.code x code maxLocals ret :: tables_1
/-- a 'code' word, met by the world's own term for the bytes: nothing is compared byte by byte -/
theorem code_word {y : MethodName} {bytes : ByteArray} {mx : Nat} {rt : Option FieldType} {a : Array Value} {s : State} {m : MethodId} {meth : Method} {c : Code} (h1 : s.methodNamed? y = some m) (h2 : s.vm.method? m = some meth) (h3 : meth.code = some c) (h4 : c.code = bytes)
    (h5 : (c.maxLocals == mx && c.exceptionTable.isEmpty && decide (c.maxStack ≤ mostOperands) && decide (meth.sig.returnType = rt) && !meth.locks && decide (parseMethodDescriptor y.desc = some meth.sig)) = true) : (Jvm.Cond.code y bytes mx rt).before a s = true := by
  simp only [Bool.and_eq_true, beq_iff_eq, Bool.not_eq_true', decide_eq_true_eq] at h5
  obtain ⟨⟨⟨⟨⟨g1, g2⟩, g3⟩, g4⟩, g5⟩, g6⟩ := h5
  simp [Cond.before, Cond.holds, Cond.value, h1, h2, h3, h4, g1, g2, g3, g4, g5, g6]
def isCode : Jvm.Cond → Bool
  | .code _ _ _ _ => true
  | _ => false
theorem all_split {L : List Jvm.Cond} {P : Jvm.Cond → Bool} (h1 : L.all (fun c => isCode c || P c) = true) (h2 : ∀ c ∈ L.filter isCode, P c = true) : L.all P = true := by
  refine List.all_eq_true.mpr fun c hc => ?_
  have h := List.all_eq_true.mp h1 c hc
  rcases Bool.eq_false_or_eq_true (isCode c) with hi | hi
  · exact h2 c (List.mem_filter.mpr ⟨hc, hi⟩)
  · simpa [hi] using h
set_option maxRecDepth 65536 in
theorem w_c0 : (Jvm.Cond.code x code maxLocals ret).before args0 about1 = true := code_word (m := ⟨1, 1⟩) (meth := k1m1) (c := k1c1) (by decide +kernel) rfl rfl rfl (by decide +kernel)
set_option maxRecDepth 65536 in
theorem w_c1 : (Jvm.Cond.code ({ cls := "com/example/patchloom/patchloom/delta/SignMagnitude", name := "isNegativeZero", desc := "([BI)Z" } : Jvm.MethodName) prog_26_method_3_code (3 : Nat) (Option.some Jvm.ClassFile.FieldType.boolean)).before args0 about1 = true := code_word (m := ⟨2, 1⟩) (meth := k2m1) (c := k2c1) (by decide +kernel) rfl rfl rfl (by decide +kernel)
def codes1 : List Jvm.Cond := [Jvm.Cond.code x code maxLocals ret, Jvm.Cond.code ({ cls := "com/example/patchloom/patchloom/delta/SignMagnitude", name := "isNegativeZero", desc := "([BI)Z" } : Jvm.MethodName) prog_26_method_3_code (3 : Nat) (Option.some Jvm.ClassFile.FieldType.boolean)]
set_option maxRecDepth 65536 in
theorem codes_eq : words1.filter isCode = codes1 := rfl
theorem w_codes : ∀ c ∈ words1.filter isCode, c.before args0 about1 = true := by
  rw [codes_eq]
  intro c hc
  simp only [codes1, List.mem_cons, List.not_mem_nil, or_false] at hc
  rcases hc with rfl | rfl
  · exact w_c0
  · exact w_c1
set_option maxRecDepth 65536 in
theorem w_t1 : words1.all (fun c => isCode c || c.before args0 about1) = true := by decide +kernel
theorem w_tables : (allAtoms (Jvm.Cond.code x code maxLocals ret :: tables_1)).before args0 about1 = true := by
  rw [allAtoms_all]
  show words1.all (fun c => c.before args0 about1) = true
  refine all_split ?_ w_codes
  rw [w_t1]
set_option maxRecDepth 65536 in
theorem w_case : (Jvm.Cond.and given_1 narrow_1).before args0 about1 = true := by decide +kernel
theorem w_applies : (headSpec (Jvm.Cond.code x code maxLocals ret :: tables_1) room_1).applies x e0.platform about1 = true :=
  (Spec.applies_iff w_frames).mpr ⟨w_running, w_runnable, w_alone, w_named, w_hears, w_ripe, w_room, w_tables⟩
theorem atStart : AtStart classFile x code maxLocals ret World_1 tables_1 room_1 Calls_1 rest_1 Pre_1 launch0 p0 e0 about1 theMethod args0 below0 :=
  ⟨lists_1, trivial, launch0.admits_env _ _ _, launch0.least_env, fairChoices_fair.cas, fairChoices_fair.clock, w_frames, w_args, w_heap, w_applies, trivial, trivial, w_case⟩
end start1
theorem witness_1 : WitnessClaimed_1 := ⟨start1.p0, start1.e0, start1.about1, start1.theMethod, start1.args0, start1.below0, start1.atStart⟩
end Jvm.Pilot.@@N@@
