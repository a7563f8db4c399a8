import JvmDerived
import JvmDerived.Pilot.@@N@@Statement
import JvmDerived.Pilot.@@N@@Code
set_option linter.unusedVariables false
set_option linter.unusedSimpArgs false
namespace Jvm.RoadKit
open Sem ClassFile Op Lib Jvm.Stand Jvm.Free Jvm.LawKit
section Own
variable {p : Program} {l : Launch} {e : Env} {R : Room} {s : State} {m : MethodId} {args : Array Value} {below : List Frame} {meth : Method} {c : Code} {T A B : State} {locs : List Loc} {cells slots K N : Nat} {Q : Option Value → Heap → List Loc → Prop}
/-- from A the walk comes to its end, and Q holds there -/
def OutW (p : Program) (e : Env) (below : List Frame) (s : State) (K N : Nat) (Q : Option Value → Heap → List Loc → Prop) (A : State) : Prop :=
  ∃ s₂ o, Steps p.tables e below A s₂ ∧ s₂.status = .running ∧ Ended s₂ below o ∧ ∃ v L, o = .returned v ∧ Q v s₂.heap L ∧ FrameEnd s o s₂ L K N
/-- a body that writes nothing: what it returns -/
def Qpure (h0 : Heap) (n0 : Nat) (r : Value) (v : Option Value) (h : Heap) (L : List Loc) : Prop := v = some r ∧ Fr n0 L ∧ h = h0
theorem OutW.back (h : ∀ t, Steps p.tables e below B t → Steps p.tables e below A t) (k : OutW p e below s K N Q B) : OutW p e below s K N Q A := by
  obtain ⟨t, o, h1, h2⟩ := k
  exact ⟨t, o, h t h1, h2⟩
theorem OutW.via (h : Steps p.tables e below A B) (k : OutW p e below s K N Q B) : OutW p e below s K N Q A := by
  obtain ⟨t, o, h1, h2⟩ := k
  exact ⟨t, o, h.trans h1, h2⟩
theorem OutW.retV (X : Stand p l e R s m args below meth c T locs cells slots) (hx : p.tables.exec = Jvm.exec) {pc : Nat} {Ls : Array Slot} (hret : meth.sig.returnType = none) (hlk : meth.locks = false) (hd : decode c.code pc = .ok (.return_, 1))
    (hK : cells ≤ K) (hN : slots ≤ N) (hq : Q none T.heap locs) : OutW p e below s K N Q (T.setTop (mkF m pc Ls [])) := by
  obtain ⟨fs, hr, hrun, hended, hW, hsame⟩ := X.leave (v := none) (fun _ => rfl) hlk
  exact ⟨_, _, X.returnOut hx hret hd hr, hrun, hended, _, _, rfl, hq, ⟨_, rfl⟩, hW, hsame.mono hK hN⟩
theorem OutW.retI (X : Stand p l e R s m args below meth c T locs cells slots) (hx : p.tables.exec = Jvm.exec) {pc : Nat} {Ls : Array Slot} {z : Int32} {rest : List Value} (hret : meth.sig.returnType = some .int) (hlk : meth.locks = false) (hd : decode c.code pc = .ok (.ireturn, 1))
    (hK : cells ≤ K) (hN : slots ≤ N) (hq : Q (some (.int z)) T.heap locs) : OutW p e below s K N Q (T.setTop (mkF m pc Ls (.int z :: rest))) := by
  obtain ⟨fs, hr, hrun, hended, hW, hsame⟩ := X.leave (v := some (.int z)) (fun h => by rw [hret] at h; cases h) hlk
  exact ⟨_, _, retOut X hx hret rfl (Or.inl ⟨rfl, Or.inl rfl, z, rfl⟩) hd hr, hrun, hended, _, _, rfl, hq, ⟨_, rfl⟩, hW, hsame.mono hK hN⟩
theorem OutW.retJ (X : Stand p l e R s m args below meth c T locs cells slots) (hx : p.tables.exec = Jvm.exec) {pc : Nat} {Ls : Array Slot} {z : Int64} {rest : List Value} (hret : meth.sig.returnType = some .long) (hlk : meth.locks = false) (hd : decode c.code pc = .ok (.lreturn, 1))
    (hK : cells ≤ K) (hN : slots ≤ N) (hq : Q (some (.long z)) T.heap locs) : OutW p e below s K N Q (T.setTop (mkF m pc Ls (.long z :: rest))) := by
  obtain ⟨fs, hr, hrun, hended, hW, hsame⟩ := X.leave (v := some (.long z)) (fun h => by rw [hret] at h; cases h) hlk
  exact ⟨_, _, retOut X hx hret rfl (Or.inr (Or.inl ⟨rfl, rfl, z, rfl⟩)) hd hr, hrun, hended, _, _, rfl, hq, ⟨_, rfl⟩, hW, hsame.mono hK hN⟩
theorem nar_ref {t : FieldType} {v : Value} (h : v.isRef = true) : narrow t v = v := by
  rcases ref_cases h with rfl | ⟨a, rfl⟩ <;> cases t <;> rfl
theorem cat_ref {v : Value} (h : v.isRef = true) : v.category = 1 := by
  rcases ref_cases h with rfl | ⟨a, rfl⟩ <;> rfl
theorem fit_ref {t : FieldType} {v : Value} (ht : refKind t = true) (h : v.isRef = true) : fits t v = true := by
  rcases ref_cases h with rfl | ⟨a, rfl⟩ <;> cases t <;> first | rfl | (simp [refKind] at ht)
theorem OutW.retA (X : Stand p l e R s m args below meth c T locs cells slots) (hx : p.tables.exec = Jvm.exec) {pc : Nat} {Ls : Array Slot} {w : Value} {t : FieldType} {rest : List Value} (hret : meth.sig.returnType = some t) (ht : t.isReference = true) (hw : w.isRef = true) (hlk : meth.locks = false) (hd : decode c.code pc = .ok (.areturn, 1))
    (hK : cells ≤ K) (hN : slots ≤ N) (hq : Q (some w) T.heap locs) : OutW p e below s K N Q (T.setTop (mkF m pc Ls (w :: rest))) := by
  obtain ⟨fs, hr, hrun, hended, hW, hsame⟩ := X.leave (v := some w) (fun h => by rw [hret] at h; cases h) hlk
  exact ⟨_, _, retOut X hx hret (nar_ref hw) (Or.inr (Or.inr (Or.inr (Or.inr ⟨rfl, ht, hw⟩)))) hd hr, hrun, hended, _, _, rfl, hq, ⟨_, rfl⟩, hW, hsame.mono hK hN⟩
theorem OutW.retN (X : Stand p l e R s m args below meth c T locs cells slots) (hx : p.tables.exec = Jvm.exec) {pc : Nat} {Ls : Array Slot} {z z' : Int32} {t : FieldType} {rest : List Value} (hret : meth.sig.returnType = some t) (ht : t = .boolean ∨ t = .byte ∨ t = .char ∨ t = .short) (hlk : meth.locks = false) (hd : decode c.code pc = .ok (.ireturn, 1)) (hz : nar t z = z')
    (hK : cells ≤ K) (hN : slots ≤ N) (hq : Q (some (.int z')) T.heap locs) : OutW p e below s K N Q (T.setTop (mkF m pc Ls (.int z :: rest))) := by
  subst hz
  obtain ⟨fs, hr, hrun, hended, hW, hsame⟩ := X.leave (v := some (.int (nar t z))) (fun h => by rw [hret] at h; cases h) hlk
  exact ⟨_, _, Jvm.RoadKit.retN X hx hret ht hd hr, hrun, hended, _, _, rfl, hq, ⟨_, rfl⟩, hW, hsame.mono hK hN⟩
theorem store1' {L L' : Array Slot} {i : Nat} {v : Value} {o : Slot} (hold : L[i]? = some o) (ho : One o) (hv : v.category = 1) (h : L.setIfInBounds i (.val v) = L') : storeLocals L i v = some L' := h ▸ XS.store1 hold ho hv
theorem own_lt_mono {x a b : Int32} (h : x < a) (q : a ≤ b) : x < b := by
  rw [Int32.lt_iff_toInt_lt] at *
  rw [Int32.le_iff_toInt_le] at q
  omega
theorem own_nlt_mono {x a b : Int32} (h : ¬ x < a) (q : b ≤ a) : ¬ x < b := by
  rw [Int32.lt_iff_toInt_lt] at *
  rw [Int32.le_iff_toInt_le] at q
  omega
/-- every element of the array's cell is an object of exactly that class -/
def Els (Z : State) (h : Heap) (cl : Cell) (C : String) : Prop := ∀ j : Int32, ¬ (j < 0 ∨ cl.slots.size ≤ j.toNatClampNeg) → ∃ y : Addr, cl.slots[j.toNatClampNeg]? = some (.ref y) ∧ Exa Z h y C
theorem own_Uext {Z : State} {h h' : Heap} {cl : Cell} {C : String} (U : Els Z h cl C) (E : Ext h h') : Els Z h' cl C := fun j hj => by
  obtain ⟨y, a, b⟩ := U j hj
  exact ⟨y, a, b.ext E⟩
theorem own_Uwr {Z : State} {h h' : Heap} {cl : Cell} {C : String} {a : Addr} {sl : Nat} {v : Value} (U : Els Z h cl C) (W : Wr h h' a sl v) : Els Z h' cl C := fun j hj => by
  obtain ⟨y, q, b⟩ := U j hj
  exact ⟨y, q, b.wr W⟩
theorem own_Ukeep {Z : State} {h h' : Heap} {cl : Cell} {C : String} {ws : List Addr} (U : Els Z h cl C) (K : Keep h h' ws) : Els Z h' cl C := fun j hj => by
  obtain ⟨y, a, b⟩ := U j hj
  exact ⟨y, a, b.keep K⟩
theorem own_Akeep {Z : State} {h h' : Heap} {a : Addr} {c : Cell} {ty : FieldType} {ws : List Addr} (A : Arr Z h a c ty) (K : Keep h h' ws) (q : a ∉ ws) : Arr Z h' a c ty := ⟨K.2.1 a c A.1 q, A.2⟩
theorem own_keepS {Z : State} {h h' : Heap} {C n d : String} {v : Value} {ws : List Addr} (F : Sta Z h C n d v) (K : Keep h h' ws) (q : ∀ x ∈ ws, ∃ C', Exa Z h x C') : Sta Z h' C n d v := by
  obtain ⟨cf, i, k, f, st, cell, h1, h2, h3, h4, h5, h6, h7⟩ := F
  have ne : st ∉ ws := fun hm => by
    obtain ⟨C', c', k', e1, -, -, e4, -⟩ := q st hm
    cases h5.symm.trans e1
    rw [h6] at e4; cases e4
  exact ⟨cf, i, k, f, st, cell, h1, h2, h3, h4, K.2.1 _ _ h5 ne, h6, h7⟩
end Own
end Jvm.RoadKit
namespace Jvm.Pilot.@@N@@
open Jvm Jvm.ClassFile Sem Op Lib Jvm.Free Jvm.Stand Jvm.LawKit Jvm.RoadKit Bundle Jvm.Pilot.@@N@@.Jvm.D
theorem d1_0 : decode prog_63_method_1_code 0 = .ok (.aload_n 0, 1) := by decide +kernel
theorem d1_1 : decode prog_63_method_1_code 1 = .ok (.invokespecial 1, 3) := by decide +kernel
theorem d1_4 : decode prog_63_method_1_code 4 = .ok (.aload_n 0, 1) := by decide +kernel
theorem d1_5 : decode prog_63_method_1_code 5 = .ok (.aload_n 1, 1) := by decide +kernel
theorem d1_6 : decode prog_63_method_1_code 6 = .ok (.putfield 7, 3) := by decide +kernel
theorem d1_9 : decode prog_63_method_1_code 9 = .ok (.aload_n 0, 1) := by decide +kernel
theorem d1_10 : decode prog_63_method_1_code 10 = .ok (.aload_n 2, 1) := by decide +kernel
theorem d1_11 : decode prog_63_method_1_code 11 = .ok (.putfield 13, 3) := by decide +kernel
theorem d1_14 : decode prog_63_method_1_code 14 = .ok (.return_, 1) := by decide +kernel
theorem pn_1 : plainName "com/example/fogline/fogline/rules/Piece" = true := by first | (simp [plainName, overriddenIn]; done) | decide +kernel
theorem ef_1 (m : MethodId) (x0 : Addr) : entryFrame m #[(.ref x0), .null, .null] 3 = mkF m 0 #[.val (.ref x0), .val .null, .val .null] [] := by first | (simp [entryFrame, mkF, argsToLocals, Value.category]; done) | rfl
def Q1 (Z : State) (a1 : Addr)  (h0 : Heap) (n0 : Nat) (v : Option Value) (h : Heap) (L : List Loc) : Prop := v = none ∧ Fr n0 L ∧ Keep h0 h [a1]
set_option maxRecDepth 65536 in
set_option maxHeartbeats 40000000 in
theorem rm1 (l : Launch) (Z : State) (a0 : Array Value) (hw : ∀ d ∈ tables_1, d.before a0 Z = true) (ws : List Jvm.Cond) (a1 : Addr)  (h0 : Heap) (n0 : Nat) (Z0 : n0 ≤ h0.size) (E_a1 : Exa Z h0 a1 "com/example/fogline/fogline/rules/Piece") (g_a1 : n0 ≤ a1) (F_side_a1 : Fld Z h0 a1 "com/example/fogline/fogline/rules/Piece" "side" "Lcom/example/fogline/fogline/rules/Side;" .null) (F_rank_a1 : Fld Z h0 a1 "com/example/fogline/fogline/rules/Piece" "rank" "Lcom/example/fogline/fogline/rules/Rank;" .null) :
    MetFree l (⟨"com/example/fogline/fogline/rules/Piece", "<init>", "(Lcom/example/fogline/fogline/rules/Side;Lcom/example/fogline/fogline/rules/Rank;)V"⟩ : MethodName) (head1 (Jvm.Cond.code (⟨"com/example/fogline/fogline/rules/Piece", "<init>", "(Lcom/example/fogline/fogline/rules/Side;Lcom/example/fogline/fogline/rules/Rank;)V"⟩ : MethodName) prog_63_method_1_code 3 none :: ws) ({ frames := 1, cells := 0, slots := 0, locals := 12 } : Room)) (fun a U => a = #[(.ref a1), .null, .null] ∧ Z.Warmed39 U.vm ∧ U.heap = h0) (fun _ _ _ _ _ => True) (fun _ U o U' => ∃ v L, o = .returned v ∧ Q1 Z a1 h0 n0 v U'.heap L ∧ FrameEnd U o U' L ({ frames := 1, cells := 0, slots := 0, locals := 12 } : Room).cells ({ frames := 1, cells := 0, slots := 0, locals := 12 } : Room).slots) := by
  refine MetFree.of_bodySF (plainFor_of_name pn_1) hisR ?_
  intro p e s m args below meth c s₁ Bd hml0 hP hK
  obtain ⟨rfl, hZ, hh⟩ := hP
  have hx := Bd.exec
  have hby := Bd.bytes
  have hlk := Bd.notSynchronized
  have hml : c.maxLocals = 3 := hml0
  have hown : s.vm.findClass "com/example/fogline/fogline/rules/Piece" = some m.cls := findClass_of_methodNamed Bd.named
  have hnm := (name_of_methodNamed Bd.named Bd.method).1
  have X0 : Stand p l e ({ frames := 1, cells := 0, slots := 0, locals := 12 } : Room) s m #[(.ref a1), .null, .null] below meth c s₁ [] 0 0 := Stand.of_body Bd
  have e0 : s₁.heap = h0 := by rw [← hh, Bd.state]; rfl
  have N0 := Fr.nil n0
  have K0 : Keep h0 h0 [a1] := Keep.refl h0 _
  show OutW p e below s ({ frames := 1, cells := 0, slots := 0, locals := 12 } : Room).cells ({ frames := 1, cells := 0, slots := 0, locals := 12 } : Room).slots (Q1 Z a1 h0 n0) _
  refine OutW.back (fun t k => castTop (ef_1 m a1) k) ?_
  show OutW _ _ _ _ _ _ _ (s₁.setTop (mkF m 0 #[.val (.ref a1), .val .null, .val .null] []))
  refine OutW.back (fun t k => XS.aloadN X0.here hx rfl (hb hby d1_0) rfl rfl  k) ?_
  show OutW _ _ _ _ _ _ _ (s₁.setTop (mkF m 1 #[.val (.ref a1), .val .null, .val .null] [(.ref a1)]))
  obtain ⟨T1, X1, e1, st1⟩ := initO X0 hx hZ hown (hw _ (List.mem_of_getElem? (i := 6) rfl)) (hw _ (List.mem_of_getElem? (i := 7) rfl)) (hw _ (List.mem_of_getElem? (i := 8) rfl)) e0 (g := (mkF m 1 #[.val (.ref a1), .val .null, .val .null] [(.ref a1)])) rfl (by rw [hml]; rfl) rfl (hb hby d1_1) (by decide) (W := 0) (by show 2 * 0 + _ ≤ _; exact Nat.le_of_eq rfl) (by decide)
  refine OutW.back st1 ?_
  show OutW _ _ _ _ _ _ _ (T1.setTop (mkF m 4 #[.val (.ref a1), .val .null, .val .null] []))
  refine OutW.back (fun t k => XS.aloadN X1.here hx rfl (hb hby d1_4) rfl rfl  k) ?_
  show OutW _ _ _ _ _ _ _ (T1.setTop (mkF m 5 #[.val (.ref a1), .val .null, .val .null] [(.ref a1)]))
  refine OutW.back (fun t k => XS.aloadN X1.here hx rfl (hb hby d1_5) rfl rfl  k) ?_
  show OutW _ _ _ _ _ _ _ (T1.setTop (mkF m 6 #[.val (.ref a1), .val .null, .val .null] [.null, (.ref a1)]))
  obtain ⟨T2, h2, X2, e2, W2, st2⟩ := putF X1 hx hZ hown (host := "") (Or.inl (hw _ (List.mem_of_getElem? (i := 9) rfl))) Via.refl e1 F_side_a1 E_a1 (Or.inr ⟨(hw _ (List.mem_of_getElem? (i := 10) rfl)), rfl, hnm⟩) (hw _ (List.mem_of_getElem? (i := 1) rfl)) (ty := (.object "com/example/fogline/fogline/rules/Side")) (by decide) rfl rfl (g := (mkF m 6 #[.val (.ref a1), .val .null, .val .null] [.null, (.ref a1)])) rfl rfl (hb hby d1_6)
  have E_a1 := E_a1.wr W2
  have F_side_a1 := F_side_a1.same W2
  have F_rank_a1 := F_rank_a1.other W2 (Or.inr (slot_ne (Or.inr (hw _ (List.mem_of_getElem? (i := 12) rfl))) (Or.inr (hw _ (List.mem_of_getElem? (i := 10) rfl))) (by decide) (t := (.object "com/example/fogline/fogline/rules/Rank")) (t' := (.object "com/example/fogline/fogline/rules/Side")) (by decide) (by decide)))
  have N2 := Fr.snoc X2 N0 g_a1
  have Z2 : n0 ≤ h2.size := Nat.le_trans Z0 (Keep.of_wr W2).1
  have K2 := K0.wr W2 (Or.inl (List.mem_of_getElem? (i := 0) rfl))
  refine OutW.back st2 ?_
  show OutW _ _ _ _ _ _ _ (T2.setTop (mkF m 9 #[.val (.ref a1), .val .null, .val .null] []))
  refine OutW.back (fun t k => XS.aloadN X2.here hx rfl (hb hby d1_9) rfl rfl  k) ?_
  show OutW _ _ _ _ _ _ _ (T2.setTop (mkF m 10 #[.val (.ref a1), .val .null, .val .null] [(.ref a1)]))
  refine OutW.back (fun t k => XS.aloadN X2.here hx rfl (hb hby d1_10) rfl rfl  k) ?_
  show OutW _ _ _ _ _ _ _ (T2.setTop (mkF m 11 #[.val (.ref a1), .val .null, .val .null] [.null, (.ref a1)]))
  obtain ⟨T3, h3, X3, e3, W3, st3⟩ := putF X2 hx hZ hown (host := "") (Or.inl (hw _ (List.mem_of_getElem? (i := 11) rfl))) Via.refl e2 F_rank_a1 E_a1 (Or.inr ⟨(hw _ (List.mem_of_getElem? (i := 12) rfl)), rfl, hnm⟩) (hw _ (List.mem_of_getElem? (i := 1) rfl)) (ty := (.object "com/example/fogline/fogline/rules/Rank")) (by decide) rfl rfl (g := (mkF m 11 #[.val (.ref a1), .val .null, .val .null] [.null, (.ref a1)])) rfl rfl (hb hby d1_11)
  have E_a1 := E_a1.wr W3
  have F_side_a1 := F_side_a1.other W3 (Or.inr (slot_ne (Or.inr (hw _ (List.mem_of_getElem? (i := 10) rfl))) (Or.inr (hw _ (List.mem_of_getElem? (i := 12) rfl))) (by decide) (t := (.object "com/example/fogline/fogline/rules/Side")) (t' := (.object "com/example/fogline/fogline/rules/Rank")) (by decide) (by decide)))
  have F_rank_a1 := F_rank_a1.same W3
  have N3 := Fr.snoc X3 N2 g_a1
  have Z3 : n0 ≤ h3.size := Nat.le_trans Z2 (Keep.of_wr W3).1
  have K3 := K2.wr W3 (Or.inl (List.mem_of_getElem? (i := 0) rfl))
  refine OutW.back st3 ?_
  show OutW _ _ _ _ _ _ _ (T3.setTop (mkF m 14 #[.val (.ref a1), .val .null, .val .null] []))
  refine OutW.retV X3 hx Bd.returns hlk (hb hby d1_14) (by decide) (by decide) ?_
  show Q1 Z a1 h0 n0 _ T3.heap _
  rw [e3]
  exact ⟨rfl, N3, K3⟩
def pickF (p1 : Int32) (a2 : Addr) (a3 : Addr) : Value := (if p1 = (0 : Int32) then .null else (if p1 = (2 : Int32) then (.ref a3) else (.ref a2)))
theorem d3_0 : decode method_2_code 0 = .ok (.iload_n 0, 1) := by decide +kernel
theorem d3_1 : decode method_2_code 1 = .ok (.ifCond .ne 5, 3) := by decide +kernel
theorem d3_4 : decode method_2_code 4 = .ok (.aconst_null, 1) := by decide +kernel
theorem d3_5 : decode method_2_code 5 = .ok (.areturn, 1) := by decide +kernel
theorem d3_6 : decode method_2_code 6 = .ok (.iload_n 0, 1) := by decide +kernel
theorem d3_7 : decode method_2_code 7 = .ok (.iconst 2, 1) := by decide +kernel
theorem d3_8 : decode method_2_code 8 = .ok (.if_icmp .ne 5, 3) := by decide +kernel
theorem d3_11 : decode method_2_code 11 = .ok (.aload_n 2, 1) := by decide +kernel
theorem d3_12 : decode method_2_code 12 = .ok (.areturn, 1) := by decide +kernel
theorem d3_13 : decode method_2_code 13 = .ok (.aload_n 1, 1) := by decide +kernel
theorem d3_14 : decode method_2_code 14 = .ok (.areturn, 1) := by decide +kernel
theorem pn_3 : plainName "com/example/fogline/fogline/rules/RecentMovesWentBackPinLaw" = true := by first | (simp [plainName, overriddenIn]; done) | decide +kernel
theorem ef_3 (m : MethodId) (x0 : Int32) (x1 : Addr) (x2 : Addr) : entryFrame m #[(.int x0), (.ref x1), (.ref x2)] 3 = mkF m 0 #[.val (.int x0), .val (.ref x1), .val (.ref x2)] [] := by first | (simp [entryFrame, mkF, argsToLocals, Value.category]; done) | rfl
def Q3 (Z : State) (p1 : Int32) (a2 : Addr) (a3 : Addr)  (h0 : Heap) (n0 : Nat) (v : Option Value) (h : Heap) (L : List Loc) : Prop := v = some (pickF p1 a2 a3) ∧ Fr n0 L ∧ h = h0
set_option maxRecDepth 65536 in
set_option maxHeartbeats 40000000 in
theorem rm3 (l : Launch) (Z : State) (a0 : Array Value) (hw : ∀ d ∈ tables_1, d.before a0 Z = true) (ws : List Jvm.Cond) (p1 : Int32) (a2 : Addr) (a3 : Addr)  (h0 : Heap) (n0 : Nat) (Z0 : n0 ≤ h0.size) :
    MetFree l (⟨"com/example/fogline/fogline/rules/RecentMovesWentBackPinLaw", "pick", "(ILcom/example/fogline/fogline/rules/Piece;Lcom/example/fogline/fogline/rules/Piece;)Lcom/example/fogline/fogline/rules/Piece;"⟩ : MethodName) (head1 (Jvm.Cond.code (⟨"com/example/fogline/fogline/rules/RecentMovesWentBackPinLaw", "pick", "(ILcom/example/fogline/fogline/rules/Piece;Lcom/example/fogline/fogline/rules/Piece;)Lcom/example/fogline/fogline/rules/Piece;"⟩ : MethodName) method_2_code 3 (some (.object "com/example/fogline/fogline/rules/Piece")) :: ws) ({ frames := 0, cells := 0, slots := 0, locals := 0 } : Room)) (fun a U => a = #[(.int p1), (.ref a2), (.ref a3)] ∧ Z.Warmed39 U.vm ∧ U.heap = h0) (fun _ _ _ _ _ => True) (fun _ U o U' => ∃ v L, o = .returned v ∧ Q3 Z p1 a2 a3 h0 n0 v U'.heap L ∧ FrameEnd U o U' L ({ frames := 0, cells := 0, slots := 0, locals := 0 } : Room).cells ({ frames := 0, cells := 0, slots := 0, locals := 0 } : Room).slots) := by
  refine MetFree.of_bodySF (plainFor_of_name pn_3) hisR ?_
  intro p e s m args below meth c s₁ Bd hml0 hP hK
  obtain ⟨rfl, hZ, hh⟩ := hP
  have hx := Bd.exec
  have hby := Bd.bytes
  have hlk := Bd.notSynchronized
  have hml : c.maxLocals = 3 := hml0
  have hown : s.vm.findClass "com/example/fogline/fogline/rules/RecentMovesWentBackPinLaw" = some m.cls := findClass_of_methodNamed Bd.named
  have hnm := (name_of_methodNamed Bd.named Bd.method).1
  have X0 : Stand p l e ({ frames := 0, cells := 0, slots := 0, locals := 0 } : Room) s m #[(.int p1), (.ref a2), (.ref a3)] below meth c s₁ [] 0 0 := Stand.of_body Bd
  have e0 : s₁.heap = h0 := by rw [← hh, Bd.state]; rfl
  have N0 := Fr.nil n0
  have K0 : Keep h0 h0 [] := Keep.refl h0 _
  show OutW p e below s ({ frames := 0, cells := 0, slots := 0, locals := 0 } : Room).cells ({ frames := 0, cells := 0, slots := 0, locals := 0 } : Room).slots (Q3 Z p1 a2 a3 h0 n0) _
  refine OutW.back (fun t k => castTop (ef_3 m p1 a2 a3) k) ?_
  show OutW _ _ _ _ _ _ _ (s₁.setTop (mkF m 0 #[.val (.int p1), .val (.ref a2), .val (.ref a3)] []))
  refine OutW.back (fun t k => XS.iloadN X0.here hx rfl (hb hby d3_0) rfl  k) ?_
  show OutW _ _ _ _ _ _ _ (s₁.setTop (mkF m 1 #[.val (.int p1), .val (.ref a2), .val (.ref a3)] [(.int p1)]))
  by_cases c1_1 : p1 = (0 : Int32)
  · skip
    refine OutW.back (fun t k => XS.ifNo X0.here hx rfl (hb hby d3_1) rfl ((if0 _ _).trans (teq c1_1).2) k) ?_
    show OutW _ _ _ _ _ _ _ (s₁.setTop (mkF m 4 #[.val (.int p1), .val (.ref a2), .val (.ref a3)] []))
    refine OutW.back (fun t k => XS.aconstNull X0.here hx rfl (hb hby d3_4) k) ?_
    show OutW _ _ _ _ _ _ _ (s₁.setTop (mkF m 5 #[.val (.int p1), .val (.ref a2), .val (.ref a3)] [.null]))
    refine OutW.retA X0 hx Bd.returns rfl rfl hlk (hb hby d3_5) (by decide) (by decide) ?_
    show Q3 Z p1 a2 a3 h0 n0 _ s₁.heap _
    rw [e0]
    exact ⟨by rw [pickF, if_pos c1_1], N0, rfl⟩
  · skip
    refine OutW.back (fun t k => XS.ifYes X0.here hx rfl (pc0 := 1) (pc' := 6) rfl (hb hby d3_1) rfl ((if0 _ _).trans (feq c1_1).2) (by decide) (by decide) k) ?_
    show OutW _ _ _ _ _ _ _ (s₁.setTop (mkF m 6 #[.val (.int p1), .val (.ref a2), .val (.ref a3)] []))
    refine OutW.back (fun t k => XS.iloadN X0.here hx rfl (hb hby d3_6) rfl  k) ?_
    show OutW _ _ _ _ _ _ _ (s₁.setTop (mkF m 7 #[.val (.int p1), .val (.ref a2), .val (.ref a3)] [(.int p1)]))
    refine OutW.back (fun t k => XS.iconst X0.here hx rfl (hb hby d3_7) k) ?_
    show OutW _ _ _ _ _ _ _ (s₁.setTop (mkF m 8 #[.val (.int p1), .val (.ref a2), .val (.ref a3)] [(.int (2 : Int32)), (.int p1)]))
    by_cases c8_2 : p1 = (2 : Int32)
    · skip
      refine OutW.back (fun t k => XS.icmpNo X0.here hx rfl (hb hby d3_8) rfl (teq c8_2).2 k) ?_
      show OutW _ _ _ _ _ _ _ (s₁.setTop (mkF m 11 #[.val (.int p1), .val (.ref a2), .val (.ref a3)] []))
      refine OutW.back (fun t k => XS.aloadN X0.here hx rfl (hb hby d3_11) rfl rfl  k) ?_
      show OutW _ _ _ _ _ _ _ (s₁.setTop (mkF m 12 #[.val (.int p1), .val (.ref a2), .val (.ref a3)] [(.ref a3)]))
      refine OutW.retA X0 hx Bd.returns rfl rfl hlk (hb hby d3_12) (by decide) (by decide) ?_
      show Q3 Z p1 a2 a3 h0 n0 _ s₁.heap _
      rw [e0]
      exact ⟨by rw [pickF, if_neg c1_1, if_pos c8_2], N0, rfl⟩
    · skip
      refine OutW.back (fun t k => XS.icmpYes X0.here hx rfl (pc0 := 8) (pc' := 13) rfl (hb hby d3_8) rfl (feq c8_2).2 (by decide) (by decide) k) ?_
      show OutW _ _ _ _ _ _ _ (s₁.setTop (mkF m 13 #[.val (.int p1), .val (.ref a2), .val (.ref a3)] []))
      refine OutW.back (fun t k => XS.aloadN X0.here hx rfl (hb hby d3_13) rfl rfl  k) ?_
      show OutW _ _ _ _ _ _ _ (s₁.setTop (mkF m 14 #[.val (.int p1), .val (.ref a2), .val (.ref a3)] [(.ref a2)]))
      refine OutW.retA X0 hx Bd.returns rfl rfl hlk (hb hby d3_14) (by decide) (by decide) ?_
      show Q3 Z p1 a2 a3 h0 n0 _ s₁.heap _
      rw [e0]
      exact ⟨by rw [pickF, if_neg c1_1, if_neg c8_2], N0, rfl⟩
theorem pickF_ref (p : Int32) (a b : Addr) : (pickF p a b).isRef = true := by
  unfold pickF
  repeat' split
  all_goals rfl
theorem d4_0 : decode prog_65_method_1_code 0 = .ok (.aload_n 0, 1) := by decide +kernel
theorem d4_1 : decode prog_65_method_1_code 1 = .ok (.invokespecial 1, 3) := by decide +kernel
theorem d4_4 : decode prog_65_method_1_code 4 = .ok (.return_, 1) := by decide +kernel
theorem pn_4 : plainName "com/example/fogline/fogline/rules/RecentMoves" = true := by first | (simp [plainName, overriddenIn]; done) | decide +kernel
theorem ef_4 (m : MethodId) (x0 : Addr) : entryFrame m #[(.ref x0)] 1 = mkF m 0 #[.val (.ref x0)] [] := by first | (simp [entryFrame, mkF, argsToLocals, Value.category]; done) | rfl
def Q4 (Z : State) (a1 : Addr)  (h0 : Heap) (n0 : Nat) (v : Option Value) (h : Heap) (L : List Loc) : Prop := v = none ∧ Fr n0 L ∧ h = h0
set_option maxRecDepth 65536 in
set_option maxHeartbeats 40000000 in
theorem rm4 (l : Launch) (Z : State) (a0 : Array Value) (hw : ∀ d ∈ tables_1, d.before a0 Z = true) (ws : List Jvm.Cond) (a1 : Addr)  (h0 : Heap) (n0 : Nat) (Z0 : n0 ≤ h0.size) (E_a1 : Exa Z h0 a1 "com/example/fogline/fogline/rules/RecentMoves") :
    MetFree l (⟨"com/example/fogline/fogline/rules/RecentMoves", "<init>", "()V"⟩ : MethodName) (head1 (Jvm.Cond.code (⟨"com/example/fogline/fogline/rules/RecentMoves", "<init>", "()V"⟩ : MethodName) prog_65_method_1_code 1 none :: ws) ({ frames := 1, cells := 0, slots := 0, locals := 12 } : Room)) (fun a U => a = #[(.ref a1)] ∧ Z.Warmed39 U.vm ∧ U.heap = h0) (fun _ _ _ _ _ => True) (fun _ U o U' => ∃ v L, o = .returned v ∧ Q4 Z a1 h0 n0 v U'.heap L ∧ FrameEnd U o U' L ({ frames := 1, cells := 0, slots := 0, locals := 12 } : Room).cells ({ frames := 1, cells := 0, slots := 0, locals := 12 } : Room).slots) := by
  refine MetFree.of_bodySF (plainFor_of_name pn_4) hisR ?_
  intro p e s m args below meth c s₁ Bd hml0 hP hK
  obtain ⟨rfl, hZ, hh⟩ := hP
  have hx := Bd.exec
  have hby := Bd.bytes
  have hlk := Bd.notSynchronized
  have hml : c.maxLocals = 1 := hml0
  have hown : s.vm.findClass "com/example/fogline/fogline/rules/RecentMoves" = some m.cls := findClass_of_methodNamed Bd.named
  have hnm := (name_of_methodNamed Bd.named Bd.method).1
  have X0 : Stand p l e ({ frames := 1, cells := 0, slots := 0, locals := 12 } : Room) s m #[(.ref a1)] below meth c s₁ [] 0 0 := Stand.of_body Bd
  have e0 : s₁.heap = h0 := by rw [← hh, Bd.state]; rfl
  have N0 := Fr.nil n0
  have K0 : Keep h0 h0 [] := Keep.refl h0 _
  show OutW p e below s ({ frames := 1, cells := 0, slots := 0, locals := 12 } : Room).cells ({ frames := 1, cells := 0, slots := 0, locals := 12 } : Room).slots (Q4 Z a1 h0 n0) _
  refine OutW.back (fun t k => castTop (ef_4 m a1) k) ?_
  show OutW _ _ _ _ _ _ _ (s₁.setTop (mkF m 0 #[.val (.ref a1)] []))
  refine OutW.back (fun t k => XS.aloadN X0.here hx rfl (hb hby d4_0) rfl rfl  k) ?_
  show OutW _ _ _ _ _ _ _ (s₁.setTop (mkF m 1 #[.val (.ref a1)] [(.ref a1)]))
  obtain ⟨T1, X1, e1, st1⟩ := initO X0 hx hZ hown (hw _ (List.mem_of_getElem? (i := 23) rfl)) (hw _ (List.mem_of_getElem? (i := 7) rfl)) (hw _ (List.mem_of_getElem? (i := 8) rfl)) e0 (g := (mkF m 1 #[.val (.ref a1)] [(.ref a1)])) rfl (by rw [hml]; rfl) rfl (hb hby d4_1) (by decide) (W := 0) (by show 2 * 0 + _ ≤ _; exact Nat.le_of_eq rfl) (by decide)
  refine OutW.back st1 ?_
  show OutW _ _ _ _ _ _ _ (T1.setTop (mkF m 4 #[.val (.ref a1)] []))
  refine OutW.retV X1 hx Bd.returns hlk (hb hby d4_4) (by decide) (by decide) ?_
  show Q4 Z a1 h0 n0 _ T1.heap _
  rw [e1]
  exact ⟨rfl, N0, rfl⟩
theorem d6_0 : decode prog_65_method_2_code 0 = .ok (.aload_n 0, 1) := by decide +kernel
theorem d6_1 : decode prog_65_method_2_code 1 = .ok (.aload_n 0, 1) := by decide +kernel
theorem d6_2 : decode prog_65_method_2_code 2 = .ok (.getfield 7, 3) := by decide +kernel
theorem d6_5 : decode prog_65_method_2_code 5 = .ok (.putfield 13, 3) := by decide +kernel
theorem d6_8 : decode prog_65_method_2_code 8 = .ok (.aload_n 0, 1) := by decide +kernel
theorem d6_9 : decode prog_65_method_2_code 9 = .ok (.aload_n 0, 1) := by decide +kernel
theorem d6_10 : decode prog_65_method_2_code 10 = .ok (.getfield 16, 3) := by decide +kernel
theorem d6_13 : decode prog_65_method_2_code 13 = .ok (.putfield 20, 3) := by decide +kernel
theorem d6_16 : decode prog_65_method_2_code 16 = .ok (.aload_n 0, 1) := by decide +kernel
theorem d6_17 : decode prog_65_method_2_code 17 = .ok (.aload_n 0, 1) := by decide +kernel
theorem d6_18 : decode prog_65_method_2_code 18 = .ok (.getfield 23, 3) := by decide +kernel
theorem d6_21 : decode prog_65_method_2_code 21 = .ok (.putfield 26, 3) := by decide +kernel
theorem d6_24 : decode prog_65_method_2_code 24 = .ok (.aload_n 0, 1) := by decide +kernel
theorem d6_25 : decode prog_65_method_2_code 25 = .ok (.aload_n 1, 1) := by decide +kernel
theorem d6_26 : decode prog_65_method_2_code 26 = .ok (.putfield 7, 3) := by decide +kernel
theorem d6_29 : decode prog_65_method_2_code 29 = .ok (.aload_n 0, 1) := by decide +kernel
theorem d6_30 : decode prog_65_method_2_code 30 = .ok (.iload_n 2, 1) := by decide +kernel
theorem d6_31 : decode prog_65_method_2_code 31 = .ok (.putfield 16, 3) := by decide +kernel
theorem d6_34 : decode prog_65_method_2_code 34 = .ok (.aload_n 0, 1) := by decide +kernel
theorem d6_35 : decode prog_65_method_2_code 35 = .ok (.iload_n 3, 1) := by decide +kernel
theorem d6_36 : decode prog_65_method_2_code 36 = .ok (.putfield 23, 3) := by decide +kernel
theorem d6_39 : decode prog_65_method_2_code 39 = .ok (.return_, 1) := by decide +kernel
theorem pn_6 : plainName "com/example/fogline/fogline/rules/RecentMoves" = true := by first | (simp [plainName, overriddenIn]; done) | decide +kernel
theorem ef_6 (m : MethodId) (x0 : Addr) (x1 : Value) (x2 : Int32) (x3 : Int32) (ir_x1 : x1.isRef = true) : entryFrame m #[(.ref x0), x1, (.int x2), (.int x3)] 4 = mkF m 0 #[.val (.ref x0), .val x1, .val (.int x2), .val (.int x3)] [] := by
  (rcases ref_cases ir_x1 with rfl | ⟨_, rfl⟩) <;> simp [entryFrame, mkF, argsToLocals, Value.category]
def Q6 (Z : State) (a1 : Addr) (y2 : Value) (p3 : Int32) (p4 : Int32) (w_lastPiece : Value) (w_pieceBefore : Value) (w_lastFrom : Int32) (w_fromBefore : Int32) (w_lastTo : Int32) (w_toBefore : Int32) (h0 : Heap) (n0 : Nat) (v : Option Value) (h : Heap) (L : List Loc) : Prop := v = none ∧ Fr n0 L ∧ Keep h0 h [a1] ∧ Fld Z h a1 "com/example/fogline/fogline/rules/RecentMoves" "lastPiece" "Lcom/example/fogline/fogline/rules/Piece;" y2 ∧ Fld Z h a1 "com/example/fogline/fogline/rules/RecentMoves" "pieceBefore" "Lcom/example/fogline/fogline/rules/Piece;" w_lastPiece ∧ Fld Z h a1 "com/example/fogline/fogline/rules/RecentMoves" "lastFrom" "I" (.int p3) ∧ Fld Z h a1 "com/example/fogline/fogline/rules/RecentMoves" "fromBefore" "I" (.int w_lastFrom) ∧ Fld Z h a1 "com/example/fogline/fogline/rules/RecentMoves" "lastTo" "I" (.int p4) ∧ Fld Z h a1 "com/example/fogline/fogline/rules/RecentMoves" "toBefore" "I" (.int w_lastTo)
set_option maxRecDepth 65536 in
set_option maxHeartbeats 40000000 in
theorem rm6 (l : Launch) (Z : State) (a0 : Array Value) (hw : ∀ d ∈ tables_1, d.before a0 Z = true) (ws : List Jvm.Cond) (a1 : Addr) (y2 : Value) (p3 : Int32) (p4 : Int32) (w_lastPiece : Value) (w_pieceBefore : Value) (w_lastFrom : Int32) (w_fromBefore : Int32) (w_lastTo : Int32) (w_toBefore : Int32) (h0 : Heap) (n0 : Nat) (Z0 : n0 ≤ h0.size) (E_a1 : Exa Z h0 a1 "com/example/fogline/fogline/rules/RecentMoves") (g_a1 : n0 ≤ a1) (ir_y2 : y2.isRef = true) (F_lastPiece_a1 : Fld Z h0 a1 "com/example/fogline/fogline/rules/RecentMoves" "lastPiece" "Lcom/example/fogline/fogline/rules/Piece;" w_lastPiece) (F_pieceBefore_a1 : Fld Z h0 a1 "com/example/fogline/fogline/rules/RecentMoves" "pieceBefore" "Lcom/example/fogline/fogline/rules/Piece;" w_pieceBefore) (F_lastFrom_a1 : Fld Z h0 a1 "com/example/fogline/fogline/rules/RecentMoves" "lastFrom" "I" (.int w_lastFrom)) (F_fromBefore_a1 : Fld Z h0 a1 "com/example/fogline/fogline/rules/RecentMoves" "fromBefore" "I" (.int w_fromBefore)) (F_lastTo_a1 : Fld Z h0 a1 "com/example/fogline/fogline/rules/RecentMoves" "lastTo" "I" (.int w_lastTo)) (F_toBefore_a1 : Fld Z h0 a1 "com/example/fogline/fogline/rules/RecentMoves" "toBefore" "I" (.int w_toBefore)) (ir_w_lastPiece : w_lastPiece.isRef = true) :
    MetFree l (⟨"com/example/fogline/fogline/rules/RecentMoves", "add", "(Lcom/example/fogline/fogline/rules/Piece;II)V"⟩ : MethodName) (head1 (Jvm.Cond.code (⟨"com/example/fogline/fogline/rules/RecentMoves", "add", "(Lcom/example/fogline/fogline/rules/Piece;II)V"⟩ : MethodName) prog_65_method_2_code 4 none :: ws) ({ frames := 0, cells := 0, slots := 0, locals := 0 } : Room)) (fun a U => a = #[(.ref a1), y2, (.int p3), (.int p4)] ∧ Z.Warmed39 U.vm ∧ U.heap = h0) (fun _ _ _ _ _ => True) (fun _ U o U' => ∃ v L, o = .returned v ∧ Q6 Z a1 y2 p3 p4 w_lastPiece w_pieceBefore w_lastFrom w_fromBefore w_lastTo w_toBefore h0 n0 v U'.heap L ∧ FrameEnd U o U' L ({ frames := 0, cells := 0, slots := 0, locals := 0 } : Room).cells ({ frames := 0, cells := 0, slots := 0, locals := 0 } : Room).slots) := by
  refine MetFree.of_bodySF (plainFor_of_name pn_6) hisR ?_
  intro p e s m args below meth c s₁ Bd hml0 hP hK
  obtain ⟨rfl, hZ, hh⟩ := hP
  have hx := Bd.exec
  have hby := Bd.bytes
  have hlk := Bd.notSynchronized
  have hml : c.maxLocals = 4 := hml0
  have hown : s.vm.findClass "com/example/fogline/fogline/rules/RecentMoves" = some m.cls := findClass_of_methodNamed Bd.named
  have hnm := (name_of_methodNamed Bd.named Bd.method).1
  have X0 : Stand p l e ({ frames := 0, cells := 0, slots := 0, locals := 0 } : Room) s m #[(.ref a1), y2, (.int p3), (.int p4)] below meth c s₁ [] 0 0 := Stand.of_body Bd
  have e0 : s₁.heap = h0 := by rw [← hh, Bd.state]; rfl
  have N0 := Fr.nil n0
  have K0 : Keep h0 h0 [a1] := Keep.refl h0 _
  show OutW p e below s ({ frames := 0, cells := 0, slots := 0, locals := 0 } : Room).cells ({ frames := 0, cells := 0, slots := 0, locals := 0 } : Room).slots (Q6 Z a1 y2 p3 p4 w_lastPiece w_pieceBefore w_lastFrom w_fromBefore w_lastTo w_toBefore h0 n0) _
  refine OutW.back (fun t k => castTop (ef_6 m a1 y2 p3 p4 ir_y2) k) ?_
  show OutW _ _ _ _ _ _ _ (s₁.setTop (mkF m 0 #[.val (.ref a1), .val y2, .val (.int p3), .val (.int p4)] []))
  refine OutW.back (fun t k => XS.aloadN X0.here hx rfl (hb hby d6_0) rfl rfl  k) ?_
  show OutW _ _ _ _ _ _ _ (s₁.setTop (mkF m 1 #[.val (.ref a1), .val y2, .val (.int p3), .val (.int p4)] [(.ref a1)]))
  refine OutW.back (fun t k => XS.aloadN X0.here hx rfl (hb hby d6_1) rfl rfl  k) ?_
  show OutW _ _ _ _ _ _ _ (s₁.setTop (mkF m 2 #[.val (.ref a1), .val y2, .val (.int p3), .val (.int p4)] [(.ref a1), (.ref a1)]))
  obtain ⟨T1, X1, e1, st1⟩ := getF X0 hx hZ hown (host := "") (Or.inl (hw _ (List.mem_of_getElem? (i := 29) rfl))) Via.refl e0 F_lastPiece_a1 (g := (mkF m 2 #[.val (.ref a1), .val y2, .val (.int p3), .val (.int p4)] [(.ref a1), (.ref a1)])) rfl rfl (hb hby d6_2)
  refine OutW.back st1 ?_
  show OutW _ _ _ _ _ _ _ (T1.setTop (mkF m 5 #[.val (.ref a1), .val y2, .val (.int p3), .val (.int p4)] [w_lastPiece, (.ref a1)]))
  obtain ⟨T2, h2, X2, e2, W2, st2⟩ := putF X1 hx hZ hown (host := "") (Or.inl (hw _ (List.mem_of_getElem? (i := 36) rfl))) Via.refl e1 F_pieceBefore_a1 E_a1 (Or.inl (hw _ (List.mem_of_getElem? (i := 37) rfl))) (hw _ (List.mem_of_getElem? (i := 18) rfl)) (ty := (.object "com/example/fogline/fogline/rules/Piece")) (by decide) (nar_ref ir_w_lastPiece) (fit_ref rfl ir_w_lastPiece) (g := (mkF m 5 #[.val (.ref a1), .val y2, .val (.int p3), .val (.int p4)] [w_lastPiece, (.ref a1)])) rfl rfl (hb hby d6_5)
  have E_a1 := E_a1.wr W2
  have F_lastPiece_a1 := F_lastPiece_a1.other W2 (Or.inr (slot_ne (Or.inl (hw _ (List.mem_of_getElem? (i := 30) rfl))) (Or.inl (hw _ (List.mem_of_getElem? (i := 37) rfl))) (by decide) (t := (.object "com/example/fogline/fogline/rules/Piece")) (t' := (.object "com/example/fogline/fogline/rules/Piece")) (by decide) (by decide)))
  have F_pieceBefore_a1 := F_pieceBefore_a1.same W2
  have F_lastFrom_a1 := F_lastFrom_a1.other W2 (Or.inr (slot_ne (Or.inl (hw _ (List.mem_of_getElem? (i := 39) rfl))) (Or.inl (hw _ (List.mem_of_getElem? (i := 37) rfl))) (by decide) (t := .int) (t' := (.object "com/example/fogline/fogline/rules/Piece")) (by decide) (by decide)))
  have F_fromBefore_a1 := F_fromBefore_a1.other W2 (Or.inr (slot_ne (Or.inl (hw _ (List.mem_of_getElem? (i := 41) rfl))) (Or.inl (hw _ (List.mem_of_getElem? (i := 37) rfl))) (by decide) (t := .int) (t' := (.object "com/example/fogline/fogline/rules/Piece")) (by decide) (by decide)))
  have F_lastTo_a1 := F_lastTo_a1.other W2 (Or.inr (slot_ne (Or.inl (hw _ (List.mem_of_getElem? (i := 43) rfl))) (Or.inl (hw _ (List.mem_of_getElem? (i := 37) rfl))) (by decide) (t := .int) (t' := (.object "com/example/fogline/fogline/rules/Piece")) (by decide) (by decide)))
  have F_toBefore_a1 := F_toBefore_a1.other W2 (Or.inr (slot_ne (Or.inl (hw _ (List.mem_of_getElem? (i := 45) rfl))) (Or.inl (hw _ (List.mem_of_getElem? (i := 37) rfl))) (by decide) (t := .int) (t' := (.object "com/example/fogline/fogline/rules/Piece")) (by decide) (by decide)))
  have N2 := Fr.snoc X2 N0 g_a1
  have Z2 : n0 ≤ h2.size := Nat.le_trans Z0 (Keep.of_wr W2).1
  have K2 := K0.wr W2 (Or.inl (List.mem_of_getElem? (i := 0) rfl))
  refine OutW.back st2 ?_
  show OutW _ _ _ _ _ _ _ (T2.setTop (mkF m 8 #[.val (.ref a1), .val y2, .val (.int p3), .val (.int p4)] []))
  refine OutW.back (fun t k => XS.aloadN X2.here hx rfl (hb hby d6_8) rfl rfl  k) ?_
  show OutW _ _ _ _ _ _ _ (T2.setTop (mkF m 9 #[.val (.ref a1), .val y2, .val (.int p3), .val (.int p4)] [(.ref a1)]))
  refine OutW.back (fun t k => XS.aloadN X2.here hx rfl (hb hby d6_9) rfl rfl  k) ?_
  show OutW _ _ _ _ _ _ _ (T2.setTop (mkF m 10 #[.val (.ref a1), .val y2, .val (.int p3), .val (.int p4)] [(.ref a1), (.ref a1)]))
  obtain ⟨T3, X3, e3, st3⟩ := getF X2 hx hZ hown (host := "") (Or.inl (hw _ (List.mem_of_getElem? (i := 38) rfl))) Via.refl e2 F_lastFrom_a1 (g := (mkF m 10 #[.val (.ref a1), .val y2, .val (.int p3), .val (.int p4)] [(.ref a1), (.ref a1)])) rfl rfl (hb hby d6_10)
  refine OutW.back st3 ?_
  show OutW _ _ _ _ _ _ _ (T3.setTop (mkF m 13 #[.val (.ref a1), .val y2, .val (.int p3), .val (.int p4)] [(.int w_lastFrom), (.ref a1)]))
  obtain ⟨T4, h4, X4, e4, W4, st4⟩ := putF X3 hx hZ hown (host := "") (Or.inl (hw _ (List.mem_of_getElem? (i := 40) rfl))) Via.refl e3 F_fromBefore_a1 E_a1 (Or.inl (hw _ (List.mem_of_getElem? (i := 41) rfl))) (hw _ (List.mem_of_getElem? (i := 18) rfl)) (ty := .int) (by decide) rfl rfl (g := (mkF m 13 #[.val (.ref a1), .val y2, .val (.int p3), .val (.int p4)] [(.int w_lastFrom), (.ref a1)])) rfl rfl (hb hby d6_13)
  have E_a1 := E_a1.wr W4
  have F_lastPiece_a1 := F_lastPiece_a1.other W4 (Or.inr (slot_ne (Or.inl (hw _ (List.mem_of_getElem? (i := 30) rfl))) (Or.inl (hw _ (List.mem_of_getElem? (i := 41) rfl))) (by decide) (t := (.object "com/example/fogline/fogline/rules/Piece")) (t' := .int) (by decide) (by decide)))
  have F_pieceBefore_a1 := F_pieceBefore_a1.other W4 (Or.inr (slot_ne (Or.inl (hw _ (List.mem_of_getElem? (i := 37) rfl))) (Or.inl (hw _ (List.mem_of_getElem? (i := 41) rfl))) (by decide) (t := (.object "com/example/fogline/fogline/rules/Piece")) (t' := .int) (by decide) (by decide)))
  have F_lastFrom_a1 := F_lastFrom_a1.other W4 (Or.inr (slot_ne (Or.inl (hw _ (List.mem_of_getElem? (i := 39) rfl))) (Or.inl (hw _ (List.mem_of_getElem? (i := 41) rfl))) (by decide) (t := .int) (t' := .int) (by decide) (by decide)))
  have F_fromBefore_a1 := F_fromBefore_a1.same W4
  have F_lastTo_a1 := F_lastTo_a1.other W4 (Or.inr (slot_ne (Or.inl (hw _ (List.mem_of_getElem? (i := 43) rfl))) (Or.inl (hw _ (List.mem_of_getElem? (i := 41) rfl))) (by decide) (t := .int) (t' := .int) (by decide) (by decide)))
  have F_toBefore_a1 := F_toBefore_a1.other W4 (Or.inr (slot_ne (Or.inl (hw _ (List.mem_of_getElem? (i := 45) rfl))) (Or.inl (hw _ (List.mem_of_getElem? (i := 41) rfl))) (by decide) (t := .int) (t' := .int) (by decide) (by decide)))
  have N4 := Fr.snoc X4 N2 g_a1
  have Z4 : n0 ≤ h4.size := Nat.le_trans Z2 (Keep.of_wr W4).1
  have K4 := K2.wr W4 (Or.inl (List.mem_of_getElem? (i := 0) rfl))
  refine OutW.back st4 ?_
  show OutW _ _ _ _ _ _ _ (T4.setTop (mkF m 16 #[.val (.ref a1), .val y2, .val (.int p3), .val (.int p4)] []))
  refine OutW.back (fun t k => XS.aloadN X4.here hx rfl (hb hby d6_16) rfl rfl  k) ?_
  show OutW _ _ _ _ _ _ _ (T4.setTop (mkF m 17 #[.val (.ref a1), .val y2, .val (.int p3), .val (.int p4)] [(.ref a1)]))
  refine OutW.back (fun t k => XS.aloadN X4.here hx rfl (hb hby d6_17) rfl rfl  k) ?_
  show OutW _ _ _ _ _ _ _ (T4.setTop (mkF m 18 #[.val (.ref a1), .val y2, .val (.int p3), .val (.int p4)] [(.ref a1), (.ref a1)]))
  obtain ⟨T5, X5, e5, st5⟩ := getF X4 hx hZ hown (host := "") (Or.inl (hw _ (List.mem_of_getElem? (i := 42) rfl))) Via.refl e4 F_lastTo_a1 (g := (mkF m 18 #[.val (.ref a1), .val y2, .val (.int p3), .val (.int p4)] [(.ref a1), (.ref a1)])) rfl rfl (hb hby d6_18)
  refine OutW.back st5 ?_
  show OutW _ _ _ _ _ _ _ (T5.setTop (mkF m 21 #[.val (.ref a1), .val y2, .val (.int p3), .val (.int p4)] [(.int w_lastTo), (.ref a1)]))
  obtain ⟨T6, h6, X6, e6, W6, st6⟩ := putF X5 hx hZ hown (host := "") (Or.inl (hw _ (List.mem_of_getElem? (i := 44) rfl))) Via.refl e5 F_toBefore_a1 E_a1 (Or.inl (hw _ (List.mem_of_getElem? (i := 45) rfl))) (hw _ (List.mem_of_getElem? (i := 18) rfl)) (ty := .int) (by decide) rfl rfl (g := (mkF m 21 #[.val (.ref a1), .val y2, .val (.int p3), .val (.int p4)] [(.int w_lastTo), (.ref a1)])) rfl rfl (hb hby d6_21)
  have E_a1 := E_a1.wr W6
  have F_lastPiece_a1 := F_lastPiece_a1.other W6 (Or.inr (slot_ne (Or.inl (hw _ (List.mem_of_getElem? (i := 30) rfl))) (Or.inl (hw _ (List.mem_of_getElem? (i := 45) rfl))) (by decide) (t := (.object "com/example/fogline/fogline/rules/Piece")) (t' := .int) (by decide) (by decide)))
  have F_pieceBefore_a1 := F_pieceBefore_a1.other W6 (Or.inr (slot_ne (Or.inl (hw _ (List.mem_of_getElem? (i := 37) rfl))) (Or.inl (hw _ (List.mem_of_getElem? (i := 45) rfl))) (by decide) (t := (.object "com/example/fogline/fogline/rules/Piece")) (t' := .int) (by decide) (by decide)))
  have F_lastFrom_a1 := F_lastFrom_a1.other W6 (Or.inr (slot_ne (Or.inl (hw _ (List.mem_of_getElem? (i := 39) rfl))) (Or.inl (hw _ (List.mem_of_getElem? (i := 45) rfl))) (by decide) (t := .int) (t' := .int) (by decide) (by decide)))
  have F_fromBefore_a1 := F_fromBefore_a1.other W6 (Or.inr (slot_ne (Or.inl (hw _ (List.mem_of_getElem? (i := 41) rfl))) (Or.inl (hw _ (List.mem_of_getElem? (i := 45) rfl))) (by decide) (t := .int) (t' := .int) (by decide) (by decide)))
  have F_lastTo_a1 := F_lastTo_a1.other W6 (Or.inr (slot_ne (Or.inl (hw _ (List.mem_of_getElem? (i := 43) rfl))) (Or.inl (hw _ (List.mem_of_getElem? (i := 45) rfl))) (by decide) (t := .int) (t' := .int) (by decide) (by decide)))
  have F_toBefore_a1 := F_toBefore_a1.same W6
  have N6 := Fr.snoc X6 N4 g_a1
  have Z6 : n0 ≤ h6.size := Nat.le_trans Z4 (Keep.of_wr W6).1
  have K6 := K4.wr W6 (Or.inl (List.mem_of_getElem? (i := 0) rfl))
  refine OutW.back st6 ?_
  show OutW _ _ _ _ _ _ _ (T6.setTop (mkF m 24 #[.val (.ref a1), .val y2, .val (.int p3), .val (.int p4)] []))
  refine OutW.back (fun t k => XS.aloadN X6.here hx rfl (hb hby d6_24) rfl rfl  k) ?_
  show OutW _ _ _ _ _ _ _ (T6.setTop (mkF m 25 #[.val (.ref a1), .val y2, .val (.int p3), .val (.int p4)] [(.ref a1)]))
  refine OutW.back (fun t k => XS.aloadN X6.here hx rfl (hb hby d6_25) rfl ir_y2  k) ?_
  show OutW _ _ _ _ _ _ _ (T6.setTop (mkF m 26 #[.val (.ref a1), .val y2, .val (.int p3), .val (.int p4)] [y2, (.ref a1)]))
  obtain ⟨T7, h7, X7, e7, W7, st7⟩ := putF X6 hx hZ hown (host := "") (Or.inl (hw _ (List.mem_of_getElem? (i := 29) rfl))) Via.refl e6 F_lastPiece_a1 E_a1 (Or.inl (hw _ (List.mem_of_getElem? (i := 30) rfl))) (hw _ (List.mem_of_getElem? (i := 18) rfl)) (ty := (.object "com/example/fogline/fogline/rules/Piece")) (by decide) (nar_ref ir_y2) (fit_ref rfl ir_y2) (g := (mkF m 26 #[.val (.ref a1), .val y2, .val (.int p3), .val (.int p4)] [y2, (.ref a1)])) rfl rfl (hb hby d6_26)
  have E_a1 := E_a1.wr W7
  have F_lastPiece_a1 := F_lastPiece_a1.same W7
  have F_pieceBefore_a1 := F_pieceBefore_a1.other W7 (Or.inr (slot_ne (Or.inl (hw _ (List.mem_of_getElem? (i := 37) rfl))) (Or.inl (hw _ (List.mem_of_getElem? (i := 30) rfl))) (by decide) (t := (.object "com/example/fogline/fogline/rules/Piece")) (t' := (.object "com/example/fogline/fogline/rules/Piece")) (by decide) (by decide)))
  have F_lastFrom_a1 := F_lastFrom_a1.other W7 (Or.inr (slot_ne (Or.inl (hw _ (List.mem_of_getElem? (i := 39) rfl))) (Or.inl (hw _ (List.mem_of_getElem? (i := 30) rfl))) (by decide) (t := .int) (t' := (.object "com/example/fogline/fogline/rules/Piece")) (by decide) (by decide)))
  have F_fromBefore_a1 := F_fromBefore_a1.other W7 (Or.inr (slot_ne (Or.inl (hw _ (List.mem_of_getElem? (i := 41) rfl))) (Or.inl (hw _ (List.mem_of_getElem? (i := 30) rfl))) (by decide) (t := .int) (t' := (.object "com/example/fogline/fogline/rules/Piece")) (by decide) (by decide)))
  have F_lastTo_a1 := F_lastTo_a1.other W7 (Or.inr (slot_ne (Or.inl (hw _ (List.mem_of_getElem? (i := 43) rfl))) (Or.inl (hw _ (List.mem_of_getElem? (i := 30) rfl))) (by decide) (t := .int) (t' := (.object "com/example/fogline/fogline/rules/Piece")) (by decide) (by decide)))
  have F_toBefore_a1 := F_toBefore_a1.other W7 (Or.inr (slot_ne (Or.inl (hw _ (List.mem_of_getElem? (i := 45) rfl))) (Or.inl (hw _ (List.mem_of_getElem? (i := 30) rfl))) (by decide) (t := .int) (t' := (.object "com/example/fogline/fogline/rules/Piece")) (by decide) (by decide)))
  have N7 := Fr.snoc X7 N6 g_a1
  have Z7 : n0 ≤ h7.size := Nat.le_trans Z6 (Keep.of_wr W7).1
  have K7 := K6.wr W7 (Or.inl (List.mem_of_getElem? (i := 0) rfl))
  refine OutW.back st7 ?_
  show OutW _ _ _ _ _ _ _ (T7.setTop (mkF m 29 #[.val (.ref a1), .val y2, .val (.int p3), .val (.int p4)] []))
  refine OutW.back (fun t k => XS.aloadN X7.here hx rfl (hb hby d6_29) rfl rfl  k) ?_
  show OutW _ _ _ _ _ _ _ (T7.setTop (mkF m 30 #[.val (.ref a1), .val y2, .val (.int p3), .val (.int p4)] [(.ref a1)]))
  refine OutW.back (fun t k => XS.iloadN X7.here hx rfl (hb hby d6_30) rfl  k) ?_
  show OutW _ _ _ _ _ _ _ (T7.setTop (mkF m 31 #[.val (.ref a1), .val y2, .val (.int p3), .val (.int p4)] [(.int p3), (.ref a1)]))
  obtain ⟨T8, h8, X8, e8, W8, st8⟩ := putF X7 hx hZ hown (host := "") (Or.inl (hw _ (List.mem_of_getElem? (i := 38) rfl))) Via.refl e7 F_lastFrom_a1 E_a1 (Or.inl (hw _ (List.mem_of_getElem? (i := 39) rfl))) (hw _ (List.mem_of_getElem? (i := 18) rfl)) (ty := .int) (by decide) rfl rfl (g := (mkF m 31 #[.val (.ref a1), .val y2, .val (.int p3), .val (.int p4)] [(.int p3), (.ref a1)])) rfl rfl (hb hby d6_31)
  have E_a1 := E_a1.wr W8
  have F_lastPiece_a1 := F_lastPiece_a1.other W8 (Or.inr (slot_ne (Or.inl (hw _ (List.mem_of_getElem? (i := 30) rfl))) (Or.inl (hw _ (List.mem_of_getElem? (i := 39) rfl))) (by decide) (t := (.object "com/example/fogline/fogline/rules/Piece")) (t' := .int) (by decide) (by decide)))
  have F_pieceBefore_a1 := F_pieceBefore_a1.other W8 (Or.inr (slot_ne (Or.inl (hw _ (List.mem_of_getElem? (i := 37) rfl))) (Or.inl (hw _ (List.mem_of_getElem? (i := 39) rfl))) (by decide) (t := (.object "com/example/fogline/fogline/rules/Piece")) (t' := .int) (by decide) (by decide)))
  have F_lastFrom_a1 := F_lastFrom_a1.same W8
  have F_fromBefore_a1 := F_fromBefore_a1.other W8 (Or.inr (slot_ne (Or.inl (hw _ (List.mem_of_getElem? (i := 41) rfl))) (Or.inl (hw _ (List.mem_of_getElem? (i := 39) rfl))) (by decide) (t := .int) (t' := .int) (by decide) (by decide)))
  have F_lastTo_a1 := F_lastTo_a1.other W8 (Or.inr (slot_ne (Or.inl (hw _ (List.mem_of_getElem? (i := 43) rfl))) (Or.inl (hw _ (List.mem_of_getElem? (i := 39) rfl))) (by decide) (t := .int) (t' := .int) (by decide) (by decide)))
  have F_toBefore_a1 := F_toBefore_a1.other W8 (Or.inr (slot_ne (Or.inl (hw _ (List.mem_of_getElem? (i := 45) rfl))) (Or.inl (hw _ (List.mem_of_getElem? (i := 39) rfl))) (by decide) (t := .int) (t' := .int) (by decide) (by decide)))
  have N8 := Fr.snoc X8 N7 g_a1
  have Z8 : n0 ≤ h8.size := Nat.le_trans Z7 (Keep.of_wr W8).1
  have K8 := K7.wr W8 (Or.inl (List.mem_of_getElem? (i := 0) rfl))
  refine OutW.back st8 ?_
  show OutW _ _ _ _ _ _ _ (T8.setTop (mkF m 34 #[.val (.ref a1), .val y2, .val (.int p3), .val (.int p4)] []))
  refine OutW.back (fun t k => XS.aloadN X8.here hx rfl (hb hby d6_34) rfl rfl  k) ?_
  show OutW _ _ _ _ _ _ _ (T8.setTop (mkF m 35 #[.val (.ref a1), .val y2, .val (.int p3), .val (.int p4)] [(.ref a1)]))
  refine OutW.back (fun t k => XS.iloadN X8.here hx rfl (hb hby d6_35) rfl  k) ?_
  show OutW _ _ _ _ _ _ _ (T8.setTop (mkF m 36 #[.val (.ref a1), .val y2, .val (.int p3), .val (.int p4)] [(.int p4), (.ref a1)]))
  obtain ⟨T9, h9, X9, e9, W9, st9⟩ := putF X8 hx hZ hown (host := "") (Or.inl (hw _ (List.mem_of_getElem? (i := 42) rfl))) Via.refl e8 F_lastTo_a1 E_a1 (Or.inl (hw _ (List.mem_of_getElem? (i := 43) rfl))) (hw _ (List.mem_of_getElem? (i := 18) rfl)) (ty := .int) (by decide) rfl rfl (g := (mkF m 36 #[.val (.ref a1), .val y2, .val (.int p3), .val (.int p4)] [(.int p4), (.ref a1)])) rfl rfl (hb hby d6_36)
  have E_a1 := E_a1.wr W9
  have F_lastPiece_a1 := F_lastPiece_a1.other W9 (Or.inr (slot_ne (Or.inl (hw _ (List.mem_of_getElem? (i := 30) rfl))) (Or.inl (hw _ (List.mem_of_getElem? (i := 43) rfl))) (by decide) (t := (.object "com/example/fogline/fogline/rules/Piece")) (t' := .int) (by decide) (by decide)))
  have F_pieceBefore_a1 := F_pieceBefore_a1.other W9 (Or.inr (slot_ne (Or.inl (hw _ (List.mem_of_getElem? (i := 37) rfl))) (Or.inl (hw _ (List.mem_of_getElem? (i := 43) rfl))) (by decide) (t := (.object "com/example/fogline/fogline/rules/Piece")) (t' := .int) (by decide) (by decide)))
  have F_lastFrom_a1 := F_lastFrom_a1.other W9 (Or.inr (slot_ne (Or.inl (hw _ (List.mem_of_getElem? (i := 39) rfl))) (Or.inl (hw _ (List.mem_of_getElem? (i := 43) rfl))) (by decide) (t := .int) (t' := .int) (by decide) (by decide)))
  have F_fromBefore_a1 := F_fromBefore_a1.other W9 (Or.inr (slot_ne (Or.inl (hw _ (List.mem_of_getElem? (i := 41) rfl))) (Or.inl (hw _ (List.mem_of_getElem? (i := 43) rfl))) (by decide) (t := .int) (t' := .int) (by decide) (by decide)))
  have F_lastTo_a1 := F_lastTo_a1.same W9
  have F_toBefore_a1 := F_toBefore_a1.other W9 (Or.inr (slot_ne (Or.inl (hw _ (List.mem_of_getElem? (i := 45) rfl))) (Or.inl (hw _ (List.mem_of_getElem? (i := 43) rfl))) (by decide) (t := .int) (t' := .int) (by decide) (by decide)))
  have N9 := Fr.snoc X9 N8 g_a1
  have Z9 : n0 ≤ h9.size := Nat.le_trans Z8 (Keep.of_wr W9).1
  have K9 := K8.wr W9 (Or.inl (List.mem_of_getElem? (i := 0) rfl))
  refine OutW.back st9 ?_
  show OutW _ _ _ _ _ _ _ (T9.setTop (mkF m 39 #[.val (.ref a1), .val y2, .val (.int p3), .val (.int p4)] []))
  refine OutW.retV X9 hx Bd.returns hlk (hb hby d6_39) (by decide) (by decide) ?_
  show Q6 Z a1 y2 p3 p4 w_lastPiece w_pieceBefore w_lastFrom w_fromBefore w_lastTo w_toBefore h0 n0 _ T9.heap _
  rw [e9]
  exact ⟨rfl, N9, K9, F_lastPiece_a1, F_pieceBefore_a1, F_lastFrom_a1, F_fromBefore_a1, F_lastTo_a1, F_toBefore_a1⟩
def wentF (w_lastPiece : Value) (w_pieceBefore : Value) (w_lastFrom : Int32) (w_fromBefore : Int32) (w_lastTo : Int32) (w_toBefore : Int32) : Int32 := (if (w_lastPiece : Value) = .null then (0 : Int32) else (if (w_pieceBefore : Value) = w_lastPiece then (if w_fromBefore = w_lastTo then (if w_toBefore = w_lastFrom then (1 : Int32) else (0 : Int32)) else (0 : Int32)) else (0 : Int32)))
theorem d5_0 : decode prog_65_method_5_code 0 = .ok (.aload_n 0, 1) := by decide +kernel
theorem d5_1 : decode prog_65_method_5_code 1 = .ok (.getfield 7, 3) := by decide +kernel
theorem d5_4 : decode prog_65_method_5_code 4 = .ok (.ifnull 40, 3) := by decide +kernel
theorem d5_7 : decode prog_65_method_5_code 7 = .ok (.aload_n 0, 1) := by decide +kernel
theorem d5_8 : decode prog_65_method_5_code 8 = .ok (.getfield 13, 3) := by decide +kernel
theorem d5_11 : decode prog_65_method_5_code 11 = .ok (.aload_n 0, 1) := by decide +kernel
theorem d5_12 : decode prog_65_method_5_code 12 = .ok (.getfield 7, 3) := by decide +kernel
theorem d5_15 : decode prog_65_method_5_code 15 = .ok (.if_acmp .ne 29, 3) := by decide +kernel
theorem d5_18 : decode prog_65_method_5_code 18 = .ok (.aload_n 0, 1) := by decide +kernel
theorem d5_19 : decode prog_65_method_5_code 19 = .ok (.getfield 20, 3) := by decide +kernel
theorem d5_22 : decode prog_65_method_5_code 22 = .ok (.aload_n 0, 1) := by decide +kernel
theorem d5_23 : decode prog_65_method_5_code 23 = .ok (.getfield 23, 3) := by decide +kernel
theorem d5_26 : decode prog_65_method_5_code 26 = .ok (.if_icmp .ne 18, 3) := by decide +kernel
theorem d5_29 : decode prog_65_method_5_code 29 = .ok (.aload_n 0, 1) := by decide +kernel
theorem d5_30 : decode prog_65_method_5_code 30 = .ok (.getfield 26, 3) := by decide +kernel
theorem d5_33 : decode prog_65_method_5_code 33 = .ok (.aload_n 0, 1) := by decide +kernel
theorem d5_34 : decode prog_65_method_5_code 34 = .ok (.getfield 16, 3) := by decide +kernel
theorem d5_37 : decode prog_65_method_5_code 37 = .ok (.if_icmp .ne 7, 3) := by decide +kernel
theorem d5_40 : decode prog_65_method_5_code 40 = .ok (.iconst 1, 1) := by decide +kernel
theorem d5_41 : decode prog_65_method_5_code 41 = .ok (.goto 4, 3) := by decide +kernel
theorem d5_44 : decode prog_65_method_5_code 44 = .ok (.iconst 0, 1) := by decide +kernel
theorem d5_45 : decode prog_65_method_5_code 45 = .ok (.ireturn, 1) := by decide +kernel
theorem pn_5 : plainName "com/example/fogline/fogline/rules/RecentMoves" = true := by first | (simp [plainName, overriddenIn]; done) | decide +kernel
theorem ef_5 (m : MethodId) (x0 : Addr) : entryFrame m #[(.ref x0)] 1 = mkF m 0 #[.val (.ref x0)] [] := by first | (simp [entryFrame, mkF, argsToLocals, Value.category]; done) | rfl
def Q5 (Z : State) (a1 : Addr) (w_lastPiece : Value) (w_pieceBefore : Value) (w_lastFrom : Int32) (w_fromBefore : Int32) (w_lastTo : Int32) (w_toBefore : Int32) (h0 : Heap) (n0 : Nat) (v : Option Value) (h : Heap) (L : List Loc) : Prop := v = some (.int (wentF w_lastPiece w_pieceBefore w_lastFrom w_fromBefore w_lastTo w_toBefore)) ∧ Fr n0 L ∧ h = h0
set_option maxRecDepth 65536 in
set_option maxHeartbeats 40000000 in
theorem rm5 (l : Launch) (Z : State) (a0 : Array Value) (hw : ∀ d ∈ tables_1, d.before a0 Z = true) (ws : List Jvm.Cond) (a1 : Addr) (w_lastPiece : Value) (w_pieceBefore : Value) (w_lastFrom : Int32) (w_fromBefore : Int32) (w_lastTo : Int32) (w_toBefore : Int32) (h0 : Heap) (n0 : Nat) (Z0 : n0 ≤ h0.size) (F_lastPiece_a1 : Fld Z h0 a1 "com/example/fogline/fogline/rules/RecentMoves" "lastPiece" "Lcom/example/fogline/fogline/rules/Piece;" w_lastPiece) (F_pieceBefore_a1 : Fld Z h0 a1 "com/example/fogline/fogline/rules/RecentMoves" "pieceBefore" "Lcom/example/fogline/fogline/rules/Piece;" w_pieceBefore) (F_lastFrom_a1 : Fld Z h0 a1 "com/example/fogline/fogline/rules/RecentMoves" "lastFrom" "I" (.int w_lastFrom)) (F_fromBefore_a1 : Fld Z h0 a1 "com/example/fogline/fogline/rules/RecentMoves" "fromBefore" "I" (.int w_fromBefore)) (F_lastTo_a1 : Fld Z h0 a1 "com/example/fogline/fogline/rules/RecentMoves" "lastTo" "I" (.int w_lastTo)) (F_toBefore_a1 : Fld Z h0 a1 "com/example/fogline/fogline/rules/RecentMoves" "toBefore" "I" (.int w_toBefore)) (ir_w_lastPiece : w_lastPiece.isRef = true) (ir_w_pieceBefore : w_pieceBefore.isRef = true) :
    MetFree l (⟨"com/example/fogline/fogline/rules/RecentMoves", "wentBack", "()Z"⟩ : MethodName) (head1 (Jvm.Cond.code (⟨"com/example/fogline/fogline/rules/RecentMoves", "wentBack", "()Z"⟩ : MethodName) prog_65_method_5_code 1 (some .boolean) :: ws) ({ frames := 0, cells := 0, slots := 0, locals := 0 } : Room)) (fun a U => a = #[(.ref a1)] ∧ Z.Warmed39 U.vm ∧ U.heap = h0) (fun _ _ _ _ _ => True) (fun _ U o U' => ∃ v L, o = .returned v ∧ Q5 Z a1 w_lastPiece w_pieceBefore w_lastFrom w_fromBefore w_lastTo w_toBefore h0 n0 v U'.heap L ∧ FrameEnd U o U' L ({ frames := 0, cells := 0, slots := 0, locals := 0 } : Room).cells ({ frames := 0, cells := 0, slots := 0, locals := 0 } : Room).slots) := by
  refine MetFree.of_bodySF (plainFor_of_name pn_5) hisR ?_
  intro p e s m args below meth c s₁ Bd hml0 hP hK
  obtain ⟨rfl, hZ, hh⟩ := hP
  have hx := Bd.exec
  have hby := Bd.bytes
  have hlk := Bd.notSynchronized
  have hml : c.maxLocals = 1 := hml0
  have hown : s.vm.findClass "com/example/fogline/fogline/rules/RecentMoves" = some m.cls := findClass_of_methodNamed Bd.named
  have hnm := (name_of_methodNamed Bd.named Bd.method).1
  have X0 : Stand p l e ({ frames := 0, cells := 0, slots := 0, locals := 0 } : Room) s m #[(.ref a1)] below meth c s₁ [] 0 0 := Stand.of_body Bd
  have e0 : s₁.heap = h0 := by rw [← hh, Bd.state]; rfl
  have N0 := Fr.nil n0
  have K0 : Keep h0 h0 [] := Keep.refl h0 _
  show OutW p e below s ({ frames := 0, cells := 0, slots := 0, locals := 0 } : Room).cells ({ frames := 0, cells := 0, slots := 0, locals := 0 } : Room).slots (Q5 Z a1 w_lastPiece w_pieceBefore w_lastFrom w_fromBefore w_lastTo w_toBefore h0 n0) _
  refine OutW.back (fun t k => castTop (ef_5 m a1) k) ?_
  show OutW _ _ _ _ _ _ _ (s₁.setTop (mkF m 0 #[.val (.ref a1)] []))
  refine OutW.back (fun t k => XS.aloadN X0.here hx rfl (hb hby d5_0) rfl rfl  k) ?_
  show OutW _ _ _ _ _ _ _ (s₁.setTop (mkF m 1 #[.val (.ref a1)] [(.ref a1)]))
  obtain ⟨T1, X1, e1, st1⟩ := getF X0 hx hZ hown (host := "") (Or.inl (hw _ (List.mem_of_getElem? (i := 29) rfl))) Via.refl e0 F_lastPiece_a1 (g := (mkF m 1 #[.val (.ref a1)] [(.ref a1)])) rfl rfl (hb hby d5_1)
  refine OutW.back st1 ?_
  show OutW _ _ _ _ _ _ _ (T1.setTop (mkF m 4 #[.val (.ref a1)] [w_lastPiece]))
  by_cases c4_2 : (w_lastPiece : Value) = .null
  · skip
    refine OutW.back (fun t k => XS.ifnullYes X1.here hx rfl (pc0 := 4) (pc' := 44) rfl (hb hby d5_4) (congrArg (fun z => (z :: [] : List Value)) c4_2) (by decide) (by decide) k) ?_
    show OutW _ _ _ _ _ _ _ (T1.setTop (mkF m 44 #[.val (.ref a1)] []))
    refine OutW.back (fun t k => XS.iconst X1.here hx rfl (hb hby d5_44) k) ?_
    show OutW _ _ _ _ _ _ _ (T1.setTop (mkF m 45 #[.val (.ref a1)] [(.int (0 : Int32))]))
    refine OutW.retN X1 hx (t := .boolean) (z' := (0 : Int32)) Bd.returns (by simp) hlk (hb hby d5_45) ?hz (by decide) (by decide) ?_
    case hz =>
      rfl
    show Q5 Z a1 w_lastPiece w_pieceBefore w_lastFrom w_fromBefore w_lastTo w_toBefore h0 n0 _ T1.heap _
    rw [e1]
    exact ⟨by rw [wentF, if_pos c4_2], N0, rfl⟩
  · skip
    obtain ⟨o3, ho3⟩ := (ref_cases ir_w_lastPiece).resolve_left c4_2
    refine OutW.back (fun t k => XS.ifnullNo X1.here hx rfl (hb hby d5_4) (congrArg (fun z => (z :: [] : List Value)) ho3) k) ?_
    show OutW _ _ _ _ _ _ _ (T1.setTop (mkF m 7 #[.val (.ref a1)] []))
    refine OutW.back (fun t k => XS.aloadN X1.here hx rfl (hb hby d5_7) rfl rfl  k) ?_
    show OutW _ _ _ _ _ _ _ (T1.setTop (mkF m 8 #[.val (.ref a1)] [(.ref a1)]))
    obtain ⟨T4, X4, e4, st4⟩ := getF X1 hx hZ hown (host := "") (Or.inl (hw _ (List.mem_of_getElem? (i := 36) rfl))) Via.refl e1 F_pieceBefore_a1 (g := (mkF m 8 #[.val (.ref a1)] [(.ref a1)])) rfl rfl (hb hby d5_8)
    refine OutW.back st4 ?_
    show OutW _ _ _ _ _ _ _ (T4.setTop (mkF m 11 #[.val (.ref a1)] [w_pieceBefore]))
    refine OutW.back (fun t k => XS.aloadN X4.here hx rfl (hb hby d5_11) rfl rfl  k) ?_
    show OutW _ _ _ _ _ _ _ (T4.setTop (mkF m 12 #[.val (.ref a1)] [(.ref a1), w_pieceBefore]))
    obtain ⟨T5, X5, e5, st5⟩ := getF X4 hx hZ hown (host := "") (Or.inl (hw _ (List.mem_of_getElem? (i := 29) rfl))) Via.refl e4 F_lastPiece_a1 (g := (mkF m 12 #[.val (.ref a1)] [(.ref a1), w_pieceBefore])) rfl rfl (hb hby d5_12)
    refine OutW.back st5 ?_
    show OutW _ _ _ _ _ _ _ (T5.setTop (mkF m 15 #[.val (.ref a1)] [w_lastPiece, w_pieceBefore]))
    by_cases c15_6 : (w_pieceBefore : Value) = w_lastPiece
    · skip
      refine OutW.back (fun t k => Jvm.RoadKit.acmp (g := (mkF m 15 #[.val (.ref a1)] [w_lastPiece, w_pieceBefore])) X5 hx rfl ir_w_pieceBefore ir_w_lastPiece (pc0 := 15) (pc' := 18) (same := true) rfl (hb hby d5_15) rfl (decide_eq_true c15_6) (by decide) (by decide) k) ?_
      show OutW _ _ _ _ _ _ _ (T5.setTop (mkF m 18 #[.val (.ref a1)] []))
      refine OutW.back (fun t k => XS.aloadN X5.here hx rfl (hb hby d5_18) rfl rfl  k) ?_
      show OutW _ _ _ _ _ _ _ (T5.setTop (mkF m 19 #[.val (.ref a1)] [(.ref a1)]))
      obtain ⟨T7, X7, e7, st7⟩ := getF X5 hx hZ hown (host := "") (Or.inl (hw _ (List.mem_of_getElem? (i := 40) rfl))) Via.refl e5 F_fromBefore_a1 (g := (mkF m 19 #[.val (.ref a1)] [(.ref a1)])) rfl rfl (hb hby d5_19)
      refine OutW.back st7 ?_
      show OutW _ _ _ _ _ _ _ (T7.setTop (mkF m 22 #[.val (.ref a1)] [(.int w_fromBefore)]))
      refine OutW.back (fun t k => XS.aloadN X7.here hx rfl (hb hby d5_22) rfl rfl  k) ?_
      show OutW _ _ _ _ _ _ _ (T7.setTop (mkF m 23 #[.val (.ref a1)] [(.ref a1), (.int w_fromBefore)]))
      obtain ⟨T8, X8, e8, st8⟩ := getF X7 hx hZ hown (host := "") (Or.inl (hw _ (List.mem_of_getElem? (i := 42) rfl))) Via.refl e7 F_lastTo_a1 (g := (mkF m 23 #[.val (.ref a1)] [(.ref a1), (.int w_fromBefore)])) rfl rfl (hb hby d5_23)
      refine OutW.back st8 ?_
      show OutW _ _ _ _ _ _ _ (T8.setTop (mkF m 26 #[.val (.ref a1)] [(.int w_lastTo), (.int w_fromBefore)]))
      by_cases c26_9 : w_fromBefore = w_lastTo
      · skip
        refine OutW.back (fun t k => XS.icmpNo X8.here hx rfl (hb hby d5_26) rfl (teq c26_9).2 k) ?_
        show OutW _ _ _ _ _ _ _ (T8.setTop (mkF m 29 #[.val (.ref a1)] []))
        refine OutW.back (fun t k => XS.aloadN X8.here hx rfl (hb hby d5_29) rfl rfl  k) ?_
        show OutW _ _ _ _ _ _ _ (T8.setTop (mkF m 30 #[.val (.ref a1)] [(.ref a1)]))
        obtain ⟨T10, X10, e10, st10⟩ := getF X8 hx hZ hown (host := "") (Or.inl (hw _ (List.mem_of_getElem? (i := 44) rfl))) Via.refl e8 F_toBefore_a1 (g := (mkF m 30 #[.val (.ref a1)] [(.ref a1)])) rfl rfl (hb hby d5_30)
        refine OutW.back st10 ?_
        show OutW _ _ _ _ _ _ _ (T10.setTop (mkF m 33 #[.val (.ref a1)] [(.int w_toBefore)]))
        refine OutW.back (fun t k => XS.aloadN X10.here hx rfl (hb hby d5_33) rfl rfl  k) ?_
        show OutW _ _ _ _ _ _ _ (T10.setTop (mkF m 34 #[.val (.ref a1)] [(.ref a1), (.int w_toBefore)]))
        obtain ⟨T11, X11, e11, st11⟩ := getF X10 hx hZ hown (host := "") (Or.inl (hw _ (List.mem_of_getElem? (i := 38) rfl))) Via.refl e10 F_lastFrom_a1 (g := (mkF m 34 #[.val (.ref a1)] [(.ref a1), (.int w_toBefore)])) rfl rfl (hb hby d5_34)
        refine OutW.back st11 ?_
        show OutW _ _ _ _ _ _ _ (T11.setTop (mkF m 37 #[.val (.ref a1)] [(.int w_lastFrom), (.int w_toBefore)]))
        by_cases c37_12 : w_toBefore = w_lastFrom
        · skip
          refine OutW.back (fun t k => XS.icmpNo X11.here hx rfl (hb hby d5_37) rfl (teq c37_12).2 k) ?_
          show OutW _ _ _ _ _ _ _ (T11.setTop (mkF m 40 #[.val (.ref a1)] []))
          refine OutW.back (fun t k => XS.iconst X11.here hx rfl (hb hby d5_40) k) ?_
          show OutW _ _ _ _ _ _ _ (T11.setTop (mkF m 41 #[.val (.ref a1)] [(.int (1 : Int32))]))
          refine OutW.back (fun t k => XS.goto X11.here hx rfl (pc0 := 41) (pc' := 45) rfl (hb hby d5_41) (by decide) (by decide) k) ?_
          show OutW _ _ _ _ _ _ _ (T11.setTop (mkF m 45 #[.val (.ref a1)] [(.int (1 : Int32))]))
          refine OutW.retN X11 hx (t := .boolean) (z' := (1 : Int32)) Bd.returns (by simp) hlk (hb hby d5_45) ?hz (by decide) (by decide) ?_
          case hz =>
            rfl
          show Q5 Z a1 w_lastPiece w_pieceBefore w_lastFrom w_fromBefore w_lastTo w_toBefore h0 n0 _ T11.heap _
          rw [e11]
          exact ⟨by rw [wentF, if_neg c4_2, if_pos c15_6, if_pos c26_9, if_pos c37_12], N0, rfl⟩
        · skip
          refine OutW.back (fun t k => XS.icmpYes X11.here hx rfl (pc0 := 37) (pc' := 44) rfl (hb hby d5_37) rfl (feq c37_12).2 (by decide) (by decide) k) ?_
          show OutW _ _ _ _ _ _ _ (T11.setTop (mkF m 44 #[.val (.ref a1)] []))
          refine OutW.back (fun t k => XS.iconst X11.here hx rfl (hb hby d5_44) k) ?_
          show OutW _ _ _ _ _ _ _ (T11.setTop (mkF m 45 #[.val (.ref a1)] [(.int (0 : Int32))]))
          refine OutW.retN X11 hx (t := .boolean) (z' := (0 : Int32)) Bd.returns (by simp) hlk (hb hby d5_45) ?hz (by decide) (by decide) ?_
          case hz =>
            rfl
          show Q5 Z a1 w_lastPiece w_pieceBefore w_lastFrom w_fromBefore w_lastTo w_toBefore h0 n0 _ T11.heap _
          rw [e11]
          exact ⟨by rw [wentF, if_neg c4_2, if_pos c15_6, if_pos c26_9, if_neg c37_12], N0, rfl⟩
      · skip
        refine OutW.back (fun t k => XS.icmpYes X8.here hx rfl (pc0 := 26) (pc' := 44) rfl (hb hby d5_26) rfl (feq c26_9).2 (by decide) (by decide) k) ?_
        show OutW _ _ _ _ _ _ _ (T8.setTop (mkF m 44 #[.val (.ref a1)] []))
        refine OutW.back (fun t k => XS.iconst X8.here hx rfl (hb hby d5_44) k) ?_
        show OutW _ _ _ _ _ _ _ (T8.setTop (mkF m 45 #[.val (.ref a1)] [(.int (0 : Int32))]))
        refine OutW.retN X8 hx (t := .boolean) (z' := (0 : Int32)) Bd.returns (by simp) hlk (hb hby d5_45) ?hz (by decide) (by decide) ?_
        case hz =>
          rfl
        show Q5 Z a1 w_lastPiece w_pieceBefore w_lastFrom w_fromBefore w_lastTo w_toBefore h0 n0 _ T8.heap _
        rw [e8]
        exact ⟨by rw [wentF, if_neg c4_2, if_pos c15_6, if_neg c26_9], N0, rfl⟩
    · skip
      refine OutW.back (fun t k => Jvm.RoadKit.acmp (g := (mkF m 15 #[.val (.ref a1)] [w_lastPiece, w_pieceBefore])) X5 hx rfl ir_w_pieceBefore ir_w_lastPiece (pc0 := 15) (pc' := 44) (same := false) rfl (hb hby d5_15) rfl (decide_eq_false c15_6) (by decide) (by decide) k) ?_
      show OutW _ _ _ _ _ _ _ (T5.setTop (mkF m 44 #[.val (.ref a1)] []))
      refine OutW.back (fun t k => XS.iconst X5.here hx rfl (hb hby d5_44) k) ?_
      show OutW _ _ _ _ _ _ _ (T5.setTop (mkF m 45 #[.val (.ref a1)] [(.int (0 : Int32))]))
      refine OutW.retN X5 hx (t := .boolean) (z' := (0 : Int32)) Bd.returns (by simp) hlk (hb hby d5_45) ?hz (by decide) (by decide) ?_
      case hz =>
        rfl
      show Q5 Z a1 w_lastPiece w_pieceBefore w_lastFrom w_fromBefore w_lastTo w_toBefore h0 n0 _ T5.heap _
      rw [e5]
      exact ⟨by rw [wentF, if_neg c4_2, if_neg c15_6], N0, rfl⟩
theorem own_went (lp pb : Value) (lf fb lt tb : Int32) : wentF lp pb lf fb lt tb = (if (lp : Value) = .null then (0 : Int32) else (if (pb : Value) = lp then (if lt = fb then (if lf = tb then (1 : Int32) else (0 : Int32)) else (0 : Int32)) else (0 : Int32))) := by
  unfold wentF
  repeat' split
  all_goals first | rfl | (exfalso; simp_all)
theorem own_four (m v : Int32) (h : (m &&& (3 : Int32)) = v) : v = (0 : Int32) ∨ v = (1 : Int32) ∨ v = (2 : Int32) ∨ v = (3 : Int32) := by
  have q := c_and m (3 : Int32) (by decide)
  rw [h] at q
  simp only [← Int32.toInt_inj, Int32.reduceToInt] at q ⊢
  omega
theorem pd_0 : parseMethodDescriptor "(Lcom/example/fogline/fogline/rules/Side;Lcom/example/fogline/fogline/rules/Rank;)V" = some ⟨[(.object "com/example/fogline/fogline/rules/Side"), (.object "com/example/fogline/fogline/rules/Rank")], none⟩ := by decide +kernel
theorem pd_1 : parseMethodDescriptor "(ILcom/example/fogline/fogline/rules/Piece;Lcom/example/fogline/fogline/rules/Piece;)Lcom/example/fogline/fogline/rules/Piece;" = some ⟨[.int, (.object "com/example/fogline/fogline/rules/Piece"), (.object "com/example/fogline/fogline/rules/Piece")], some (.object "com/example/fogline/fogline/rules/Piece")⟩ := by decide +kernel
theorem pd_2 : parseMethodDescriptor "()V" = some ⟨[], none⟩ := by decide +kernel
theorem pd_3 : parseMethodDescriptor "()Z" = some ⟨[], some .boolean⟩ := by decide +kernel
theorem pd_4 : parseMethodDescriptor "(Lcom/example/fogline/fogline/rules/Piece;II)V" = some ⟨[(.object "com/example/fogline/fogline/rules/Piece"), .int, .int], none⟩ := by decide +kernel
theorem pn_0 : plainName "com/example/fogline/fogline/rules/RecentMovesWentBackPinLaw" = true := by first | (simp [plainName, overriddenIn]; done) | decide +kernel
theorem ef_0 (m : MethodId) (x0 : Int32) (x1 : Int32) (x2 : Int32) (x3 : Int32) (x4 : Int32) (x5 : Int32) : entryFrame m #[(.int x0), (.int x1), (.int x2), (.int x3), (.int x4), (.int x5)] maxLocals = mkF m 0 #[.val (.int x0), .val (.int x1), .val (.int x2), .val (.int x3), .val (.int x4), .val (.int x5), .unset, .unset, .unset, .unset, .unset, .unset, .unset, .unset, .unset, .unset, .unset, .unset, .unset, .unset, .unset, .unset, .unset, .unset, .unset, .unset, .unset] [] := by first | (simp [entryFrame, mkF, argsToLocals, Value.category, maxLocals]; done) | rfl
def Q0 (Z : State) (p1 : Int32) (p2 : Int32) (p3 : Int32) (p4 : Int32) (p5 : Int32) (p6 : Int32)  (h0 : Heap) (n0 : Nat) (v : Option Value) (h : Heap) (L : List Loc) : Prop := v = some (.int 1) ∧ Fr n0 L
set_option maxRecDepth 65536 in
set_option maxHeartbeats 40000000 in
theorem rm0 (l : Launch) (Z : State) (a0 : Array Value) (hw : ∀ d ∈ tables_1, d.before a0 Z = true) (ws : List Jvm.Cond) (p1 : Int32) (p2 : Int32) (p3 : Int32) (p4 : Int32) (p5 : Int32) (p6 : Int32)  (h0 : Heap) (n0 : Nat) (Z0 : n0 ≤ h0.size) :
    MetFree l x (head1 (Jvm.Cond.code x code maxLocals ret :: ws) room_1) (fun a U => a = #[(.int p1), (.int p2), (.int p3), (.int p4), (.int p5), (.int p6)] ∧ Z.Warmed39 U.vm ∧ U.heap = h0) (fun _ _ _ _ _ => True) (fun _ U o U' => ∃ v L, o = .returned v ∧ Q0 Z p1 p2 p3 p4 p5 p6 h0 n0 v U'.heap L ∧ FrameEnd U o U' L room_1.cells room_1.slots) := by
  refine MetFree.of_bodySF (plainFor_of_name pn_0) hisR ?_
  intro p e s m args below meth c s₁ Bd hml0 hP hK
  obtain ⟨rfl, hZ, hh⟩ := hP
  have hx := Bd.exec
  have hby := Bd.bytes
  have hlk := Bd.notSynchronized
  have hml : c.maxLocals = 27 := hml0
  have hown : s.vm.findClass "com/example/fogline/fogline/rules/RecentMovesWentBackPinLaw" = some m.cls := findClass_of_methodNamed Bd.named
  have hnm := (name_of_methodNamed Bd.named Bd.method).1
  have X0 : Stand p l e room_1 s m #[(.int p1), (.int p2), (.int p3), (.int p4), (.int p5), (.int p6)] below meth c s₁ [] 0 0 := Stand.of_body Bd
  have e0 : s₁.heap = h0 := by rw [← hh, Bd.state]; rfl
  have N0 := Fr.nil n0
  have K0 : Keep h0 h0 [] := Keep.refl h0 _
  show OutW p e below s room_1.cells room_1.slots (Q0 Z p1 p2 p3 p4 p5 p6 h0 n0) _
  refine OutW.back (fun t k => castTop (ef_0 m p1 p2 p3 p4 p5 p6) k) ?_
  show OutW _ _ _ _ _ _ _ (s₁.setTop (mkF m 0 #[.val (.int p1), .val (.int p2), .val (.int p3), .val (.int p4), .val (.int p5), .val (.int p6), .unset, .unset, .unset, .unset, .unset, .unset, .unset, .unset, .unset, .unset, .unset, .unset, .unset, .unset, .unset, .unset, .unset, .unset, .unset, .unset, .unset] []))
  obtain ⟨T1, h1, X1, e1, E1, A1, D1, -, st1⟩ := newO X0 hx hZ hown (hw _ (List.mem_of_getElem? (i := 0) rfl)) (hw _ (List.mem_of_getElem? (i := 1) rfl)) (hw _ (List.mem_of_getElem? (i := 2) rfl)) e0 (g := (mkF m 0 #[.val (.int p1), .val (.int p2), .val (.int p3), .val (.int p4), .val (.int p5), .val (.int p6), .unset, .unset, .unset, .unset, .unset, .unset, .unset, .unset, .unset, .unset, .unset, .unset, .unset, .unset, .unset, .unset, .unset, .unset, .unset, .unset, .unset] [])) rfl (hb hby at_0) (by decide) (by decide)
  obtain ⟨b1, g1⟩ : ∃ z, z = h0.size := ⟨_, rfl⟩
  rw [← g1] at A1 D1 st1
  have g_b1 : n0 ≤ b1 := Nat.le_trans Z0 (Nat.le_of_eq g1.symm)
  have sz_b1 : h0.size ≤ b1 := Nat.le_trans K0.1 (Nat.le_of_eq g1.symm)
  have Z1 : n0 ≤ h1.size := Nat.le_trans Z0 E1.1
  have K1 := K0.ext E1
  have E_b1 := A1
  have F_side_b1 : Fld Z h1 b1 "com/example/fogline/fogline/rules/Piece" "side" "Lcom/example/fogline/fogline/rules/Side;" .null := D1 (Or.inr (hw _ (List.mem_of_getElem? (i := 10) rfl))) (ty := (.object "com/example/fogline/fogline/rules/Side")) (by decide)
  have F_rank_b1 : Fld Z h1 b1 "com/example/fogline/fogline/rules/Piece" "rank" "Lcom/example/fogline/fogline/rules/Rank;" .null := D1 (Or.inr (hw _ (List.mem_of_getElem? (i := 12) rfl))) (ty := (.object "com/example/fogline/fogline/rules/Rank")) (by decide)
  refine OutW.back st1 ?_
  show OutW _ _ _ _ _ _ _ (T1.setTop (mkF m 3 #[.val (.int p1), .val (.int p2), .val (.int p3), .val (.int p4), .val (.int p5), .val (.int p6), .unset, .unset, .unset, .unset, .unset, .unset, .unset, .unset, .unset, .unset, .unset, .unset, .unset, .unset, .unset, .unset, .unset, .unset, .unset, .unset, .unset] [(.ref b1)]))
  refine OutW.back (fun t k => XS.dup X1.here hx rfl (hb hby at_3) rfl rfl k) ?_
  show OutW _ _ _ _ _ _ _ (T1.setTop (mkF m 4 #[.val (.int p1), .val (.int p2), .val (.int p3), .val (.int p4), .val (.int p5), .val (.int p6), .unset, .unset, .unset, .unset, .unset, .unset, .unset, .unset, .unset, .unset, .unset, .unset, .unset, .unset, .unset, .unset, .unset, .unset, .unset, .unset, .unset] [(.ref b1), (.ref b1)]))
  refine OutW.back (fun t k => XS.aconstNull X1.here hx rfl (hb hby at_4) k) ?_
  show OutW _ _ _ _ _ _ _ (T1.setTop (mkF m 5 #[.val (.int p1), .val (.int p2), .val (.int p3), .val (.int p4), .val (.int p5), .val (.int p6), .unset, .unset, .unset, .unset, .unset, .unset, .unset, .unset, .unset, .unset, .unset, .unset, .unset, .unset, .unset, .unset, .unset, .unset, .unset, .unset, .unset] [.null, (.ref b1), (.ref b1)]))
  refine OutW.back (fun t k => XS.aconstNull X1.here hx rfl (hb hby at_5) k) ?_
  show OutW _ _ _ _ _ _ _ (T1.setTop (mkF m 6 #[.val (.int p1), .val (.int p2), .val (.int p3), .val (.int p4), .val (.int p5), .val (.int p6), .unset, .unset, .unset, .unset, .unset, .unset, .unset, .unset, .unset, .unset, .unset, .unset, .unset, .unset, .unset, .unset, .unset, .unset, .unset, .unset, .unset] [.null, .null, (.ref b1), (.ref b1)]))
  obtain ⟨_, _, ⟨T2, L2, k2, n2⟩, -, X2, ⟨Lc2, hQ2, l2, y2, z2⟩, st2⟩ := X1.specialBack hx (y := (⟨"com/example/fogline/fogline/rules/Piece", "<init>", "(Lcom/example/fogline/fogline/rules/Side;Lcom/example/fogline/fogline/rules/Rank;)V"⟩ : MethodName)) rfl hown (mvT hZ (hw _ (List.mem_of_getElem? (i := 3) rfl))) (mvT hZ (hw _ (List.mem_of_getElem? (i := 4) rfl))) (mvT hZ (hw _ (List.mem_of_getElem? (i := 5) rfl))) (by decide) (backOf (W := 1) (rm1 l Z a0 hw [] b1 h1 n0 Z1 E_b1 g_b1 F_side_b1 F_rank_b1) hZ (hw _ (List.mem_of_getElem? (i := 5) rfl)) (hw _ (List.mem_of_getElem? (i := 2) rfl)) (by decide) (by decide)) (g := (mkF m 6 #[.val (.int p1), .val (.int p2), .val (.int p3), .val (.int p4), .val (.int p5), .val (.int p6), .unset, .unset, .unset, .unset, .unset, .unset, .unset, .unset, .unset, .unset, .unset, .unset, .unset, .unset, .unset, .unset, .unset, .unset, .unset, .unset, .unset] [.null, .null, (.ref b1), (.ref b1)])) rfl (by rw [hml]; rfl) (Steps.refl _) (a := b1) (argsL := [.null, .null]) (rest := [(.ref b1)]) (lenOf pd_0 rfl) rfl (by show 2 * 0 + _ ≤ _; exact Nat.le_of_eq rfl) (hb hby at_6) (fun _ _ => ⟨rfl, e1, (by decide : 1 + 0 ≤ _), (by decide : 4 + 0 ≤ _)⟩)
  dsimp only [Pt.U, Pt.locs, Pt.cells, Pt.slots] at X2 l2 y2 z2 st2 hQ2
  subst l2 y2 z2
  obtain ⟨h2, eh2⟩ : ∃ z, z = T2.heap := ⟨_, rfl⟩
  rw [← eh2] at hQ2
  have e2 : T2.heap = h2 := eh2.symm
  obtain ⟨rfl, Nq2, Kq2⟩ := hQ2
  have E_b1 := E_b1.keep Kq2
  have Z2 : n0 ≤ h2.size := Nat.le_trans Z1 Kq2.1
  have K2 := K1.trans Kq2 (allS (Or.inr sz_b1) all0)
  have N2 := Fr.app N0 Nq2
  refine OutW.via st2 ?_
  show OutW _ _ _ _ _ _ _ (T2.setTop (mkF m 9 #[.val (.int p1), .val (.int p2), .val (.int p3), .val (.int p4), .val (.int p5), .val (.int p6), .unset, .unset, .unset, .unset, .unset, .unset, .unset, .unset, .unset, .unset, .unset, .unset, .unset, .unset, .unset, .unset, .unset, .unset, .unset, .unset, .unset] [(.ref b1)]))
  refine OutW.back (fun t k => XS.astore X2.here hx rfl (hb hby at_9) rfl rfl (l' := #[.val (.int p1), .val (.int p2), .val (.int p3), .val (.int p4), .val (.int p5), .val (.int p6), .val (.ref b1), .unset, .unset, .unset, .unset, .unset, .unset, .unset, .unset, .unset, .unset, .unset, .unset, .unset, .unset, .unset, .unset, .unset, .unset, .unset, .unset]) rfl k) ?_
  show OutW _ _ _ _ _ _ _ (T2.setTop (mkF m 11 #[.val (.int p1), .val (.int p2), .val (.int p3), .val (.int p4), .val (.int p5), .val (.int p6), .val (.ref b1), .unset, .unset, .unset, .unset, .unset, .unset, .unset, .unset, .unset, .unset, .unset, .unset, .unset, .unset, .unset, .unset, .unset, .unset, .unset, .unset] []))
  obtain ⟨T3, h3, X3, e3, E3, A3, D3, -, st3⟩ := newO X2 hx hZ hown (hw _ (List.mem_of_getElem? (i := 0) rfl)) (hw _ (List.mem_of_getElem? (i := 1) rfl)) (hw _ (List.mem_of_getElem? (i := 2) rfl)) e2 (g := (mkF m 11 #[.val (.int p1), .val (.int p2), .val (.int p3), .val (.int p4), .val (.int p5), .val (.int p6), .val (.ref b1), .unset, .unset, .unset, .unset, .unset, .unset, .unset, .unset, .unset, .unset, .unset, .unset, .unset, .unset, .unset, .unset, .unset, .unset, .unset, .unset] [])) rfl (hb hby at_11) (by decide) (by decide)
  obtain ⟨b3, g3⟩ : ∃ z, z = h2.size := ⟨_, rfl⟩
  rw [← g3] at A3 D3 st3
  have ne_b1_b3 : b1 ≠ b3 := Nat.ne_of_lt (Nat.lt_of_lt_of_le E_b1.lt (Nat.le_of_eq g3.symm))
  have g_b3 : n0 ≤ b3 := Nat.le_trans Z2 (Nat.le_of_eq g3.symm)
  have sz_b3 : h0.size ≤ b3 := Nat.le_trans K2.1 (Nat.le_of_eq g3.symm)
  have E_b1 := E_b1.ext E3
  have Z3 : n0 ≤ h3.size := Nat.le_trans Z2 E3.1
  have K3 := K2.ext E3
  have E_b3 := A3
  have F_side_b3 : Fld Z h3 b3 "com/example/fogline/fogline/rules/Piece" "side" "Lcom/example/fogline/fogline/rules/Side;" .null := D3 (Or.inr (hw _ (List.mem_of_getElem? (i := 10) rfl))) (ty := (.object "com/example/fogline/fogline/rules/Side")) (by decide)
  have F_rank_b3 : Fld Z h3 b3 "com/example/fogline/fogline/rules/Piece" "rank" "Lcom/example/fogline/fogline/rules/Rank;" .null := D3 (Or.inr (hw _ (List.mem_of_getElem? (i := 12) rfl))) (ty := (.object "com/example/fogline/fogline/rules/Rank")) (by decide)
  refine OutW.back st3 ?_
  show OutW _ _ _ _ _ _ _ (T3.setTop (mkF m 14 #[.val (.int p1), .val (.int p2), .val (.int p3), .val (.int p4), .val (.int p5), .val (.int p6), .val (.ref b1), .unset, .unset, .unset, .unset, .unset, .unset, .unset, .unset, .unset, .unset, .unset, .unset, .unset, .unset, .unset, .unset, .unset, .unset, .unset, .unset] [(.ref b3)]))
  refine OutW.back (fun t k => XS.dup X3.here hx rfl (hb hby at_14) rfl rfl k) ?_
  show OutW _ _ _ _ _ _ _ (T3.setTop (mkF m 15 #[.val (.int p1), .val (.int p2), .val (.int p3), .val (.int p4), .val (.int p5), .val (.int p6), .val (.ref b1), .unset, .unset, .unset, .unset, .unset, .unset, .unset, .unset, .unset, .unset, .unset, .unset, .unset, .unset, .unset, .unset, .unset, .unset, .unset, .unset] [(.ref b3), (.ref b3)]))
  refine OutW.back (fun t k => XS.aconstNull X3.here hx rfl (hb hby at_15) k) ?_
  show OutW _ _ _ _ _ _ _ (T3.setTop (mkF m 16 #[.val (.int p1), .val (.int p2), .val (.int p3), .val (.int p4), .val (.int p5), .val (.int p6), .val (.ref b1), .unset, .unset, .unset, .unset, .unset, .unset, .unset, .unset, .unset, .unset, .unset, .unset, .unset, .unset, .unset, .unset, .unset, .unset, .unset, .unset] [.null, (.ref b3), (.ref b3)]))
  refine OutW.back (fun t k => XS.aconstNull X3.here hx rfl (hb hby at_16) k) ?_
  show OutW _ _ _ _ _ _ _ (T3.setTop (mkF m 17 #[.val (.int p1), .val (.int p2), .val (.int p3), .val (.int p4), .val (.int p5), .val (.int p6), .val (.ref b1), .unset, .unset, .unset, .unset, .unset, .unset, .unset, .unset, .unset, .unset, .unset, .unset, .unset, .unset, .unset, .unset, .unset, .unset, .unset, .unset] [.null, .null, (.ref b3), (.ref b3)]))
  obtain ⟨_, _, ⟨T4, L4, k4, n4⟩, -, X4, ⟨Lc4, hQ4, l4, y4, z4⟩, st4⟩ := X3.specialBack hx (y := (⟨"com/example/fogline/fogline/rules/Piece", "<init>", "(Lcom/example/fogline/fogline/rules/Side;Lcom/example/fogline/fogline/rules/Rank;)V"⟩ : MethodName)) rfl hown (mvT hZ (hw _ (List.mem_of_getElem? (i := 3) rfl))) (mvT hZ (hw _ (List.mem_of_getElem? (i := 4) rfl))) (mvT hZ (hw _ (List.mem_of_getElem? (i := 5) rfl))) (by decide) (backOf (W := 1) (rm1 l Z a0 hw [] b3 h3 n0 Z3 E_b3 g_b3 F_side_b3 F_rank_b3) hZ (hw _ (List.mem_of_getElem? (i := 5) rfl)) (hw _ (List.mem_of_getElem? (i := 2) rfl)) (by decide) (by decide)) (g := (mkF m 17 #[.val (.int p1), .val (.int p2), .val (.int p3), .val (.int p4), .val (.int p5), .val (.int p6), .val (.ref b1), .unset, .unset, .unset, .unset, .unset, .unset, .unset, .unset, .unset, .unset, .unset, .unset, .unset, .unset, .unset, .unset, .unset, .unset, .unset, .unset] [.null, .null, (.ref b3), (.ref b3)])) rfl (by rw [hml]; rfl) (Steps.refl _) (a := b3) (argsL := [.null, .null]) (rest := [(.ref b3)]) (lenOf pd_0 rfl) rfl (by show 2 * 0 + _ ≤ _; exact Nat.le_of_eq rfl) (hb hby at_17) (fun _ _ => ⟨rfl, e3, (by decide : 2 + 0 ≤ _), (by decide : 8 + 0 ≤ _)⟩)
  dsimp only [Pt.U, Pt.locs, Pt.cells, Pt.slots] at X4 l4 y4 z4 st4 hQ4
  subst l4 y4 z4
  obtain ⟨h4, eh4⟩ : ∃ z, z = T4.heap := ⟨_, rfl⟩
  rw [← eh4] at hQ4
  have e4 : T4.heap = h4 := eh4.symm
  obtain ⟨rfl, Nq4, Kq4⟩ := hQ4
  have E_b1 := E_b1.keep Kq4
  have E_b3 := E_b3.keep Kq4
  have Z4 : n0 ≤ h4.size := Nat.le_trans Z3 Kq4.1
  have K4 := K3.trans Kq4 (allS (Or.inr sz_b3) all0)
  have N4 := Fr.app N2 Nq4
  refine OutW.via st4 ?_
  show OutW _ _ _ _ _ _ _ (T4.setTop (mkF m 20 #[.val (.int p1), .val (.int p2), .val (.int p3), .val (.int p4), .val (.int p5), .val (.int p6), .val (.ref b1), .unset, .unset, .unset, .unset, .unset, .unset, .unset, .unset, .unset, .unset, .unset, .unset, .unset, .unset, .unset, .unset, .unset, .unset, .unset, .unset] [(.ref b3)]))
  refine OutW.back (fun t k => XS.astore X4.here hx rfl (hb hby at_20) rfl rfl (l' := #[.val (.int p1), .val (.int p2), .val (.int p3), .val (.int p4), .val (.int p5), .val (.int p6), .val (.ref b1), .val (.ref b3), .unset, .unset, .unset, .unset, .unset, .unset, .unset, .unset, .unset, .unset, .unset, .unset, .unset, .unset, .unset, .unset, .unset, .unset, .unset]) rfl k) ?_
  show OutW _ _ _ _ _ _ _ (T4.setTop (mkF m 22 #[.val (.int p1), .val (.int p2), .val (.int p3), .val (.int p4), .val (.int p5), .val (.int p6), .val (.ref b1), .val (.ref b3), .unset, .unset, .unset, .unset, .unset, .unset, .unset, .unset, .unset, .unset, .unset, .unset, .unset, .unset, .unset, .unset, .unset, .unset, .unset] []))
  refine OutW.back (fun t k => XS.iloadN X4.here hx rfl (hb hby at_22) rfl  k) ?_
  show OutW _ _ _ _ _ _ _ (T4.setTop (mkF m 23 #[.val (.int p1), .val (.int p2), .val (.int p3), .val (.int p4), .val (.int p5), .val (.int p6), .val (.ref b1), .val (.ref b3), .unset, .unset, .unset, .unset, .unset, .unset, .unset, .unset, .unset, .unset, .unset, .unset, .unset, .unset, .unset, .unset, .unset, .unset, .unset] [(.int p1)]))
  refine OutW.back (fun t k => XS.iconst X4.here hx rfl (hb hby at_23) k) ?_
  show OutW _ _ _ _ _ _ _ (T4.setTop (mkF m 24 #[.val (.int p1), .val (.int p2), .val (.int p3), .val (.int p4), .val (.int p5), .val (.int p6), .val (.ref b1), .val (.ref b3), .unset, .unset, .unset, .unset, .unset, .unset, .unset, .unset, .unset, .unset, .unset, .unset, .unset, .unset, .unset, .unset, .unset, .unset, .unset] [(.int (2 : Int32)), (.int p1)]))
  refine OutW.back (fun t k => XS.iushr X4.here hx rfl (hb hby at_24) rfl k) ?_
  show OutW _ _ _ _ _ _ _ (T4.setTop (mkF m 25 #[.val (.int p1), .val (.int p2), .val (.int p3), .val (.int p4), .val (.int p5), .val (.int p6), .val (.ref b1), .val (.ref b3), .unset, .unset, .unset, .unset, .unset, .unset, .unset, .unset, .unset, .unset, .unset, .unset, .unset, .unset, .unset, .unset, .unset, .unset, .unset] [(.int ((p1.toUInt32 >>> ((2 : Int32) &&& 31).toUInt32).toInt32))]))
  refine OutW.back (fun t k => XS.iconst X4.here hx rfl (hb hby at_25) k) ?_
  show OutW _ _ _ _ _ _ _ (T4.setTop (mkF m 26 #[.val (.int p1), .val (.int p2), .val (.int p3), .val (.int p4), .val (.int p5), .val (.int p6), .val (.ref b1), .val (.ref b3), .unset, .unset, .unset, .unset, .unset, .unset, .unset, .unset, .unset, .unset, .unset, .unset, .unset, .unset, .unset, .unset, .unset, .unset, .unset] [(.int (3 : Int32)), (.int ((p1.toUInt32 >>> ((2 : Int32) &&& 31).toUInt32).toInt32))]))
  refine OutW.back (fun t k => XS.iand X4.here hx rfl (hb hby at_26) rfl k) ?_
  show OutW _ _ _ _ _ _ _ (T4.setTop (mkF m 27 #[.val (.int p1), .val (.int p2), .val (.int p3), .val (.int p4), .val (.int p5), .val (.int p6), .val (.ref b1), .val (.ref b3), .unset, .unset, .unset, .unset, .unset, .unset, .unset, .unset, .unset, .unset, .unset, .unset, .unset, .unset, .unset, .unset, .unset, .unset, .unset] [(.int (((p1.toUInt32 >>> ((2 : Int32) &&& 31).toUInt32).toInt32) &&& (3 : Int32)))]))
  refine OutW.back (fun t k => XS.aload X4.here hx rfl (hb hby at_27) rfl rfl  k) ?_
  show OutW _ _ _ _ _ _ _ (T4.setTop (mkF m 29 #[.val (.int p1), .val (.int p2), .val (.int p3), .val (.int p4), .val (.int p5), .val (.int p6), .val (.ref b1), .val (.ref b3), .unset, .unset, .unset, .unset, .unset, .unset, .unset, .unset, .unset, .unset, .unset, .unset, .unset, .unset, .unset, .unset, .unset, .unset, .unset] [(.ref b1), (.int (((p1.toUInt32 >>> ((2 : Int32) &&& 31).toUInt32).toInt32) &&& (3 : Int32)))]))
  refine OutW.back (fun t k => XS.aload X4.here hx rfl (hb hby at_29) rfl rfl  k) ?_
  show OutW _ _ _ _ _ _ _ (T4.setTop (mkF m 31 #[.val (.int p1), .val (.int p2), .val (.int p3), .val (.int p4), .val (.int p5), .val (.int p6), .val (.ref b1), .val (.ref b3), .unset, .unset, .unset, .unset, .unset, .unset, .unset, .unset, .unset, .unset, .unset, .unset, .unset, .unset, .unset, .unset, .unset, .unset, .unset] [(.ref b3), (.ref b1), (.int (((p1.toUInt32 >>> ((2 : Int32) &&& 31).toUInt32).toInt32) &&& (3 : Int32)))]))
  obtain ⟨_, _, ⟨T5, L5, k5, n5⟩, -, X5, ⟨Lc5, hQ5, l5, y5, z5⟩, st5⟩ := Jvm.LawKit.callS X4 hx (y := (⟨"com/example/fogline/fogline/rules/RecentMovesWentBackPinLaw", "pick", "(ILcom/example/fogline/fogline/rules/Piece;Lcom/example/fogline/fogline/rules/Piece;)Lcom/example/fogline/fogline/rules/Piece;"⟩ : MethodName)) hown (mvT hZ (hw _ (List.mem_of_getElem? (i := 13) rfl))) (mvT hZ (hw _ (List.mem_of_getElem? (i := 14) rfl))) (mvT hZ (hw _ (List.mem_of_getElem? (i := 15) rfl))) (mvT hZ (hw _ (List.mem_of_getElem? (i := 16) rfl))) (by decide) (backOf (W := 0) (rm3 l Z a0 hw [] (((p1.toUInt32 >>> ((2 : Int32) &&& 31).toUInt32).toInt32) &&& (3 : Int32)) b1 b3 h4 n0 Z4 ) hZ (hw _ (List.mem_of_getElem? (i := 16) rfl)) (hw _ (List.mem_of_getElem? (i := 15) rfl)) (by decide) (by decide)) (g := (mkF m 31 #[.val (.int p1), .val (.int p2), .val (.int p3), .val (.int p4), .val (.int p5), .val (.int p6), .val (.ref b1), .val (.ref b3), .unset, .unset, .unset, .unset, .unset, .unset, .unset, .unset, .unset, .unset, .unset, .unset, .unset, .unset, .unset, .unset, .unset, .unset, .unset] [(.ref b3), (.ref b1), (.int (((p1.toUInt32 >>> ((2 : Int32) &&& 31).toUInt32).toInt32) &&& (3 : Int32)))])) rfl (by rw [hml]; rfl) (argsL := [(.int (((p1.toUInt32 >>> ((2 : Int32) &&& 31).toUInt32).toInt32) &&& (3 : Int32))), (.ref b1), (.ref b3)]) (rest := []) (lenOf pd_1 rfl) rfl (by show 2 * 0 + _ ≤ _; exact Nat.le_of_eq rfl) (hb hby at_31) (fun _ _ => ⟨rfl, e4, (by decide : 2 + 0 ≤ _), (by decide : 8 + 0 ≤ _)⟩)
  dsimp only [Pt.U, Pt.locs, Pt.cells, Pt.slots] at X5 l5 y5 z5 st5 hQ5
  subst l5 y5 z5
  obtain ⟨rfl, Nq5, e5⟩ := hQ5
  have N5 := Fr.app N4 Nq5
  refine OutW.back st5 ?_
  show OutW _ _ _ _ _ _ _ (T5.setTop (mkF m 34 #[.val (.int p1), .val (.int p2), .val (.int p3), .val (.int p4), .val (.int p5), .val (.int p6), .val (.ref b1), .val (.ref b3), .unset, .unset, .unset, .unset, .unset, .unset, .unset, .unset, .unset, .unset, .unset, .unset, .unset, .unset, .unset, .unset, .unset, .unset, .unset] [(pickF (((p1.toUInt32 >>> ((2 : Int32) &&& 31).toUInt32).toInt32) &&& (3 : Int32)) b1 b3)]))
  generalize hv_v6 : (pickF (((p1.toUInt32 >>> ((2 : Int32) &&& 31).toUInt32).toInt32) &&& (3 : Int32)) b1 b3) = v6
  have ir_v6 : v6.isRef = true := by rw [← hv_v6]; exact pickF_ref _ _ _
  refine OutW.back (fun t k => XS.astore X5.here hx rfl (hb hby at_34) rfl ir_v6 (l' := #[.val (.int p1), .val (.int p2), .val (.int p3), .val (.int p4), .val (.int p5), .val (.int p6), .val (.ref b1), .val (.ref b3), .val v6, .unset, .unset, .unset, .unset, .unset, .unset, .unset, .unset, .unset, .unset, .unset, .unset, .unset, .unset, .unset, .unset, .unset, .unset]) (store1' (o := .unset) rfl One.u (cat_ref ir_v6) rfl) k) ?_
  show OutW _ _ _ _ _ _ _ (T5.setTop (mkF m 36 #[.val (.int p1), .val (.int p2), .val (.int p3), .val (.int p4), .val (.int p5), .val (.int p6), .val (.ref b1), .val (.ref b3), .val v6, .unset, .unset, .unset, .unset, .unset, .unset, .unset, .unset, .unset, .unset, .unset, .unset, .unset, .unset, .unset, .unset, .unset, .unset] []))
  refine OutW.back (fun t k => XS.iloadN X5.here hx rfl (hb hby at_36) rfl  k) ?_
  show OutW _ _ _ _ _ _ _ (T5.setTop (mkF m 37 #[.val (.int p1), .val (.int p2), .val (.int p3), .val (.int p4), .val (.int p5), .val (.int p6), .val (.ref b1), .val (.ref b3), .val v6, .unset, .unset, .unset, .unset, .unset, .unset, .unset, .unset, .unset, .unset, .unset, .unset, .unset, .unset, .unset, .unset, .unset, .unset] [(.int p1)]))
  refine OutW.back (fun t k => XS.iconst X5.here hx rfl (hb hby at_37) k) ?_
  show OutW _ _ _ _ _ _ _ (T5.setTop (mkF m 38 #[.val (.int p1), .val (.int p2), .val (.int p3), .val (.int p4), .val (.int p5), .val (.int p6), .val (.ref b1), .val (.ref b3), .val v6, .unset, .unset, .unset, .unset, .unset, .unset, .unset, .unset, .unset, .unset, .unset, .unset, .unset, .unset, .unset, .unset, .unset, .unset] [(.int (4 : Int32)), (.int p1)]))
  refine OutW.back (fun t k => XS.iushr X5.here hx rfl (hb hby at_38) rfl k) ?_
  show OutW _ _ _ _ _ _ _ (T5.setTop (mkF m 39 #[.val (.int p1), .val (.int p2), .val (.int p3), .val (.int p4), .val (.int p5), .val (.int p6), .val (.ref b1), .val (.ref b3), .val v6, .unset, .unset, .unset, .unset, .unset, .unset, .unset, .unset, .unset, .unset, .unset, .unset, .unset, .unset, .unset, .unset, .unset, .unset] [(.int ((p1.toUInt32 >>> ((4 : Int32) &&& 31).toUInt32).toInt32))]))
  refine OutW.back (fun t k => XS.iconst X5.here hx rfl (hb hby at_39) k) ?_
  show OutW _ _ _ _ _ _ _ (T5.setTop (mkF m 40 #[.val (.int p1), .val (.int p2), .val (.int p3), .val (.int p4), .val (.int p5), .val (.int p6), .val (.ref b1), .val (.ref b3), .val v6, .unset, .unset, .unset, .unset, .unset, .unset, .unset, .unset, .unset, .unset, .unset, .unset, .unset, .unset, .unset, .unset, .unset, .unset] [(.int (3 : Int32)), (.int ((p1.toUInt32 >>> ((4 : Int32) &&& 31).toUInt32).toInt32))]))
  refine OutW.back (fun t k => XS.iand X5.here hx rfl (hb hby at_40) rfl k) ?_
  show OutW _ _ _ _ _ _ _ (T5.setTop (mkF m 41 #[.val (.int p1), .val (.int p2), .val (.int p3), .val (.int p4), .val (.int p5), .val (.int p6), .val (.ref b1), .val (.ref b3), .val v6, .unset, .unset, .unset, .unset, .unset, .unset, .unset, .unset, .unset, .unset, .unset, .unset, .unset, .unset, .unset, .unset, .unset, .unset] [(.int (((p1.toUInt32 >>> ((4 : Int32) &&& 31).toUInt32).toInt32) &&& (3 : Int32)))]))
  refine OutW.back (fun t k => XS.aload X5.here hx rfl (hb hby at_41) rfl rfl  k) ?_
  show OutW _ _ _ _ _ _ _ (T5.setTop (mkF m 43 #[.val (.int p1), .val (.int p2), .val (.int p3), .val (.int p4), .val (.int p5), .val (.int p6), .val (.ref b1), .val (.ref b3), .val v6, .unset, .unset, .unset, .unset, .unset, .unset, .unset, .unset, .unset, .unset, .unset, .unset, .unset, .unset, .unset, .unset, .unset, .unset] [(.ref b1), (.int (((p1.toUInt32 >>> ((4 : Int32) &&& 31).toUInt32).toInt32) &&& (3 : Int32)))]))
  refine OutW.back (fun t k => XS.aload X5.here hx rfl (hb hby at_43) rfl rfl  k) ?_
  show OutW _ _ _ _ _ _ _ (T5.setTop (mkF m 45 #[.val (.int p1), .val (.int p2), .val (.int p3), .val (.int p4), .val (.int p5), .val (.int p6), .val (.ref b1), .val (.ref b3), .val v6, .unset, .unset, .unset, .unset, .unset, .unset, .unset, .unset, .unset, .unset, .unset, .unset, .unset, .unset, .unset, .unset, .unset, .unset] [(.ref b3), (.ref b1), (.int (((p1.toUInt32 >>> ((4 : Int32) &&& 31).toUInt32).toInt32) &&& (3 : Int32)))]))
  obtain ⟨_, _, ⟨T7, L7, k7, n7⟩, -, X7, ⟨Lc7, hQ7, l7, y7, z7⟩, st7⟩ := Jvm.LawKit.callS X5 hx (y := (⟨"com/example/fogline/fogline/rules/RecentMovesWentBackPinLaw", "pick", "(ILcom/example/fogline/fogline/rules/Piece;Lcom/example/fogline/fogline/rules/Piece;)Lcom/example/fogline/fogline/rules/Piece;"⟩ : MethodName)) hown (mvT hZ (hw _ (List.mem_of_getElem? (i := 13) rfl))) (mvT hZ (hw _ (List.mem_of_getElem? (i := 14) rfl))) (mvT hZ (hw _ (List.mem_of_getElem? (i := 15) rfl))) (mvT hZ (hw _ (List.mem_of_getElem? (i := 16) rfl))) (by decide) (backOf (W := 0) (rm3 l Z a0 hw [] (((p1.toUInt32 >>> ((4 : Int32) &&& 31).toUInt32).toInt32) &&& (3 : Int32)) b1 b3 h4 n0 Z4 ) hZ (hw _ (List.mem_of_getElem? (i := 16) rfl)) (hw _ (List.mem_of_getElem? (i := 15) rfl)) (by decide) (by decide)) (g := (mkF m 45 #[.val (.int p1), .val (.int p2), .val (.int p3), .val (.int p4), .val (.int p5), .val (.int p6), .val (.ref b1), .val (.ref b3), .val v6, .unset, .unset, .unset, .unset, .unset, .unset, .unset, .unset, .unset, .unset, .unset, .unset, .unset, .unset, .unset, .unset, .unset, .unset] [(.ref b3), (.ref b1), (.int (((p1.toUInt32 >>> ((4 : Int32) &&& 31).toUInt32).toInt32) &&& (3 : Int32)))])) rfl (by rw [hml]; rfl) (argsL := [(.int (((p1.toUInt32 >>> ((4 : Int32) &&& 31).toUInt32).toInt32) &&& (3 : Int32))), (.ref b1), (.ref b3)]) (rest := []) (lenOf pd_1 rfl) rfl (by show 2 * 0 + _ ≤ _; exact Nat.le_of_eq rfl) (hb hby at_45) (fun _ _ => ⟨rfl, e5, (by decide : 2 + 0 ≤ _), (by decide : 8 + 0 ≤ _)⟩)
  dsimp only [Pt.U, Pt.locs, Pt.cells, Pt.slots] at X7 l7 y7 z7 st7 hQ7
  subst l7 y7 z7
  obtain ⟨rfl, Nq7, e7⟩ := hQ7
  have N7 := Fr.app N5 Nq7
  refine OutW.back st7 ?_
  show OutW _ _ _ _ _ _ _ (T7.setTop (mkF m 48 #[.val (.int p1), .val (.int p2), .val (.int p3), .val (.int p4), .val (.int p5), .val (.int p6), .val (.ref b1), .val (.ref b3), .val v6, .unset, .unset, .unset, .unset, .unset, .unset, .unset, .unset, .unset, .unset, .unset, .unset, .unset, .unset, .unset, .unset, .unset, .unset] [(pickF (((p1.toUInt32 >>> ((4 : Int32) &&& 31).toUInt32).toInt32) &&& (3 : Int32)) b1 b3)]))
  generalize hv_v8 : (pickF (((p1.toUInt32 >>> ((4 : Int32) &&& 31).toUInt32).toInt32) &&& (3 : Int32)) b1 b3) = v8
  have ir_v8 : v8.isRef = true := by rw [← hv_v8]; exact pickF_ref _ _ _
  refine OutW.back (fun t k => XS.astore X7.here hx rfl (hb hby at_48) rfl ir_v8 (l' := #[.val (.int p1), .val (.int p2), .val (.int p3), .val (.int p4), .val (.int p5), .val (.int p6), .val (.ref b1), .val (.ref b3), .val v6, .val v8, .unset, .unset, .unset, .unset, .unset, .unset, .unset, .unset, .unset, .unset, .unset, .unset, .unset, .unset, .unset, .unset, .unset]) (store1' (o := .unset) rfl One.u (cat_ref ir_v8) rfl) k) ?_
  show OutW _ _ _ _ _ _ _ (T7.setTop (mkF m 50 #[.val (.int p1), .val (.int p2), .val (.int p3), .val (.int p4), .val (.int p5), .val (.int p6), .val (.ref b1), .val (.ref b3), .val v6, .val v8, .unset, .unset, .unset, .unset, .unset, .unset, .unset, .unset, .unset, .unset, .unset, .unset, .unset, .unset, .unset, .unset, .unset] []))
  refine OutW.back (fun t k => XS.iloadN X7.here hx rfl (hb hby at_50) rfl  k) ?_
  show OutW _ _ _ _ _ _ _ (T7.setTop (mkF m 51 #[.val (.int p1), .val (.int p2), .val (.int p3), .val (.int p4), .val (.int p5), .val (.int p6), .val (.ref b1), .val (.ref b3), .val v6, .val v8, .unset, .unset, .unset, .unset, .unset, .unset, .unset, .unset, .unset, .unset, .unset, .unset, .unset, .unset, .unset, .unset, .unset] [(.int p1)]))
  refine OutW.back (fun t k => XS.bipush X7.here hx rfl (hb hby at_51) k) ?_
  show OutW _ _ _ _ _ _ _ (T7.setTop (mkF m 53 #[.val (.int p1), .val (.int p2), .val (.int p3), .val (.int p4), .val (.int p5), .val (.int p6), .val (.ref b1), .val (.ref b3), .val v6, .val v8, .unset, .unset, .unset, .unset, .unset, .unset, .unset, .unset, .unset, .unset, .unset, .unset, .unset, .unset, .unset, .unset, .unset] [(.int (6 : Int32)), (.int p1)]))
  refine OutW.back (fun t k => XS.iushr X7.here hx rfl (hb hby at_53) rfl k) ?_
  show OutW _ _ _ _ _ _ _ (T7.setTop (mkF m 54 #[.val (.int p1), .val (.int p2), .val (.int p3), .val (.int p4), .val (.int p5), .val (.int p6), .val (.ref b1), .val (.ref b3), .val v6, .val v8, .unset, .unset, .unset, .unset, .unset, .unset, .unset, .unset, .unset, .unset, .unset, .unset, .unset, .unset, .unset, .unset, .unset] [(.int ((p1.toUInt32 >>> ((6 : Int32) &&& 31).toUInt32).toInt32))]))
  refine OutW.back (fun t k => XS.iconst X7.here hx rfl (hb hby at_54) k) ?_
  show OutW _ _ _ _ _ _ _ (T7.setTop (mkF m 55 #[.val (.int p1), .val (.int p2), .val (.int p3), .val (.int p4), .val (.int p5), .val (.int p6), .val (.ref b1), .val (.ref b3), .val v6, .val v8, .unset, .unset, .unset, .unset, .unset, .unset, .unset, .unset, .unset, .unset, .unset, .unset, .unset, .unset, .unset, .unset, .unset] [(.int (3 : Int32)), (.int ((p1.toUInt32 >>> ((6 : Int32) &&& 31).toUInt32).toInt32))]))
  refine OutW.back (fun t k => XS.iand X7.here hx rfl (hb hby at_55) rfl k) ?_
  show OutW _ _ _ _ _ _ _ (T7.setTop (mkF m 56 #[.val (.int p1), .val (.int p2), .val (.int p3), .val (.int p4), .val (.int p5), .val (.int p6), .val (.ref b1), .val (.ref b3), .val v6, .val v8, .unset, .unset, .unset, .unset, .unset, .unset, .unset, .unset, .unset, .unset, .unset, .unset, .unset, .unset, .unset, .unset, .unset] [(.int (((p1.toUInt32 >>> ((6 : Int32) &&& 31).toUInt32).toInt32) &&& (3 : Int32)))]))
  refine OutW.back (fun t k => XS.aload X7.here hx rfl (hb hby at_56) rfl rfl  k) ?_
  show OutW _ _ _ _ _ _ _ (T7.setTop (mkF m 58 #[.val (.int p1), .val (.int p2), .val (.int p3), .val (.int p4), .val (.int p5), .val (.int p6), .val (.ref b1), .val (.ref b3), .val v6, .val v8, .unset, .unset, .unset, .unset, .unset, .unset, .unset, .unset, .unset, .unset, .unset, .unset, .unset, .unset, .unset, .unset, .unset] [(.ref b1), (.int (((p1.toUInt32 >>> ((6 : Int32) &&& 31).toUInt32).toInt32) &&& (3 : Int32)))]))
  refine OutW.back (fun t k => XS.aload X7.here hx rfl (hb hby at_58) rfl rfl  k) ?_
  show OutW _ _ _ _ _ _ _ (T7.setTop (mkF m 60 #[.val (.int p1), .val (.int p2), .val (.int p3), .val (.int p4), .val (.int p5), .val (.int p6), .val (.ref b1), .val (.ref b3), .val v6, .val v8, .unset, .unset, .unset, .unset, .unset, .unset, .unset, .unset, .unset, .unset, .unset, .unset, .unset, .unset, .unset, .unset, .unset] [(.ref b3), (.ref b1), (.int (((p1.toUInt32 >>> ((6 : Int32) &&& 31).toUInt32).toInt32) &&& (3 : Int32)))]))
  obtain ⟨_, _, ⟨T9, L9, k9, n9⟩, -, X9, ⟨Lc9, hQ9, l9, y9, z9⟩, st9⟩ := Jvm.LawKit.callS X7 hx (y := (⟨"com/example/fogline/fogline/rules/RecentMovesWentBackPinLaw", "pick", "(ILcom/example/fogline/fogline/rules/Piece;Lcom/example/fogline/fogline/rules/Piece;)Lcom/example/fogline/fogline/rules/Piece;"⟩ : MethodName)) hown (mvT hZ (hw _ (List.mem_of_getElem? (i := 13) rfl))) (mvT hZ (hw _ (List.mem_of_getElem? (i := 14) rfl))) (mvT hZ (hw _ (List.mem_of_getElem? (i := 15) rfl))) (mvT hZ (hw _ (List.mem_of_getElem? (i := 16) rfl))) (by decide) (backOf (W := 0) (rm3 l Z a0 hw [] (((p1.toUInt32 >>> ((6 : Int32) &&& 31).toUInt32).toInt32) &&& (3 : Int32)) b1 b3 h4 n0 Z4 ) hZ (hw _ (List.mem_of_getElem? (i := 16) rfl)) (hw _ (List.mem_of_getElem? (i := 15) rfl)) (by decide) (by decide)) (g := (mkF m 60 #[.val (.int p1), .val (.int p2), .val (.int p3), .val (.int p4), .val (.int p5), .val (.int p6), .val (.ref b1), .val (.ref b3), .val v6, .val v8, .unset, .unset, .unset, .unset, .unset, .unset, .unset, .unset, .unset, .unset, .unset, .unset, .unset, .unset, .unset, .unset, .unset] [(.ref b3), (.ref b1), (.int (((p1.toUInt32 >>> ((6 : Int32) &&& 31).toUInt32).toInt32) &&& (3 : Int32)))])) rfl (by rw [hml]; rfl) (argsL := [(.int (((p1.toUInt32 >>> ((6 : Int32) &&& 31).toUInt32).toInt32) &&& (3 : Int32))), (.ref b1), (.ref b3)]) (rest := []) (lenOf pd_1 rfl) rfl (by show 2 * 0 + _ ≤ _; exact Nat.le_of_eq rfl) (hb hby at_60) (fun _ _ => ⟨rfl, e7, (by decide : 2 + 0 ≤ _), (by decide : 8 + 0 ≤ _)⟩)
  dsimp only [Pt.U, Pt.locs, Pt.cells, Pt.slots] at X9 l9 y9 z9 st9 hQ9
  subst l9 y9 z9
  obtain ⟨rfl, Nq9, e9⟩ := hQ9
  have N9 := Fr.app N7 Nq9
  refine OutW.back st9 ?_
  show OutW _ _ _ _ _ _ _ (T9.setTop (mkF m 63 #[.val (.int p1), .val (.int p2), .val (.int p3), .val (.int p4), .val (.int p5), .val (.int p6), .val (.ref b1), .val (.ref b3), .val v6, .val v8, .unset, .unset, .unset, .unset, .unset, .unset, .unset, .unset, .unset, .unset, .unset, .unset, .unset, .unset, .unset, .unset, .unset] [(pickF (((p1.toUInt32 >>> ((6 : Int32) &&& 31).toUInt32).toInt32) &&& (3 : Int32)) b1 b3)]))
  generalize hv_v10 : (pickF (((p1.toUInt32 >>> ((6 : Int32) &&& 31).toUInt32).toInt32) &&& (3 : Int32)) b1 b3) = v10
  have ir_v10 : v10.isRef = true := by rw [← hv_v10]; exact pickF_ref _ _ _
  refine OutW.back (fun t k => XS.astore X9.here hx rfl (hb hby at_63) rfl ir_v10 (l' := #[.val (.int p1), .val (.int p2), .val (.int p3), .val (.int p4), .val (.int p5), .val (.int p6), .val (.ref b1), .val (.ref b3), .val v6, .val v8, .val v10, .unset, .unset, .unset, .unset, .unset, .unset, .unset, .unset, .unset, .unset, .unset, .unset, .unset, .unset, .unset, .unset]) (store1' (o := .unset) rfl One.u (cat_ref ir_v10) rfl) k) ?_
  show OutW _ _ _ _ _ _ _ (T9.setTop (mkF m 65 #[.val (.int p1), .val (.int p2), .val (.int p3), .val (.int p4), .val (.int p5), .val (.int p6), .val (.ref b1), .val (.ref b3), .val v6, .val v8, .val v10, .unset, .unset, .unset, .unset, .unset, .unset, .unset, .unset, .unset, .unset, .unset, .unset, .unset, .unset, .unset, .unset] []))
  refine OutW.back (fun t k => XS.iloadN X9.here hx rfl (hb hby at_65) rfl  k) ?_
  show OutW _ _ _ _ _ _ _ (T9.setTop (mkF m 66 #[.val (.int p1), .val (.int p2), .val (.int p3), .val (.int p4), .val (.int p5), .val (.int p6), .val (.ref b1), .val (.ref b3), .val v6, .val v8, .val v10, .unset, .unset, .unset, .unset, .unset, .unset, .unset, .unset, .unset, .unset, .unset, .unset, .unset, .unset, .unset, .unset] [(.int p2)]))
  refine OutW.back (fun t k => XS.istore X9.here hx rfl (hb hby at_66) rfl (l' := #[.val (.int p1), .val (.int p2), .val (.int p3), .val (.int p4), .val (.int p5), .val (.int p6), .val (.ref b1), .val (.ref b3), .val v6, .val v8, .val v10, .val (.int p2), .unset, .unset, .unset, .unset, .unset, .unset, .unset, .unset, .unset, .unset, .unset, .unset, .unset, .unset, .unset]) rfl k) ?_
  show OutW _ _ _ _ _ _ _ (T9.setTop (mkF m 68 #[.val (.int p1), .val (.int p2), .val (.int p3), .val (.int p4), .val (.int p5), .val (.int p6), .val (.ref b1), .val (.ref b3), .val v6, .val v8, .val v10, .val (.int p2), .unset, .unset, .unset, .unset, .unset, .unset, .unset, .unset, .unset, .unset, .unset, .unset, .unset, .unset, .unset] []))
  refine OutW.back (fun t k => XS.iloadN X9.here hx rfl (hb hby at_68) rfl  k) ?_
  show OutW _ _ _ _ _ _ _ (T9.setTop (mkF m 69 #[.val (.int p1), .val (.int p2), .val (.int p3), .val (.int p4), .val (.int p5), .val (.int p6), .val (.ref b1), .val (.ref b3), .val v6, .val v8, .val v10, .val (.int p2), .unset, .unset, .unset, .unset, .unset, .unset, .unset, .unset, .unset, .unset, .unset, .unset, .unset, .unset, .unset] [(.int p3)]))
  refine OutW.back (fun t k => XS.istore X9.here hx rfl (hb hby at_69) rfl (l' := #[.val (.int p1), .val (.int p2), .val (.int p3), .val (.int p4), .val (.int p5), .val (.int p6), .val (.ref b1), .val (.ref b3), .val v6, .val v8, .val v10, .val (.int p2), .val (.int p3), .unset, .unset, .unset, .unset, .unset, .unset, .unset, .unset, .unset, .unset, .unset, .unset, .unset, .unset]) rfl k) ?_
  show OutW _ _ _ _ _ _ _ (T9.setTop (mkF m 71 #[.val (.int p1), .val (.int p2), .val (.int p3), .val (.int p4), .val (.int p5), .val (.int p6), .val (.ref b1), .val (.ref b3), .val v6, .val v8, .val v10, .val (.int p2), .val (.int p3), .unset, .unset, .unset, .unset, .unset, .unset, .unset, .unset, .unset, .unset, .unset, .unset, .unset, .unset] []))
  refine OutW.back (fun t k => XS.iloadN X9.here hx rfl (hb hby at_71) rfl  k) ?_
  show OutW _ _ _ _ _ _ _ (T9.setTop (mkF m 72 #[.val (.int p1), .val (.int p2), .val (.int p3), .val (.int p4), .val (.int p5), .val (.int p6), .val (.ref b1), .val (.ref b3), .val v6, .val v8, .val v10, .val (.int p2), .val (.int p3), .unset, .unset, .unset, .unset, .unset, .unset, .unset, .unset, .unset, .unset, .unset, .unset, .unset, .unset] [(.int p1)]))
  refine OutW.back (fun t k => XS.bipush X9.here hx rfl (hb hby at_72) k) ?_
  show OutW _ _ _ _ _ _ _ (T9.setTop (mkF m 74 #[.val (.int p1), .val (.int p2), .val (.int p3), .val (.int p4), .val (.int p5), .val (.int p6), .val (.ref b1), .val (.ref b3), .val v6, .val v8, .val v10, .val (.int p2), .val (.int p3), .unset, .unset, .unset, .unset, .unset, .unset, .unset, .unset, .unset, .unset, .unset, .unset, .unset, .unset] [(.int (8 : Int32)), (.int p1)]))
  refine OutW.back (fun t k => XS.iushr X9.here hx rfl (hb hby at_74) rfl k) ?_
  show OutW _ _ _ _ _ _ _ (T9.setTop (mkF m 75 #[.val (.int p1), .val (.int p2), .val (.int p3), .val (.int p4), .val (.int p5), .val (.int p6), .val (.ref b1), .val (.ref b3), .val v6, .val v8, .val v10, .val (.int p2), .val (.int p3), .unset, .unset, .unset, .unset, .unset, .unset, .unset, .unset, .unset, .unset, .unset, .unset, .unset, .unset] [(.int ((p1.toUInt32 >>> ((8 : Int32) &&& 31).toUInt32).toInt32))]))
  refine OutW.back (fun t k => XS.iconst X9.here hx rfl (hb hby at_75) k) ?_
  show OutW _ _ _ _ _ _ _ (T9.setTop (mkF m 76 #[.val (.int p1), .val (.int p2), .val (.int p3), .val (.int p4), .val (.int p5), .val (.int p6), .val (.ref b1), .val (.ref b3), .val v6, .val v8, .val v10, .val (.int p2), .val (.int p3), .unset, .unset, .unset, .unset, .unset, .unset, .unset, .unset, .unset, .unset, .unset, .unset, .unset, .unset] [(.int (1 : Int32)), (.int ((p1.toUInt32 >>> ((8 : Int32) &&& 31).toUInt32).toInt32))]))
  refine OutW.back (fun t k => XS.iand X9.here hx rfl (hb hby at_76) rfl k) ?_
  show OutW _ _ _ _ _ _ _ (T9.setTop (mkF m 77 #[.val (.int p1), .val (.int p2), .val (.int p3), .val (.int p4), .val (.int p5), .val (.int p6), .val (.ref b1), .val (.ref b3), .val v6, .val v8, .val v10, .val (.int p2), .val (.int p3), .unset, .unset, .unset, .unset, .unset, .unset, .unset, .unset, .unset, .unset, .unset, .unset, .unset, .unset] [(.int (((p1.toUInt32 >>> ((8 : Int32) &&& 31).toUInt32).toInt32) &&& (1 : Int32)))]))
  obtain ⟨v12, hv_v12⟩ : ∃ z : Int32, z = (if (((p1.toUInt32 >>> ((8 : Int32) &&& 31).toUInt32).toInt32) &&& (1 : Int32)) = (0 : Int32) then p4 else p3) := ⟨_, rfl⟩
  have j13 : ∀ t, Steps p.tables e below (T9.setTop (mkF m 85 #[.val (.int p1), .val (.int p2), .val (.int p3), .val (.int p4), .val (.int p5), .val (.int p6), .val (.ref b1), .val (.ref b3), .val v6, .val v8, .val v10, .val (.int p2), .val (.int p3), .unset, .unset, .unset, .unset, .unset, .unset, .unset, .unset, .unset, .unset, .unset, .unset, .unset, .unset] [(.int v12)])) t → Steps p.tables e below (T9.setTop (mkF m 77 #[.val (.int p1), .val (.int p2), .val (.int p3), .val (.int p4), .val (.int p5), .val (.int p6), .val (.ref b1), .val (.ref b3), .val v6, .val v8, .val v10, .val (.int p2), .val (.int p3), .unset, .unset, .unset, .unset, .unset, .unset, .unset, .unset, .unset, .unset, .unset, .unset, .unset, .unset] [(.int (((p1.toUInt32 >>> ((8 : Int32) &&& 31).toUInt32).toInt32) &&& (1 : Int32)))])) t := by
    intro t k
    by_cases c77_14 : (((p1.toUInt32 >>> ((8 : Int32) &&& 31).toUInt32).toInt32) &&& (1 : Int32)) = (0 : Int32)
    · skip
      refine XS.ifYes X9.here hx rfl (pc0 := 77) (pc' := 84) rfl (hb hby at_77) rfl ((if0 _ _).trans (teq c77_14).1) (by decide) (by decide) ?_
      show Steps p.tables e below (T9.setTop (mkF m 84 #[.val (.int p1), .val (.int p2), .val (.int p3), .val (.int p4), .val (.int p5), .val (.int p6), .val (.ref b1), .val (.ref b3), .val v6, .val v8, .val v10, .val (.int p2), .val (.int p3), .unset, .unset, .unset, .unset, .unset, .unset, .unset, .unset, .unset, .unset, .unset, .unset, .unset, .unset] [])) t
      refine XS.iloadN X9.here hx rfl (hb hby at_84) rfl  ?_
      show Steps p.tables e below (T9.setTop (mkF m 85 #[.val (.int p1), .val (.int p2), .val (.int p3), .val (.int p4), .val (.int p5), .val (.int p6), .val (.ref b1), .val (.ref b3), .val v6, .val v8, .val v10, .val (.int p2), .val (.int p3), .unset, .unset, .unset, .unset, .unset, .unset, .unset, .unset, .unset, .unset, .unset, .unset, .unset, .unset] [(.int p4)])) t
      have q_v12 : v12 = p4 := by rw [hv_v12, if_pos c77_14]
      rw [q_v12] at k
      exact k
    · skip
      refine XS.ifNo X9.here hx rfl (hb hby at_77) rfl ((if0 _ _).trans (feq c77_14).1) ?_
      show Steps p.tables e below (T9.setTop (mkF m 80 #[.val (.int p1), .val (.int p2), .val (.int p3), .val (.int p4), .val (.int p5), .val (.int p6), .val (.ref b1), .val (.ref b3), .val v6, .val v8, .val v10, .val (.int p2), .val (.int p3), .unset, .unset, .unset, .unset, .unset, .unset, .unset, .unset, .unset, .unset, .unset, .unset, .unset, .unset] [])) t
      refine XS.iloadN X9.here hx rfl (hb hby at_80) rfl  ?_
      show Steps p.tables e below (T9.setTop (mkF m 81 #[.val (.int p1), .val (.int p2), .val (.int p3), .val (.int p4), .val (.int p5), .val (.int p6), .val (.ref b1), .val (.ref b3), .val v6, .val v8, .val v10, .val (.int p2), .val (.int p3), .unset, .unset, .unset, .unset, .unset, .unset, .unset, .unset, .unset, .unset, .unset, .unset, .unset, .unset] [(.int p3)])) t
      refine XS.goto X9.here hx rfl (pc0 := 81) (pc' := 85) rfl (hb hby at_81) (by decide) (by decide) ?_
      show Steps p.tables e below (T9.setTop (mkF m 85 #[.val (.int p1), .val (.int p2), .val (.int p3), .val (.int p4), .val (.int p5), .val (.int p6), .val (.ref b1), .val (.ref b3), .val v6, .val v8, .val v10, .val (.int p2), .val (.int p3), .unset, .unset, .unset, .unset, .unset, .unset, .unset, .unset, .unset, .unset, .unset, .unset, .unset, .unset] [(.int p3)])) t
      have q_v12 : v12 = p3 := by rw [hv_v12, if_neg c77_14]
      rw [q_v12] at k
      exact k
  refine OutW.back j13 ?_
  show OutW _ _ _ _ _ _ _ (T9.setTop (mkF m 85 #[.val (.int p1), .val (.int p2), .val (.int p3), .val (.int p4), .val (.int p5), .val (.int p6), .val (.ref b1), .val (.ref b3), .val v6, .val v8, .val v10, .val (.int p2), .val (.int p3), .unset, .unset, .unset, .unset, .unset, .unset, .unset, .unset, .unset, .unset, .unset, .unset, .unset, .unset] [(.int v12)]))
  refine OutW.back (fun t k => XS.istore X9.here hx rfl (hb hby at_85) rfl (l' := #[.val (.int p1), .val (.int p2), .val (.int p3), .val (.int p4), .val (.int p5), .val (.int p6), .val (.ref b1), .val (.ref b3), .val v6, .val v8, .val v10, .val (.int p2), .val (.int p3), .val (.int v12), .unset, .unset, .unset, .unset, .unset, .unset, .unset, .unset, .unset, .unset, .unset, .unset, .unset]) rfl k) ?_
  show OutW _ _ _ _ _ _ _ (T9.setTop (mkF m 87 #[.val (.int p1), .val (.int p2), .val (.int p3), .val (.int p4), .val (.int p5), .val (.int p6), .val (.ref b1), .val (.ref b3), .val v6, .val v8, .val v10, .val (.int p2), .val (.int p3), .val (.int v12), .unset, .unset, .unset, .unset, .unset, .unset, .unset, .unset, .unset, .unset, .unset, .unset, .unset] []))
  refine OutW.back (fun t k => XS.iloadN X9.here hx rfl (hb hby at_87) rfl  k) ?_
  show OutW _ _ _ _ _ _ _ (T9.setTop (mkF m 88 #[.val (.int p1), .val (.int p2), .val (.int p3), .val (.int p4), .val (.int p5), .val (.int p6), .val (.ref b1), .val (.ref b3), .val v6, .val v8, .val v10, .val (.int p2), .val (.int p3), .val (.int v12), .unset, .unset, .unset, .unset, .unset, .unset, .unset, .unset, .unset, .unset, .unset, .unset, .unset] [(.int p1)]))
  refine OutW.back (fun t k => XS.bipush X9.here hx rfl (hb hby at_88) k) ?_
  show OutW _ _ _ _ _ _ _ (T9.setTop (mkF m 90 #[.val (.int p1), .val (.int p2), .val (.int p3), .val (.int p4), .val (.int p5), .val (.int p6), .val (.ref b1), .val (.ref b3), .val v6, .val v8, .val v10, .val (.int p2), .val (.int p3), .val (.int v12), .unset, .unset, .unset, .unset, .unset, .unset, .unset, .unset, .unset, .unset, .unset, .unset, .unset] [(.int (9 : Int32)), (.int p1)]))
  refine OutW.back (fun t k => XS.iushr X9.here hx rfl (hb hby at_90) rfl k) ?_
  show OutW _ _ _ _ _ _ _ (T9.setTop (mkF m 91 #[.val (.int p1), .val (.int p2), .val (.int p3), .val (.int p4), .val (.int p5), .val (.int p6), .val (.ref b1), .val (.ref b3), .val v6, .val v8, .val v10, .val (.int p2), .val (.int p3), .val (.int v12), .unset, .unset, .unset, .unset, .unset, .unset, .unset, .unset, .unset, .unset, .unset, .unset, .unset] [(.int ((p1.toUInt32 >>> ((9 : Int32) &&& 31).toUInt32).toInt32))]))
  refine OutW.back (fun t k => XS.iconst X9.here hx rfl (hb hby at_91) k) ?_
  show OutW _ _ _ _ _ _ _ (T9.setTop (mkF m 92 #[.val (.int p1), .val (.int p2), .val (.int p3), .val (.int p4), .val (.int p5), .val (.int p6), .val (.ref b1), .val (.ref b3), .val v6, .val v8, .val v10, .val (.int p2), .val (.int p3), .val (.int v12), .unset, .unset, .unset, .unset, .unset, .unset, .unset, .unset, .unset, .unset, .unset, .unset, .unset] [(.int (1 : Int32)), (.int ((p1.toUInt32 >>> ((9 : Int32) &&& 31).toUInt32).toInt32))]))
  refine OutW.back (fun t k => XS.iand X9.here hx rfl (hb hby at_92) rfl k) ?_
  show OutW _ _ _ _ _ _ _ (T9.setTop (mkF m 93 #[.val (.int p1), .val (.int p2), .val (.int p3), .val (.int p4), .val (.int p5), .val (.int p6), .val (.ref b1), .val (.ref b3), .val v6, .val v8, .val v10, .val (.int p2), .val (.int p3), .val (.int v12), .unset, .unset, .unset, .unset, .unset, .unset, .unset, .unset, .unset, .unset, .unset, .unset, .unset] [(.int (((p1.toUInt32 >>> ((9 : Int32) &&& 31).toUInt32).toInt32) &&& (1 : Int32)))]))
  obtain ⟨v16, hv_v16⟩ : ∃ z : Int32, z = (if (((p1.toUInt32 >>> ((9 : Int32) &&& 31).toUInt32).toInt32) &&& (1 : Int32)) = (0 : Int32) then p5 else p2) := ⟨_, rfl⟩
  have j17 : ∀ t, Steps p.tables e below (T9.setTop (mkF m 102 #[.val (.int p1), .val (.int p2), .val (.int p3), .val (.int p4), .val (.int p5), .val (.int p6), .val (.ref b1), .val (.ref b3), .val v6, .val v8, .val v10, .val (.int p2), .val (.int p3), .val (.int v12), .unset, .unset, .unset, .unset, .unset, .unset, .unset, .unset, .unset, .unset, .unset, .unset, .unset] [(.int v16)])) t → Steps p.tables e below (T9.setTop (mkF m 93 #[.val (.int p1), .val (.int p2), .val (.int p3), .val (.int p4), .val (.int p5), .val (.int p6), .val (.ref b1), .val (.ref b3), .val v6, .val v8, .val v10, .val (.int p2), .val (.int p3), .val (.int v12), .unset, .unset, .unset, .unset, .unset, .unset, .unset, .unset, .unset, .unset, .unset, .unset, .unset] [(.int (((p1.toUInt32 >>> ((9 : Int32) &&& 31).toUInt32).toInt32) &&& (1 : Int32)))])) t := by
    intro t k
    by_cases c93_18 : (((p1.toUInt32 >>> ((9 : Int32) &&& 31).toUInt32).toInt32) &&& (1 : Int32)) = (0 : Int32)
    · skip
      refine XS.ifYes X9.here hx rfl (pc0 := 93) (pc' := 100) rfl (hb hby at_93) rfl ((if0 _ _).trans (teq c93_18).1) (by decide) (by decide) ?_
      show Steps p.tables e below (T9.setTop (mkF m 100 #[.val (.int p1), .val (.int p2), .val (.int p3), .val (.int p4), .val (.int p5), .val (.int p6), .val (.ref b1), .val (.ref b3), .val v6, .val v8, .val v10, .val (.int p2), .val (.int p3), .val (.int v12), .unset, .unset, .unset, .unset, .unset, .unset, .unset, .unset, .unset, .unset, .unset, .unset, .unset] [])) t
      refine XS.iload X9.here hx rfl (hb hby at_100) rfl  ?_
      show Steps p.tables e below (T9.setTop (mkF m 102 #[.val (.int p1), .val (.int p2), .val (.int p3), .val (.int p4), .val (.int p5), .val (.int p6), .val (.ref b1), .val (.ref b3), .val v6, .val v8, .val v10, .val (.int p2), .val (.int p3), .val (.int v12), .unset, .unset, .unset, .unset, .unset, .unset, .unset, .unset, .unset, .unset, .unset, .unset, .unset] [(.int p5)])) t
      have q_v16 : v16 = p5 := by rw [hv_v16, if_pos c93_18]
      rw [q_v16] at k
      exact k
    · skip
      refine XS.ifNo X9.here hx rfl (hb hby at_93) rfl ((if0 _ _).trans (feq c93_18).1) ?_
      show Steps p.tables e below (T9.setTop (mkF m 96 #[.val (.int p1), .val (.int p2), .val (.int p3), .val (.int p4), .val (.int p5), .val (.int p6), .val (.ref b1), .val (.ref b3), .val v6, .val v8, .val v10, .val (.int p2), .val (.int p3), .val (.int v12), .unset, .unset, .unset, .unset, .unset, .unset, .unset, .unset, .unset, .unset, .unset, .unset, .unset] [])) t
      refine XS.iloadN X9.here hx rfl (hb hby at_96) rfl  ?_
      show Steps p.tables e below (T9.setTop (mkF m 97 #[.val (.int p1), .val (.int p2), .val (.int p3), .val (.int p4), .val (.int p5), .val (.int p6), .val (.ref b1), .val (.ref b3), .val v6, .val v8, .val v10, .val (.int p2), .val (.int p3), .val (.int v12), .unset, .unset, .unset, .unset, .unset, .unset, .unset, .unset, .unset, .unset, .unset, .unset, .unset] [(.int p2)])) t
      refine XS.goto X9.here hx rfl (pc0 := 97) (pc' := 102) rfl (hb hby at_97) (by decide) (by decide) ?_
      show Steps p.tables e below (T9.setTop (mkF m 102 #[.val (.int p1), .val (.int p2), .val (.int p3), .val (.int p4), .val (.int p5), .val (.int p6), .val (.ref b1), .val (.ref b3), .val v6, .val v8, .val v10, .val (.int p2), .val (.int p3), .val (.int v12), .unset, .unset, .unset, .unset, .unset, .unset, .unset, .unset, .unset, .unset, .unset, .unset, .unset] [(.int p2)])) t
      have q_v16 : v16 = p2 := by rw [hv_v16, if_neg c93_18]
      rw [q_v16] at k
      exact k
  refine OutW.back j17 ?_
  show OutW _ _ _ _ _ _ _ (T9.setTop (mkF m 102 #[.val (.int p1), .val (.int p2), .val (.int p3), .val (.int p4), .val (.int p5), .val (.int p6), .val (.ref b1), .val (.ref b3), .val v6, .val v8, .val v10, .val (.int p2), .val (.int p3), .val (.int v12), .unset, .unset, .unset, .unset, .unset, .unset, .unset, .unset, .unset, .unset, .unset, .unset, .unset] [(.int v16)]))
  refine OutW.back (fun t k => XS.istore X9.here hx rfl (hb hby at_102) rfl (l' := #[.val (.int p1), .val (.int p2), .val (.int p3), .val (.int p4), .val (.int p5), .val (.int p6), .val (.ref b1), .val (.ref b3), .val v6, .val v8, .val v10, .val (.int p2), .val (.int p3), .val (.int v12), .val (.int v16), .unset, .unset, .unset, .unset, .unset, .unset, .unset, .unset, .unset, .unset, .unset, .unset]) rfl k) ?_
  show OutW _ _ _ _ _ _ _ (T9.setTop (mkF m 104 #[.val (.int p1), .val (.int p2), .val (.int p3), .val (.int p4), .val (.int p5), .val (.int p6), .val (.ref b1), .val (.ref b3), .val v6, .val v8, .val v10, .val (.int p2), .val (.int p3), .val (.int v12), .val (.int v16), .unset, .unset, .unset, .unset, .unset, .unset, .unset, .unset, .unset, .unset, .unset, .unset] []))
  refine OutW.back (fun t k => XS.iloadN X9.here hx rfl (hb hby at_104) rfl  k) ?_
  show OutW _ _ _ _ _ _ _ (T9.setTop (mkF m 105 #[.val (.int p1), .val (.int p2), .val (.int p3), .val (.int p4), .val (.int p5), .val (.int p6), .val (.ref b1), .val (.ref b3), .val v6, .val v8, .val v10, .val (.int p2), .val (.int p3), .val (.int v12), .val (.int v16), .unset, .unset, .unset, .unset, .unset, .unset, .unset, .unset, .unset, .unset, .unset, .unset] [(.int p1)]))
  refine OutW.back (fun t k => XS.bipush X9.here hx rfl (hb hby at_105) k) ?_
  show OutW _ _ _ _ _ _ _ (T9.setTop (mkF m 107 #[.val (.int p1), .val (.int p2), .val (.int p3), .val (.int p4), .val (.int p5), .val (.int p6), .val (.ref b1), .val (.ref b3), .val v6, .val v8, .val v10, .val (.int p2), .val (.int p3), .val (.int v12), .val (.int v16), .unset, .unset, .unset, .unset, .unset, .unset, .unset, .unset, .unset, .unset, .unset, .unset] [(.int (10 : Int32)), (.int p1)]))
  refine OutW.back (fun t k => XS.iushr X9.here hx rfl (hb hby at_107) rfl k) ?_
  show OutW _ _ _ _ _ _ _ (T9.setTop (mkF m 108 #[.val (.int p1), .val (.int p2), .val (.int p3), .val (.int p4), .val (.int p5), .val (.int p6), .val (.ref b1), .val (.ref b3), .val v6, .val v8, .val v10, .val (.int p2), .val (.int p3), .val (.int v12), .val (.int v16), .unset, .unset, .unset, .unset, .unset, .unset, .unset, .unset, .unset, .unset, .unset, .unset] [(.int ((p1.toUInt32 >>> ((10 : Int32) &&& 31).toUInt32).toInt32))]))
  refine OutW.back (fun t k => XS.iconst X9.here hx rfl (hb hby at_108) k) ?_
  show OutW _ _ _ _ _ _ _ (T9.setTop (mkF m 109 #[.val (.int p1), .val (.int p2), .val (.int p3), .val (.int p4), .val (.int p5), .val (.int p6), .val (.ref b1), .val (.ref b3), .val v6, .val v8, .val v10, .val (.int p2), .val (.int p3), .val (.int v12), .val (.int v16), .unset, .unset, .unset, .unset, .unset, .unset, .unset, .unset, .unset, .unset, .unset, .unset] [(.int (1 : Int32)), (.int ((p1.toUInt32 >>> ((10 : Int32) &&& 31).toUInt32).toInt32))]))
  refine OutW.back (fun t k => XS.iand X9.here hx rfl (hb hby at_109) rfl k) ?_
  show OutW _ _ _ _ _ _ _ (T9.setTop (mkF m 110 #[.val (.int p1), .val (.int p2), .val (.int p3), .val (.int p4), .val (.int p5), .val (.int p6), .val (.ref b1), .val (.ref b3), .val v6, .val v8, .val v10, .val (.int p2), .val (.int p3), .val (.int v12), .val (.int v16), .unset, .unset, .unset, .unset, .unset, .unset, .unset, .unset, .unset, .unset, .unset, .unset] [(.int (((p1.toUInt32 >>> ((10 : Int32) &&& 31).toUInt32).toInt32) &&& (1 : Int32)))]))
  obtain ⟨v20, hv_v20⟩ : ∃ z : Int32, z = (if (((p1.toUInt32 >>> ((10 : Int32) &&& 31).toUInt32).toInt32) &&& (1 : Int32)) = (0 : Int32) then p6 else v16) := ⟨_, rfl⟩
  have j21 : ∀ t, Steps p.tables e below (T9.setTop (mkF m 120 #[.val (.int p1), .val (.int p2), .val (.int p3), .val (.int p4), .val (.int p5), .val (.int p6), .val (.ref b1), .val (.ref b3), .val v6, .val v8, .val v10, .val (.int p2), .val (.int p3), .val (.int v12), .val (.int v16), .unset, .unset, .unset, .unset, .unset, .unset, .unset, .unset, .unset, .unset, .unset, .unset] [(.int v20)])) t → Steps p.tables e below (T9.setTop (mkF m 110 #[.val (.int p1), .val (.int p2), .val (.int p3), .val (.int p4), .val (.int p5), .val (.int p6), .val (.ref b1), .val (.ref b3), .val v6, .val v8, .val v10, .val (.int p2), .val (.int p3), .val (.int v12), .val (.int v16), .unset, .unset, .unset, .unset, .unset, .unset, .unset, .unset, .unset, .unset, .unset, .unset] [(.int (((p1.toUInt32 >>> ((10 : Int32) &&& 31).toUInt32).toInt32) &&& (1 : Int32)))])) t := by
    intro t k
    by_cases c110_22 : (((p1.toUInt32 >>> ((10 : Int32) &&& 31).toUInt32).toInt32) &&& (1 : Int32)) = (0 : Int32)
    · skip
      refine XS.ifYes X9.here hx rfl (pc0 := 110) (pc' := 118) rfl (hb hby at_110) rfl ((if0 _ _).trans (teq c110_22).1) (by decide) (by decide) ?_
      show Steps p.tables e below (T9.setTop (mkF m 118 #[.val (.int p1), .val (.int p2), .val (.int p3), .val (.int p4), .val (.int p5), .val (.int p6), .val (.ref b1), .val (.ref b3), .val v6, .val v8, .val v10, .val (.int p2), .val (.int p3), .val (.int v12), .val (.int v16), .unset, .unset, .unset, .unset, .unset, .unset, .unset, .unset, .unset, .unset, .unset, .unset] [])) t
      refine XS.iload X9.here hx rfl (hb hby at_118) rfl  ?_
      show Steps p.tables e below (T9.setTop (mkF m 120 #[.val (.int p1), .val (.int p2), .val (.int p3), .val (.int p4), .val (.int p5), .val (.int p6), .val (.ref b1), .val (.ref b3), .val v6, .val v8, .val v10, .val (.int p2), .val (.int p3), .val (.int v12), .val (.int v16), .unset, .unset, .unset, .unset, .unset, .unset, .unset, .unset, .unset, .unset, .unset, .unset] [(.int p6)])) t
      have q_v20 : v20 = p6 := by rw [hv_v20, if_pos c110_22]
      rw [q_v20] at k
      exact k
    · skip
      refine XS.ifNo X9.here hx rfl (hb hby at_110) rfl ((if0 _ _).trans (feq c110_22).1) ?_
      show Steps p.tables e below (T9.setTop (mkF m 113 #[.val (.int p1), .val (.int p2), .val (.int p3), .val (.int p4), .val (.int p5), .val (.int p6), .val (.ref b1), .val (.ref b3), .val v6, .val v8, .val v10, .val (.int p2), .val (.int p3), .val (.int v12), .val (.int v16), .unset, .unset, .unset, .unset, .unset, .unset, .unset, .unset, .unset, .unset, .unset, .unset] [])) t
      refine XS.iload X9.here hx rfl (hb hby at_113) rfl  ?_
      show Steps p.tables e below (T9.setTop (mkF m 115 #[.val (.int p1), .val (.int p2), .val (.int p3), .val (.int p4), .val (.int p5), .val (.int p6), .val (.ref b1), .val (.ref b3), .val v6, .val v8, .val v10, .val (.int p2), .val (.int p3), .val (.int v12), .val (.int v16), .unset, .unset, .unset, .unset, .unset, .unset, .unset, .unset, .unset, .unset, .unset, .unset] [(.int v16)])) t
      refine XS.goto X9.here hx rfl (pc0 := 115) (pc' := 120) rfl (hb hby at_115) (by decide) (by decide) ?_
      show Steps p.tables e below (T9.setTop (mkF m 120 #[.val (.int p1), .val (.int p2), .val (.int p3), .val (.int p4), .val (.int p5), .val (.int p6), .val (.ref b1), .val (.ref b3), .val v6, .val v8, .val v10, .val (.int p2), .val (.int p3), .val (.int v12), .val (.int v16), .unset, .unset, .unset, .unset, .unset, .unset, .unset, .unset, .unset, .unset, .unset, .unset] [(.int v16)])) t
      have q_v20 : v20 = v16 := by rw [hv_v20, if_neg c110_22]
      rw [q_v20] at k
      exact k
  refine OutW.back j21 ?_
  show OutW _ _ _ _ _ _ _ (T9.setTop (mkF m 120 #[.val (.int p1), .val (.int p2), .val (.int p3), .val (.int p4), .val (.int p5), .val (.int p6), .val (.ref b1), .val (.ref b3), .val v6, .val v8, .val v10, .val (.int p2), .val (.int p3), .val (.int v12), .val (.int v16), .unset, .unset, .unset, .unset, .unset, .unset, .unset, .unset, .unset, .unset, .unset, .unset] [(.int v20)]))
  refine OutW.back (fun t k => XS.istore X9.here hx rfl (hb hby at_120) rfl (l' := #[.val (.int p1), .val (.int p2), .val (.int p3), .val (.int p4), .val (.int p5), .val (.int p6), .val (.ref b1), .val (.ref b3), .val v6, .val v8, .val v10, .val (.int p2), .val (.int p3), .val (.int v12), .val (.int v16), .val (.int v20), .unset, .unset, .unset, .unset, .unset, .unset, .unset, .unset, .unset, .unset, .unset]) rfl k) ?_
  show OutW _ _ _ _ _ _ _ (T9.setTop (mkF m 122 #[.val (.int p1), .val (.int p2), .val (.int p3), .val (.int p4), .val (.int p5), .val (.int p6), .val (.ref b1), .val (.ref b3), .val v6, .val v8, .val v10, .val (.int p2), .val (.int p3), .val (.int v12), .val (.int v16), .val (.int v20), .unset, .unset, .unset, .unset, .unset, .unset, .unset, .unset, .unset, .unset, .unset] []))
  refine OutW.back (fun t k => XS.iloadN X9.here hx rfl (hb hby at_122) rfl  k) ?_
  show OutW _ _ _ _ _ _ _ (T9.setTop (mkF m 123 #[.val (.int p1), .val (.int p2), .val (.int p3), .val (.int p4), .val (.int p5), .val (.int p6), .val (.ref b1), .val (.ref b3), .val v6, .val v8, .val v10, .val (.int p2), .val (.int p3), .val (.int v12), .val (.int v16), .val (.int v20), .unset, .unset, .unset, .unset, .unset, .unset, .unset, .unset, .unset, .unset, .unset] [(.int p1)]))
  refine OutW.back (fun t k => XS.bipush X9.here hx rfl (hb hby at_123) k) ?_
  show OutW _ _ _ _ _ _ _ (T9.setTop (mkF m 125 #[.val (.int p1), .val (.int p2), .val (.int p3), .val (.int p4), .val (.int p5), .val (.int p6), .val (.ref b1), .val (.ref b3), .val v6, .val v8, .val v10, .val (.int p2), .val (.int p3), .val (.int v12), .val (.int v16), .val (.int v20), .unset, .unset, .unset, .unset, .unset, .unset, .unset, .unset, .unset, .unset, .unset] [(.int (11 : Int32)), (.int p1)]))
  refine OutW.back (fun t k => XS.iushr X9.here hx rfl (hb hby at_125) rfl k) ?_
  show OutW _ _ _ _ _ _ _ (T9.setTop (mkF m 126 #[.val (.int p1), .val (.int p2), .val (.int p3), .val (.int p4), .val (.int p5), .val (.int p6), .val (.ref b1), .val (.ref b3), .val v6, .val v8, .val v10, .val (.int p2), .val (.int p3), .val (.int v12), .val (.int v16), .val (.int v20), .unset, .unset, .unset, .unset, .unset, .unset, .unset, .unset, .unset, .unset, .unset] [(.int ((p1.toUInt32 >>> ((11 : Int32) &&& 31).toUInt32).toInt32))]))
  refine OutW.back (fun t k => XS.iconst X9.here hx rfl (hb hby at_126) k) ?_
  show OutW _ _ _ _ _ _ _ (T9.setTop (mkF m 127 #[.val (.int p1), .val (.int p2), .val (.int p3), .val (.int p4), .val (.int p5), .val (.int p6), .val (.ref b1), .val (.ref b3), .val v6, .val v8, .val v10, .val (.int p2), .val (.int p3), .val (.int v12), .val (.int v16), .val (.int v20), .unset, .unset, .unset, .unset, .unset, .unset, .unset, .unset, .unset, .unset, .unset] [(.int (1 : Int32)), (.int ((p1.toUInt32 >>> ((11 : Int32) &&& 31).toUInt32).toInt32))]))
  refine OutW.back (fun t k => XS.iand X9.here hx rfl (hb hby at_127) rfl k) ?_
  show OutW _ _ _ _ _ _ _ (T9.setTop (mkF m 128 #[.val (.int p1), .val (.int p2), .val (.int p3), .val (.int p4), .val (.int p5), .val (.int p6), .val (.ref b1), .val (.ref b3), .val v6, .val v8, .val v10, .val (.int p2), .val (.int p3), .val (.int v12), .val (.int v16), .val (.int v20), .unset, .unset, .unset, .unset, .unset, .unset, .unset, .unset, .unset, .unset, .unset] [(.int (((p1.toUInt32 >>> ((11 : Int32) &&& 31).toUInt32).toInt32) &&& (1 : Int32)))]))
  obtain ⟨v24, hv_v24⟩ : ∃ z : Int32, z = (if (((p1.toUInt32 >>> ((11 : Int32) &&& 31).toUInt32).toInt32) &&& (1 : Int32)) = (0 : Int32) then p5 else v12) := ⟨_, rfl⟩
  have j25 : ∀ t, Steps p.tables e below (T9.setTop (mkF m 138 #[.val (.int p1), .val (.int p2), .val (.int p3), .val (.int p4), .val (.int p5), .val (.int p6), .val (.ref b1), .val (.ref b3), .val v6, .val v8, .val v10, .val (.int p2), .val (.int p3), .val (.int v12), .val (.int v16), .val (.int v20), .unset, .unset, .unset, .unset, .unset, .unset, .unset, .unset, .unset, .unset, .unset] [(.int v24)])) t → Steps p.tables e below (T9.setTop (mkF m 128 #[.val (.int p1), .val (.int p2), .val (.int p3), .val (.int p4), .val (.int p5), .val (.int p6), .val (.ref b1), .val (.ref b3), .val v6, .val v8, .val v10, .val (.int p2), .val (.int p3), .val (.int v12), .val (.int v16), .val (.int v20), .unset, .unset, .unset, .unset, .unset, .unset, .unset, .unset, .unset, .unset, .unset] [(.int (((p1.toUInt32 >>> ((11 : Int32) &&& 31).toUInt32).toInt32) &&& (1 : Int32)))])) t := by
    intro t k
    by_cases c128_26 : (((p1.toUInt32 >>> ((11 : Int32) &&& 31).toUInt32).toInt32) &&& (1 : Int32)) = (0 : Int32)
    · skip
      refine XS.ifYes X9.here hx rfl (pc0 := 128) (pc' := 136) rfl (hb hby at_128) rfl ((if0 _ _).trans (teq c128_26).1) (by decide) (by decide) ?_
      show Steps p.tables e below (T9.setTop (mkF m 136 #[.val (.int p1), .val (.int p2), .val (.int p3), .val (.int p4), .val (.int p5), .val (.int p6), .val (.ref b1), .val (.ref b3), .val v6, .val v8, .val v10, .val (.int p2), .val (.int p3), .val (.int v12), .val (.int v16), .val (.int v20), .unset, .unset, .unset, .unset, .unset, .unset, .unset, .unset, .unset, .unset, .unset] [])) t
      refine XS.iload X9.here hx rfl (hb hby at_136) rfl  ?_
      show Steps p.tables e below (T9.setTop (mkF m 138 #[.val (.int p1), .val (.int p2), .val (.int p3), .val (.int p4), .val (.int p5), .val (.int p6), .val (.ref b1), .val (.ref b3), .val v6, .val v8, .val v10, .val (.int p2), .val (.int p3), .val (.int v12), .val (.int v16), .val (.int v20), .unset, .unset, .unset, .unset, .unset, .unset, .unset, .unset, .unset, .unset, .unset] [(.int p5)])) t
      have q_v24 : v24 = p5 := by rw [hv_v24, if_pos c128_26]
      rw [q_v24] at k
      exact k
    · skip
      refine XS.ifNo X9.here hx rfl (hb hby at_128) rfl ((if0 _ _).trans (feq c128_26).1) ?_
      show Steps p.tables e below (T9.setTop (mkF m 131 #[.val (.int p1), .val (.int p2), .val (.int p3), .val (.int p4), .val (.int p5), .val (.int p6), .val (.ref b1), .val (.ref b3), .val v6, .val v8, .val v10, .val (.int p2), .val (.int p3), .val (.int v12), .val (.int v16), .val (.int v20), .unset, .unset, .unset, .unset, .unset, .unset, .unset, .unset, .unset, .unset, .unset] [])) t
      refine XS.iload X9.here hx rfl (hb hby at_131) rfl  ?_
      show Steps p.tables e below (T9.setTop (mkF m 133 #[.val (.int p1), .val (.int p2), .val (.int p3), .val (.int p4), .val (.int p5), .val (.int p6), .val (.ref b1), .val (.ref b3), .val v6, .val v8, .val v10, .val (.int p2), .val (.int p3), .val (.int v12), .val (.int v16), .val (.int v20), .unset, .unset, .unset, .unset, .unset, .unset, .unset, .unset, .unset, .unset, .unset] [(.int v12)])) t
      refine XS.goto X9.here hx rfl (pc0 := 133) (pc' := 138) rfl (hb hby at_133) (by decide) (by decide) ?_
      show Steps p.tables e below (T9.setTop (mkF m 138 #[.val (.int p1), .val (.int p2), .val (.int p3), .val (.int p4), .val (.int p5), .val (.int p6), .val (.ref b1), .val (.ref b3), .val v6, .val v8, .val v10, .val (.int p2), .val (.int p3), .val (.int v12), .val (.int v16), .val (.int v20), .unset, .unset, .unset, .unset, .unset, .unset, .unset, .unset, .unset, .unset, .unset] [(.int v12)])) t
      have q_v24 : v24 = v12 := by rw [hv_v24, if_neg c128_26]
      rw [q_v24] at k
      exact k
  refine OutW.back j25 ?_
  show OutW _ _ _ _ _ _ _ (T9.setTop (mkF m 138 #[.val (.int p1), .val (.int p2), .val (.int p3), .val (.int p4), .val (.int p5), .val (.int p6), .val (.ref b1), .val (.ref b3), .val v6, .val v8, .val v10, .val (.int p2), .val (.int p3), .val (.int v12), .val (.int v16), .val (.int v20), .unset, .unset, .unset, .unset, .unset, .unset, .unset, .unset, .unset, .unset, .unset] [(.int v24)]))
  refine OutW.back (fun t k => XS.istore X9.here hx rfl (hb hby at_138) rfl (l' := #[.val (.int p1), .val (.int p2), .val (.int p3), .val (.int p4), .val (.int p5), .val (.int p6), .val (.ref b1), .val (.ref b3), .val v6, .val v8, .val v10, .val (.int p2), .val (.int p3), .val (.int v12), .val (.int v16), .val (.int v20), .val (.int v24), .unset, .unset, .unset, .unset, .unset, .unset, .unset, .unset, .unset, .unset]) rfl k) ?_
  show OutW _ _ _ _ _ _ _ (T9.setTop (mkF m 140 #[.val (.int p1), .val (.int p2), .val (.int p3), .val (.int p4), .val (.int p5), .val (.int p6), .val (.ref b1), .val (.ref b3), .val v6, .val v8, .val v10, .val (.int p2), .val (.int p3), .val (.int v12), .val (.int v16), .val (.int v20), .val (.int v24), .unset, .unset, .unset, .unset, .unset, .unset, .unset, .unset, .unset, .unset] []))
  refine OutW.back (fun t k => XS.iloadN X9.here hx rfl (hb hby at_140) rfl  k) ?_
  show OutW _ _ _ _ _ _ _ (T9.setTop (mkF m 141 #[.val (.int p1), .val (.int p2), .val (.int p3), .val (.int p4), .val (.int p5), .val (.int p6), .val (.ref b1), .val (.ref b3), .val v6, .val v8, .val v10, .val (.int p2), .val (.int p3), .val (.int v12), .val (.int v16), .val (.int v20), .val (.int v24), .unset, .unset, .unset, .unset, .unset, .unset, .unset, .unset, .unset, .unset] [(.int p1)]))
  refine OutW.back (fun t k => XS.iconst X9.here hx rfl (hb hby at_141) k) ?_
  show OutW _ _ _ _ _ _ _ (T9.setTop (mkF m 142 #[.val (.int p1), .val (.int p2), .val (.int p3), .val (.int p4), .val (.int p5), .val (.int p6), .val (.ref b1), .val (.ref b3), .val v6, .val v8, .val v10, .val (.int p2), .val (.int p3), .val (.int v12), .val (.int v16), .val (.int v20), .val (.int v24), .unset, .unset, .unset, .unset, .unset, .unset, .unset, .unset, .unset, .unset] [(.int (3 : Int32)), (.int p1)]))
  refine OutW.back (fun t k => XS.iand X9.here hx rfl (hb hby at_142) rfl k) ?_
  show OutW _ _ _ _ _ _ _ (T9.setTop (mkF m 143 #[.val (.int p1), .val (.int p2), .val (.int p3), .val (.int p4), .val (.int p5), .val (.int p6), .val (.ref b1), .val (.ref b3), .val v6, .val v8, .val v10, .val (.int p2), .val (.int p3), .val (.int v12), .val (.int v16), .val (.int v20), .val (.int v24), .unset, .unset, .unset, .unset, .unset, .unset, .unset, .unset, .unset, .unset] [(.int (p1 &&& (3 : Int32)))]))
  generalize hv_v27 : (p1 &&& (3 : Int32)) = v27
  refine OutW.back (fun t k => XS.istore X9.here hx rfl (hb hby at_143) rfl (l' := #[.val (.int p1), .val (.int p2), .val (.int p3), .val (.int p4), .val (.int p5), .val (.int p6), .val (.ref b1), .val (.ref b3), .val v6, .val v8, .val v10, .val (.int p2), .val (.int p3), .val (.int v12), .val (.int v16), .val (.int v20), .val (.int v24), .val (.int v27), .unset, .unset, .unset, .unset, .unset, .unset, .unset, .unset, .unset]) rfl k) ?_
  show OutW _ _ _ _ _ _ _ (T9.setTop (mkF m 145 #[.val (.int p1), .val (.int p2), .val (.int p3), .val (.int p4), .val (.int p5), .val (.int p6), .val (.ref b1), .val (.ref b3), .val v6, .val v8, .val v10, .val (.int p2), .val (.int p3), .val (.int v12), .val (.int v16), .val (.int v20), .val (.int v24), .val (.int v27), .unset, .unset, .unset, .unset, .unset, .unset, .unset, .unset, .unset] []))
  have sp28 : v27 = (0 : Int32) ∨ v27 = (1 : Int32) ∨ v27 = (2 : Int32) ∨ v27 = (3 : Int32) := own_four _ _ hv_v27
  rcases sp28 with rfl | rfl | rfl | rfl
  · skip
    show OutW _ _ _ _ _ _ _ (T9.setTop (mkF m 145 #[.val (.int p1), .val (.int p2), .val (.int p3), .val (.int p4), .val (.int p5), .val (.int p6), .val (.ref b1), .val (.ref b3), .val v6, .val v8, .val v10, .val (.int p2), .val (.int p3), .val (.int v12), .val (.int v16), .val (.int v20), .val (.int v24), .val (.int (0 : Int32)), .unset, .unset, .unset, .unset, .unset, .unset, .unset, .unset, .unset] []))
    obtain ⟨T29, h29, X29, e29, E29, A29, D29, -, st29⟩ := newO X9 hx hZ hown (hw _ (List.mem_of_getElem? (i := 17) rfl)) (hw _ (List.mem_of_getElem? (i := 18) rfl)) (hw _ (List.mem_of_getElem? (i := 19) rfl)) e9 (g := (mkF m 145 #[.val (.int p1), .val (.int p2), .val (.int p3), .val (.int p4), .val (.int p5), .val (.int p6), .val (.ref b1), .val (.ref b3), .val v6, .val v8, .val v10, .val (.int p2), .val (.int p3), .val (.int v12), .val (.int v16), .val (.int v20), .val (.int v24), .val (.int (0 : Int32)), .unset, .unset, .unset, .unset, .unset, .unset, .unset, .unset, .unset] [])) rfl (hb hby at_145) (by decide) (by decide)
    obtain ⟨b29, g29⟩ : ∃ z, z = h4.size := ⟨_, rfl⟩
    rw [← g29] at A29 D29 st29
    have ne_b1_b29 : b1 ≠ b29 := Nat.ne_of_lt (Nat.lt_of_lt_of_le E_b1.lt (Nat.le_of_eq g29.symm))
    have ne_b3_b29 : b3 ≠ b29 := Nat.ne_of_lt (Nat.lt_of_lt_of_le E_b3.lt (Nat.le_of_eq g29.symm))
    have g_b29 : n0 ≤ b29 := Nat.le_trans Z4 (Nat.le_of_eq g29.symm)
    have sz_b29 : h0.size ≤ b29 := Nat.le_trans K4.1 (Nat.le_of_eq g29.symm)
    have E_b1 := E_b1.ext E29
    have E_b3 := E_b3.ext E29
    have Z29 : n0 ≤ h29.size := Nat.le_trans Z4 E29.1
    have K29 := K4.ext E29
    have E_b29 := A29
    have F_lastPiece_b29 : Fld Z h29 b29 "com/example/fogline/fogline/rules/RecentMoves" "lastPiece" "Lcom/example/fogline/fogline/rules/Piece;" .null := D29 (Or.inl (hw _ (List.mem_of_getElem? (i := 30) rfl))) (ty := (.object "com/example/fogline/fogline/rules/Piece")) (by decide)
    have F_pieceBefore_b29 : Fld Z h29 b29 "com/example/fogline/fogline/rules/RecentMoves" "pieceBefore" "Lcom/example/fogline/fogline/rules/Piece;" .null := D29 (Or.inl (hw _ (List.mem_of_getElem? (i := 37) rfl))) (ty := (.object "com/example/fogline/fogline/rules/Piece")) (by decide)
    have F_lastFrom_b29 : Fld Z h29 b29 "com/example/fogline/fogline/rules/RecentMoves" "lastFrom" "I" (.int (0 : Int32)) := D29 (Or.inl (hw _ (List.mem_of_getElem? (i := 39) rfl))) (ty := .int) (by decide)
    have F_fromBefore_b29 : Fld Z h29 b29 "com/example/fogline/fogline/rules/RecentMoves" "fromBefore" "I" (.int (0 : Int32)) := D29 (Or.inl (hw _ (List.mem_of_getElem? (i := 41) rfl))) (ty := .int) (by decide)
    have F_lastTo_b29 : Fld Z h29 b29 "com/example/fogline/fogline/rules/RecentMoves" "lastTo" "I" (.int (0 : Int32)) := D29 (Or.inl (hw _ (List.mem_of_getElem? (i := 43) rfl))) (ty := .int) (by decide)
    have F_toBefore_b29 : Fld Z h29 b29 "com/example/fogline/fogline/rules/RecentMoves" "toBefore" "I" (.int (0 : Int32)) := D29 (Or.inl (hw _ (List.mem_of_getElem? (i := 45) rfl))) (ty := .int) (by decide)
    refine OutW.back st29 ?_
    show OutW _ _ _ _ _ _ _ (T29.setTop (mkF m 148 #[.val (.int p1), .val (.int p2), .val (.int p3), .val (.int p4), .val (.int p5), .val (.int p6), .val (.ref b1), .val (.ref b3), .val v6, .val v8, .val v10, .val (.int p2), .val (.int p3), .val (.int v12), .val (.int v16), .val (.int v20), .val (.int v24), .val (.int (0 : Int32)), .unset, .unset, .unset, .unset, .unset, .unset, .unset, .unset, .unset] [(.ref b29)]))
    refine OutW.back (fun t k => XS.dup X29.here hx rfl (hb hby at_148) rfl rfl k) ?_
    show OutW _ _ _ _ _ _ _ (T29.setTop (mkF m 149 #[.val (.int p1), .val (.int p2), .val (.int p3), .val (.int p4), .val (.int p5), .val (.int p6), .val (.ref b1), .val (.ref b3), .val v6, .val v8, .val v10, .val (.int p2), .val (.int p3), .val (.int v12), .val (.int v16), .val (.int v20), .val (.int v24), .val (.int (0 : Int32)), .unset, .unset, .unset, .unset, .unset, .unset, .unset, .unset, .unset] [(.ref b29), (.ref b29)]))
    obtain ⟨_, _, ⟨T30, L30, k30, n30⟩, -, X30, ⟨Lc30, hQ30, l30, y30, z30⟩, st30⟩ := X29.specialBack hx (y := (⟨"com/example/fogline/fogline/rules/RecentMoves", "<init>", "()V"⟩ : MethodName)) rfl hown (mvT hZ (hw _ (List.mem_of_getElem? (i := 20) rfl))) (mvT hZ (hw _ (List.mem_of_getElem? (i := 21) rfl))) (mvT hZ (hw _ (List.mem_of_getElem? (i := 22) rfl))) (by decide) (backOf (W := 1) (rm4 l Z a0 hw [] b29 h29 n0 Z29 E_b29) hZ (hw _ (List.mem_of_getElem? (i := 22) rfl)) (hw _ (List.mem_of_getElem? (i := 19) rfl)) (by decide) (by decide)) (g := (mkF m 149 #[.val (.int p1), .val (.int p2), .val (.int p3), .val (.int p4), .val (.int p5), .val (.int p6), .val (.ref b1), .val (.ref b3), .val v6, .val v8, .val v10, .val (.int p2), .val (.int p3), .val (.int v12), .val (.int v16), .val (.int v20), .val (.int v24), .val (.int (0 : Int32)), .unset, .unset, .unset, .unset, .unset, .unset, .unset, .unset, .unset] [(.ref b29), (.ref b29)])) rfl (by rw [hml]; rfl) (Steps.refl _) (a := b29) (argsL := []) (rest := [(.ref b29)]) (lenOf pd_2 rfl) rfl (by show 2 * 0 + _ ≤ _; exact Nat.le_of_eq rfl) (hb hby at_149) (fun _ _ => ⟨rfl, e29, (by decide : 3 + 0 ≤ _), (by decide : 14 + 0 ≤ _)⟩)
    dsimp only [Pt.U, Pt.locs, Pt.cells, Pt.slots] at X30 l30 y30 z30 st30 hQ30
    subst l30 y30 z30
    obtain ⟨rfl, Nq30, e30⟩ := hQ30
    have N30 := Fr.app N9 Nq30
    refine OutW.via st30 ?_
    show OutW _ _ _ _ _ _ _ (T30.setTop (mkF m 152 #[.val (.int p1), .val (.int p2), .val (.int p3), .val (.int p4), .val (.int p5), .val (.int p6), .val (.ref b1), .val (.ref b3), .val v6, .val v8, .val v10, .val (.int p2), .val (.int p3), .val (.int v12), .val (.int v16), .val (.int v20), .val (.int v24), .val (.int (0 : Int32)), .unset, .unset, .unset, .unset, .unset, .unset, .unset, .unset, .unset] [(.ref b29)]))
    refine OutW.back (fun t k => XS.astore X30.here hx rfl (hb hby at_152) rfl rfl (l' := #[.val (.int p1), .val (.int p2), .val (.int p3), .val (.int p4), .val (.int p5), .val (.int p6), .val (.ref b1), .val (.ref b3), .val v6, .val v8, .val v10, .val (.int p2), .val (.int p3), .val (.int v12), .val (.int v16), .val (.int v20), .val (.int v24), .val (.int (0 : Int32)), .val (.ref b29), .unset, .unset, .unset, .unset, .unset, .unset, .unset, .unset]) rfl k) ?_
    show OutW _ _ _ _ _ _ _ (T30.setTop (mkF m 154 #[.val (.int p1), .val (.int p2), .val (.int p3), .val (.int p4), .val (.int p5), .val (.int p6), .val (.ref b1), .val (.ref b3), .val v6, .val v8, .val v10, .val (.int p2), .val (.int p3), .val (.int v12), .val (.int v16), .val (.int v20), .val (.int v24), .val (.int (0 : Int32)), .val (.ref b29), .unset, .unset, .unset, .unset, .unset, .unset, .unset, .unset] []))
    refine OutW.back (fun t k => XS.iload X30.here hx rfl (hb hby at_154) rfl  k) ?_
    show OutW _ _ _ _ _ _ _ (T30.setTop (mkF m 156 #[.val (.int p1), .val (.int p2), .val (.int p3), .val (.int p4), .val (.int p5), .val (.int p6), .val (.ref b1), .val (.ref b3), .val v6, .val v8, .val v10, .val (.int p2), .val (.int p3), .val (.int v12), .val (.int v16), .val (.int v20), .val (.int v24), .val (.int (0 : Int32)), .val (.ref b29), .unset, .unset, .unset, .unset, .unset, .unset, .unset, .unset] [(.int (0 : Int32))]))
    refine OutW.back (fun t k => XS.iconst X30.here hx rfl (hb hby at_156) k) ?_
    show OutW _ _ _ _ _ _ _ (T30.setTop (mkF m 157 #[.val (.int p1), .val (.int p2), .val (.int p3), .val (.int p4), .val (.int p5), .val (.int p6), .val (.ref b1), .val (.ref b3), .val v6, .val v8, .val v10, .val (.int p2), .val (.int p3), .val (.int v12), .val (.int v16), .val (.int v20), .val (.int v24), .val (.int (0 : Int32)), .val (.ref b29), .unset, .unset, .unset, .unset, .unset, .unset, .unset, .unset] [(.int (1 : Int32)), (.int (0 : Int32))]))
    refine OutW.back (fun t k => XS.icmpYes X30.here hx rfl (pc0 := 157) (pc' := 171) rfl (hb hby at_157) rfl (tlt (by decide : (0 : Int32) < (1 : Int32))).1 (by decide) (by decide) k) ?_
    show OutW _ _ _ _ _ _ _ (T30.setTop (mkF m 171 #[.val (.int p1), .val (.int p2), .val (.int p3), .val (.int p4), .val (.int p5), .val (.int p6), .val (.ref b1), .val (.ref b3), .val v6, .val v8, .val v10, .val (.int p2), .val (.int p3), .val (.int v12), .val (.int v16), .val (.int v20), .val (.int v24), .val (.int (0 : Int32)), .val (.ref b29), .unset, .unset, .unset, .unset, .unset, .unset, .unset, .unset] []))
    refine OutW.back (fun t k => XS.iload X30.here hx rfl (hb hby at_171) rfl  k) ?_
    show OutW _ _ _ _ _ _ _ (T30.setTop (mkF m 173 #[.val (.int p1), .val (.int p2), .val (.int p3), .val (.int p4), .val (.int p5), .val (.int p6), .val (.ref b1), .val (.ref b3), .val v6, .val v8, .val v10, .val (.int p2), .val (.int p3), .val (.int v12), .val (.int v16), .val (.int v20), .val (.int v24), .val (.int (0 : Int32)), .val (.ref b29), .unset, .unset, .unset, .unset, .unset, .unset, .unset, .unset] [(.int (0 : Int32))]))
    refine OutW.back (fun t k => XS.iconst X30.here hx rfl (hb hby at_173) k) ?_
    show OutW _ _ _ _ _ _ _ (T30.setTop (mkF m 174 #[.val (.int p1), .val (.int p2), .val (.int p3), .val (.int p4), .val (.int p5), .val (.int p6), .val (.ref b1), .val (.ref b3), .val v6, .val v8, .val v10, .val (.int p2), .val (.int p3), .val (.int v12), .val (.int v16), .val (.int v20), .val (.int v24), .val (.int (0 : Int32)), .val (.ref b29), .unset, .unset, .unset, .unset, .unset, .unset, .unset, .unset] [(.int (2 : Int32)), (.int (0 : Int32))]))
    refine OutW.back (fun t k => XS.icmpYes X30.here hx rfl (pc0 := 174) (pc' := 188) rfl (hb hby at_174) rfl (tlt (by decide : (0 : Int32) < (2 : Int32))).1 (by decide) (by decide) k) ?_
    show OutW _ _ _ _ _ _ _ (T30.setTop (mkF m 188 #[.val (.int p1), .val (.int p2), .val (.int p3), .val (.int p4), .val (.int p5), .val (.int p6), .val (.ref b1), .val (.ref b3), .val v6, .val v8, .val v10, .val (.int p2), .val (.int p3), .val (.int v12), .val (.int v16), .val (.int v20), .val (.int v24), .val (.int (0 : Int32)), .val (.ref b29), .unset, .unset, .unset, .unset, .unset, .unset, .unset, .unset] []))
    refine OutW.back (fun t k => XS.iload X30.here hx rfl (hb hby at_188) rfl  k) ?_
    show OutW _ _ _ _ _ _ _ (T30.setTop (mkF m 190 #[.val (.int p1), .val (.int p2), .val (.int p3), .val (.int p4), .val (.int p5), .val (.int p6), .val (.ref b1), .val (.ref b3), .val v6, .val v8, .val v10, .val (.int p2), .val (.int p3), .val (.int v12), .val (.int v16), .val (.int v20), .val (.int v24), .val (.int (0 : Int32)), .val (.ref b29), .unset, .unset, .unset, .unset, .unset, .unset, .unset, .unset] [(.int (0 : Int32))]))
    refine OutW.back (fun t k => XS.iconst X30.here hx rfl (hb hby at_190) k) ?_
    show OutW _ _ _ _ _ _ _ (T30.setTop (mkF m 191 #[.val (.int p1), .val (.int p2), .val (.int p3), .val (.int p4), .val (.int p5), .val (.int p6), .val (.ref b1), .val (.ref b3), .val v6, .val v8, .val v10, .val (.int p2), .val (.int p3), .val (.int v12), .val (.int v16), .val (.int v20), .val (.int v24), .val (.int (0 : Int32)), .val (.ref b29), .unset, .unset, .unset, .unset, .unset, .unset, .unset, .unset] [(.int (3 : Int32)), (.int (0 : Int32))]))
    refine OutW.back (fun t k => XS.icmpYes X30.here hx rfl (pc0 := 191) (pc' := 205) rfl (hb hby at_191) rfl (tlt (by decide : (0 : Int32) < (3 : Int32))).1 (by decide) (by decide) k) ?_
    show OutW _ _ _ _ _ _ _ (T30.setTop (mkF m 205 #[.val (.int p1), .val (.int p2), .val (.int p3), .val (.int p4), .val (.int p5), .val (.int p6), .val (.ref b1), .val (.ref b3), .val v6, .val v8, .val v10, .val (.int p2), .val (.int p3), .val (.int v12), .val (.int v16), .val (.int v20), .val (.int v24), .val (.int (0 : Int32)), .val (.ref b29), .unset, .unset, .unset, .unset, .unset, .unset, .unset, .unset] []))
    refine OutW.back (fun t k => XS.aload X30.here hx rfl (hb hby at_205) rfl rfl  k) ?_
    show OutW _ _ _ _ _ _ _ (T30.setTop (mkF m 207 #[.val (.int p1), .val (.int p2), .val (.int p3), .val (.int p4), .val (.int p5), .val (.int p6), .val (.ref b1), .val (.ref b3), .val v6, .val v8, .val v10, .val (.int p2), .val (.int p3), .val (.int v12), .val (.int v16), .val (.int v20), .val (.int v24), .val (.int (0 : Int32)), .val (.ref b29), .unset, .unset, .unset, .unset, .unset, .unset, .unset, .unset] [(.ref b29)]))
    obtain ⟨cq31, kq31, qa31, qb31, qc31⟩ := isOf hZ e30 E_b29
    obtain ⟨_, _, ⟨T31, L31, k31, n31⟩, -, X31, ⟨Lc31, hQ31, l31, y31, z31⟩, st31⟩ := X30.virtualBack hx (y := (⟨"com/example/fogline/fogline/rules/RecentMoves", "wentBack", "()Z"⟩ : MethodName)) (z := (⟨"com/example/fogline/fogline/rules/RecentMoves", "wentBack", "()Z"⟩ : MethodName)) hown (mvT hZ (hw _ (List.mem_of_getElem? (i := 24) rfl))) (mvT hZ (hw _ (List.mem_of_getElem? (i := 25) rfl))) (notFace_of_selects (args := #[]) (mvT hZ (hw _ (List.mem_of_getElem? (i := 27) rfl)))) (mvT hZ (hw _ (List.mem_of_getElem? (i := 27) rfl))) (mvT hZ (hw _ (List.mem_of_getElem? (i := 26) rfl))) (by decide) (backOf (W := 0) (rm5 l Z a0 hw [] b29 .null .null (0 : Int32) (0 : Int32) (0 : Int32) (0 : Int32) h29 n0 Z29 F_lastPiece_b29 F_pieceBefore_b29 F_lastFrom_b29 F_fromBefore_b29 F_lastTo_b29 F_toBefore_b29 rfl rfl) hZ (hw _ (List.mem_of_getElem? (i := 28) rfl)) (hw _ (List.mem_of_getElem? (i := 19) rfl)) (by decide) (by decide)) qa31 qc31 (g := (mkF m 207 #[.val (.int p1), .val (.int p2), .val (.int p3), .val (.int p4), .val (.int p5), .val (.int p6), .val (.ref b1), .val (.ref b3), .val v6, .val v8, .val v10, .val (.int p2), .val (.int p3), .val (.int v12), .val (.int v16), .val (.int v20), .val (.int v24), .val (.int (0 : Int32)), .val (.ref b29), .unset, .unset, .unset, .unset, .unset, .unset, .unset, .unset] [(.ref b29)])) rfl (by rw [hml]; rfl) (Steps.refl _) (argsL := []) (rest := []) (lenOf pd_3 rfl) rfl (by show 2 * 0 + _ ≤ _; exact Nat.le_of_eq rfl) (hb hby at_207) (fun _ _ => ⟨rfl, e30, (by decide : 3 + 0 ≤ _), (by decide : 14 + 0 ≤ _)⟩)
    dsimp only [Pt.U, Pt.locs, Pt.cells, Pt.slots] at X31 l31 y31 z31 st31 hQ31
    subst l31 y31 z31
    obtain ⟨rfl, Nq31, e31⟩ := hQ31
    have N31 := Fr.app N30 Nq31
    refine OutW.via st31 ?_
    show OutW _ _ _ _ _ _ _ (T31.setTop (mkF m 210 #[.val (.int p1), .val (.int p2), .val (.int p3), .val (.int p4), .val (.int p5), .val (.int p6), .val (.ref b1), .val (.ref b3), .val v6, .val v8, .val v10, .val (.int p2), .val (.int p3), .val (.int v12), .val (.int v16), .val (.int v20), .val (.int v24), .val (.int (0 : Int32)), .val (.ref b29), .unset, .unset, .unset, .unset, .unset, .unset, .unset, .unset] [(.int (wentF .null .null (0 : Int32) (0 : Int32) (0 : Int32) (0 : Int32)))]))
    generalize hv_v32 : (wentF .null .null (0 : Int32) (0 : Int32) (0 : Int32) (0 : Int32)) = v32
    refine OutW.back (fun t k => XS.istore X31.here hx rfl (hb hby at_210) rfl (l' := #[.val (.int p1), .val (.int p2), .val (.int p3), .val (.int p4), .val (.int p5), .val (.int p6), .val (.ref b1), .val (.ref b3), .val v6, .val v8, .val v10, .val (.int p2), .val (.int p3), .val (.int v12), .val (.int v16), .val (.int v20), .val (.int v24), .val (.int (0 : Int32)), .val (.ref b29), .val (.int v32), .unset, .unset, .unset, .unset, .unset, .unset, .unset]) rfl k) ?_
    show OutW _ _ _ _ _ _ _ (T31.setTop (mkF m 212 #[.val (.int p1), .val (.int p2), .val (.int p3), .val (.int p4), .val (.int p5), .val (.int p6), .val (.ref b1), .val (.ref b3), .val v6, .val v8, .val v10, .val (.int p2), .val (.int p3), .val (.int v12), .val (.int v16), .val (.int v20), .val (.int v24), .val (.int (0 : Int32)), .val (.ref b29), .val (.int v32), .unset, .unset, .unset, .unset, .unset, .unset, .unset] []))
    refine OutW.back (fun t k => XS.aconstNull X31.here hx rfl (hb hby at_212) k) ?_
    show OutW _ _ _ _ _ _ _ (T31.setTop (mkF m 213 #[.val (.int p1), .val (.int p2), .val (.int p3), .val (.int p4), .val (.int p5), .val (.int p6), .val (.ref b1), .val (.ref b3), .val v6, .val v8, .val v10, .val (.int p2), .val (.int p3), .val (.int v12), .val (.int v16), .val (.int v20), .val (.int v24), .val (.int (0 : Int32)), .val (.ref b29), .val (.int v32), .unset, .unset, .unset, .unset, .unset, .unset, .unset] [.null]))
    refine OutW.back (fun t k => XS.astore X31.here hx rfl (hb hby at_213) rfl rfl (l' := #[.val (.int p1), .val (.int p2), .val (.int p3), .val (.int p4), .val (.int p5), .val (.int p6), .val (.ref b1), .val (.ref b3), .val v6, .val v8, .val v10, .val (.int p2), .val (.int p3), .val (.int v12), .val (.int v16), .val (.int v20), .val (.int v24), .val (.int (0 : Int32)), .val (.ref b29), .val (.int v32), .val .null, .unset, .unset, .unset, .unset, .unset, .unset]) rfl k) ?_
    show OutW _ _ _ _ _ _ _ (T31.setTop (mkF m 215 #[.val (.int p1), .val (.int p2), .val (.int p3), .val (.int p4), .val (.int p5), .val (.int p6), .val (.ref b1), .val (.ref b3), .val v6, .val v8, .val v10, .val (.int p2), .val (.int p3), .val (.int v12), .val (.int v16), .val (.int v20), .val (.int v24), .val (.int (0 : Int32)), .val (.ref b29), .val (.int v32), .val .null, .unset, .unset, .unset, .unset, .unset, .unset] []))
    refine OutW.back (fun t k => XS.aconstNull X31.here hx rfl (hb hby at_215) k) ?_
    show OutW _ _ _ _ _ _ _ (T31.setTop (mkF m 216 #[.val (.int p1), .val (.int p2), .val (.int p3), .val (.int p4), .val (.int p5), .val (.int p6), .val (.ref b1), .val (.ref b3), .val v6, .val v8, .val v10, .val (.int p2), .val (.int p3), .val (.int v12), .val (.int v16), .val (.int v20), .val (.int v24), .val (.int (0 : Int32)), .val (.ref b29), .val (.int v32), .val .null, .unset, .unset, .unset, .unset, .unset, .unset] [.null]))
    refine OutW.back (fun t k => XS.astore X31.here hx rfl (hb hby at_216) rfl rfl (l' := #[.val (.int p1), .val (.int p2), .val (.int p3), .val (.int p4), .val (.int p5), .val (.int p6), .val (.ref b1), .val (.ref b3), .val v6, .val v8, .val v10, .val (.int p2), .val (.int p3), .val (.int v12), .val (.int v16), .val (.int v20), .val (.int v24), .val (.int (0 : Int32)), .val (.ref b29), .val (.int v32), .val .null, .val .null, .unset, .unset, .unset, .unset, .unset]) rfl k) ?_
    show OutW _ _ _ _ _ _ _ (T31.setTop (mkF m 218 #[.val (.int p1), .val (.int p2), .val (.int p3), .val (.int p4), .val (.int p5), .val (.int p6), .val (.ref b1), .val (.ref b3), .val v6, .val v8, .val v10, .val (.int p2), .val (.int p3), .val (.int v12), .val (.int v16), .val (.int v20), .val (.int v24), .val (.int (0 : Int32)), .val (.ref b29), .val (.int v32), .val .null, .val .null, .unset, .unset, .unset, .unset, .unset] []))
    refine OutW.back (fun t k => XS.iconst X31.here hx rfl (hb hby at_218) k) ?_
    show OutW _ _ _ _ _ _ _ (T31.setTop (mkF m 219 #[.val (.int p1), .val (.int p2), .val (.int p3), .val (.int p4), .val (.int p5), .val (.int p6), .val (.ref b1), .val (.ref b3), .val v6, .val v8, .val v10, .val (.int p2), .val (.int p3), .val (.int v12), .val (.int v16), .val (.int v20), .val (.int v24), .val (.int (0 : Int32)), .val (.ref b29), .val (.int v32), .val .null, .val .null, .unset, .unset, .unset, .unset, .unset] [(.int (0 : Int32))]))
    refine OutW.back (fun t k => XS.istore X31.here hx rfl (hb hby at_219) rfl (l' := #[.val (.int p1), .val (.int p2), .val (.int p3), .val (.int p4), .val (.int p5), .val (.int p6), .val (.ref b1), .val (.ref b3), .val v6, .val v8, .val v10, .val (.int p2), .val (.int p3), .val (.int v12), .val (.int v16), .val (.int v20), .val (.int v24), .val (.int (0 : Int32)), .val (.ref b29), .val (.int v32), .val .null, .val .null, .val (.int (0 : Int32)), .unset, .unset, .unset, .unset]) rfl k) ?_
    show OutW _ _ _ _ _ _ _ (T31.setTop (mkF m 221 #[.val (.int p1), .val (.int p2), .val (.int p3), .val (.int p4), .val (.int p5), .val (.int p6), .val (.ref b1), .val (.ref b3), .val v6, .val v8, .val v10, .val (.int p2), .val (.int p3), .val (.int v12), .val (.int v16), .val (.int v20), .val (.int v24), .val (.int (0 : Int32)), .val (.ref b29), .val (.int v32), .val .null, .val .null, .val (.int (0 : Int32)), .unset, .unset, .unset, .unset] []))
    refine OutW.back (fun t k => XS.iconst X31.here hx rfl (hb hby at_221) k) ?_
    show OutW _ _ _ _ _ _ _ (T31.setTop (mkF m 222 #[.val (.int p1), .val (.int p2), .val (.int p3), .val (.int p4), .val (.int p5), .val (.int p6), .val (.ref b1), .val (.ref b3), .val v6, .val v8, .val v10, .val (.int p2), .val (.int p3), .val (.int v12), .val (.int v16), .val (.int v20), .val (.int v24), .val (.int (0 : Int32)), .val (.ref b29), .val (.int v32), .val .null, .val .null, .val (.int (0 : Int32)), .unset, .unset, .unset, .unset] [(.int (0 : Int32))]))
    refine OutW.back (fun t k => XS.istore X31.here hx rfl (hb hby at_222) rfl (l' := #[.val (.int p1), .val (.int p2), .val (.int p3), .val (.int p4), .val (.int p5), .val (.int p6), .val (.ref b1), .val (.ref b3), .val v6, .val v8, .val v10, .val (.int p2), .val (.int p3), .val (.int v12), .val (.int v16), .val (.int v20), .val (.int v24), .val (.int (0 : Int32)), .val (.ref b29), .val (.int v32), .val .null, .val .null, .val (.int (0 : Int32)), .val (.int (0 : Int32)), .unset, .unset, .unset]) rfl k) ?_
    show OutW _ _ _ _ _ _ _ (T31.setTop (mkF m 224 #[.val (.int p1), .val (.int p2), .val (.int p3), .val (.int p4), .val (.int p5), .val (.int p6), .val (.ref b1), .val (.ref b3), .val v6, .val v8, .val v10, .val (.int p2), .val (.int p3), .val (.int v12), .val (.int v16), .val (.int v20), .val (.int v24), .val (.int (0 : Int32)), .val (.ref b29), .val (.int v32), .val .null, .val .null, .val (.int (0 : Int32)), .val (.int (0 : Int32)), .unset, .unset, .unset] []))
    refine OutW.back (fun t k => XS.iconst X31.here hx rfl (hb hby at_224) k) ?_
    show OutW _ _ _ _ _ _ _ (T31.setTop (mkF m 225 #[.val (.int p1), .val (.int p2), .val (.int p3), .val (.int p4), .val (.int p5), .val (.int p6), .val (.ref b1), .val (.ref b3), .val v6, .val v8, .val v10, .val (.int p2), .val (.int p3), .val (.int v12), .val (.int v16), .val (.int v20), .val (.int v24), .val (.int (0 : Int32)), .val (.ref b29), .val (.int v32), .val .null, .val .null, .val (.int (0 : Int32)), .val (.int (0 : Int32)), .unset, .unset, .unset] [(.int (0 : Int32))]))
    refine OutW.back (fun t k => XS.istore X31.here hx rfl (hb hby at_225) rfl (l' := #[.val (.int p1), .val (.int p2), .val (.int p3), .val (.int p4), .val (.int p5), .val (.int p6), .val (.ref b1), .val (.ref b3), .val v6, .val v8, .val v10, .val (.int p2), .val (.int p3), .val (.int v12), .val (.int v16), .val (.int v20), .val (.int v24), .val (.int (0 : Int32)), .val (.ref b29), .val (.int v32), .val .null, .val .null, .val (.int (0 : Int32)), .val (.int (0 : Int32)), .val (.int (0 : Int32)), .unset, .unset]) rfl k) ?_
    show OutW _ _ _ _ _ _ _ (T31.setTop (mkF m 227 #[.val (.int p1), .val (.int p2), .val (.int p3), .val (.int p4), .val (.int p5), .val (.int p6), .val (.ref b1), .val (.ref b3), .val v6, .val v8, .val v10, .val (.int p2), .val (.int p3), .val (.int v12), .val (.int v16), .val (.int v20), .val (.int v24), .val (.int (0 : Int32)), .val (.ref b29), .val (.int v32), .val .null, .val .null, .val (.int (0 : Int32)), .val (.int (0 : Int32)), .val (.int (0 : Int32)), .unset, .unset] []))
    refine OutW.back (fun t k => XS.iconst X31.here hx rfl (hb hby at_227) k) ?_
    show OutW _ _ _ _ _ _ _ (T31.setTop (mkF m 228 #[.val (.int p1), .val (.int p2), .val (.int p3), .val (.int p4), .val (.int p5), .val (.int p6), .val (.ref b1), .val (.ref b3), .val v6, .val v8, .val v10, .val (.int p2), .val (.int p3), .val (.int v12), .val (.int v16), .val (.int v20), .val (.int v24), .val (.int (0 : Int32)), .val (.ref b29), .val (.int v32), .val .null, .val .null, .val (.int (0 : Int32)), .val (.int (0 : Int32)), .val (.int (0 : Int32)), .unset, .unset] [(.int (0 : Int32))]))
    refine OutW.back (fun t k => XS.istore X31.here hx rfl (hb hby at_228) rfl (l' := #[.val (.int p1), .val (.int p2), .val (.int p3), .val (.int p4), .val (.int p5), .val (.int p6), .val (.ref b1), .val (.ref b3), .val v6, .val v8, .val v10, .val (.int p2), .val (.int p3), .val (.int v12), .val (.int v16), .val (.int v20), .val (.int v24), .val (.int (0 : Int32)), .val (.ref b29), .val (.int v32), .val .null, .val .null, .val (.int (0 : Int32)), .val (.int (0 : Int32)), .val (.int (0 : Int32)), .val (.int (0 : Int32)), .unset]) rfl k) ?_
    show OutW _ _ _ _ _ _ _ (T31.setTop (mkF m 230 #[.val (.int p1), .val (.int p2), .val (.int p3), .val (.int p4), .val (.int p5), .val (.int p6), .val (.ref b1), .val (.ref b3), .val v6, .val v8, .val v10, .val (.int p2), .val (.int p3), .val (.int v12), .val (.int v16), .val (.int v20), .val (.int v24), .val (.int (0 : Int32)), .val (.ref b29), .val (.int v32), .val .null, .val .null, .val (.int (0 : Int32)), .val (.int (0 : Int32)), .val (.int (0 : Int32)), .val (.int (0 : Int32)), .unset] []))
    refine OutW.back (fun t k => XS.iload X31.here hx rfl (hb hby at_230) rfl  k) ?_
    show OutW _ _ _ _ _ _ _ (T31.setTop (mkF m 232 #[.val (.int p1), .val (.int p2), .val (.int p3), .val (.int p4), .val (.int p5), .val (.int p6), .val (.ref b1), .val (.ref b3), .val v6, .val v8, .val v10, .val (.int p2), .val (.int p3), .val (.int v12), .val (.int v16), .val (.int v20), .val (.int v24), .val (.int (0 : Int32)), .val (.ref b29), .val (.int v32), .val .null, .val .null, .val (.int (0 : Int32)), .val (.int (0 : Int32)), .val (.int (0 : Int32)), .val (.int (0 : Int32)), .unset] [(.int (0 : Int32))]))
    refine OutW.back (fun t k => XS.iconst X31.here hx rfl (hb hby at_232) k) ?_
    show OutW _ _ _ _ _ _ _ (T31.setTop (mkF m 233 #[.val (.int p1), .val (.int p2), .val (.int p3), .val (.int p4), .val (.int p5), .val (.int p6), .val (.ref b1), .val (.ref b3), .val v6, .val v8, .val v10, .val (.int p2), .val (.int p3), .val (.int v12), .val (.int v16), .val (.int v20), .val (.int v24), .val (.int (0 : Int32)), .val (.ref b29), .val (.int v32), .val .null, .val .null, .val (.int (0 : Int32)), .val (.int (0 : Int32)), .val (.int (0 : Int32)), .val (.int (0 : Int32)), .unset] [(.int (1 : Int32)), (.int (0 : Int32))]))
    refine OutW.back (fun t k => XS.icmpYes X31.here hx rfl (pc0 := 233) (pc' := 251) rfl (hb hby at_233) rfl (feq (by decide : ¬ ((0 : Int32) = (1 : Int32)))).2 (by decide) (by decide) k) ?_
    show OutW _ _ _ _ _ _ _ (T31.setTop (mkF m 251 #[.val (.int p1), .val (.int p2), .val (.int p3), .val (.int p4), .val (.int p5), .val (.int p6), .val (.ref b1), .val (.ref b3), .val v6, .val v8, .val v10, .val (.int p2), .val (.int p3), .val (.int v12), .val (.int v16), .val (.int v20), .val (.int v24), .val (.int (0 : Int32)), .val (.ref b29), .val (.int v32), .val .null, .val .null, .val (.int (0 : Int32)), .val (.int (0 : Int32)), .val (.int (0 : Int32)), .val (.int (0 : Int32)), .unset] []))
    refine OutW.back (fun t k => XS.iload X31.here hx rfl (hb hby at_251) rfl  k) ?_
    show OutW _ _ _ _ _ _ _ (T31.setTop (mkF m 253 #[.val (.int p1), .val (.int p2), .val (.int p3), .val (.int p4), .val (.int p5), .val (.int p6), .val (.ref b1), .val (.ref b3), .val v6, .val v8, .val v10, .val (.int p2), .val (.int p3), .val (.int v12), .val (.int v16), .val (.int v20), .val (.int v24), .val (.int (0 : Int32)), .val (.ref b29), .val (.int v32), .val .null, .val .null, .val (.int (0 : Int32)), .val (.int (0 : Int32)), .val (.int (0 : Int32)), .val (.int (0 : Int32)), .unset] [(.int (0 : Int32))]))
    refine OutW.back (fun t k => XS.iconst X31.here hx rfl (hb hby at_253) k) ?_
    show OutW _ _ _ _ _ _ _ (T31.setTop (mkF m 254 #[.val (.int p1), .val (.int p2), .val (.int p3), .val (.int p4), .val (.int p5), .val (.int p6), .val (.ref b1), .val (.ref b3), .val v6, .val v8, .val v10, .val (.int p2), .val (.int p3), .val (.int v12), .val (.int v16), .val (.int v20), .val (.int v24), .val (.int (0 : Int32)), .val (.ref b29), .val (.int v32), .val .null, .val .null, .val (.int (0 : Int32)), .val (.int (0 : Int32)), .val (.int (0 : Int32)), .val (.int (0 : Int32)), .unset] [(.int (2 : Int32)), (.int (0 : Int32))]))
    refine OutW.back (fun t k => XS.icmpYes X31.here hx rfl (pc0 := 254) (pc' := 284) rfl (hb hby at_254) rfl (feq (by decide : ¬ ((0 : Int32) = (2 : Int32)))).2 (by decide) (by decide) k) ?_
    show OutW _ _ _ _ _ _ _ (T31.setTop (mkF m 284 #[.val (.int p1), .val (.int p2), .val (.int p3), .val (.int p4), .val (.int p5), .val (.int p6), .val (.ref b1), .val (.ref b3), .val v6, .val v8, .val v10, .val (.int p2), .val (.int p3), .val (.int v12), .val (.int v16), .val (.int v20), .val (.int v24), .val (.int (0 : Int32)), .val (.ref b29), .val (.int v32), .val .null, .val .null, .val (.int (0 : Int32)), .val (.int (0 : Int32)), .val (.int (0 : Int32)), .val (.int (0 : Int32)), .unset] []))
    refine OutW.back (fun t k => XS.iload X31.here hx rfl (hb hby at_284) rfl  k) ?_
    show OutW _ _ _ _ _ _ _ (T31.setTop (mkF m 286 #[.val (.int p1), .val (.int p2), .val (.int p3), .val (.int p4), .val (.int p5), .val (.int p6), .val (.ref b1), .val (.ref b3), .val v6, .val v8, .val v10, .val (.int p2), .val (.int p3), .val (.int v12), .val (.int v16), .val (.int v20), .val (.int v24), .val (.int (0 : Int32)), .val (.ref b29), .val (.int v32), .val .null, .val .null, .val (.int (0 : Int32)), .val (.int (0 : Int32)), .val (.int (0 : Int32)), .val (.int (0 : Int32)), .unset] [(.int (0 : Int32))]))
    refine OutW.back (fun t k => XS.iconst X31.here hx rfl (hb hby at_286) k) ?_
    show OutW _ _ _ _ _ _ _ (T31.setTop (mkF m 287 #[.val (.int p1), .val (.int p2), .val (.int p3), .val (.int p4), .val (.int p5), .val (.int p6), .val (.ref b1), .val (.ref b3), .val v6, .val v8, .val v10, .val (.int p2), .val (.int p3), .val (.int v12), .val (.int v16), .val (.int v20), .val (.int v24), .val (.int (0 : Int32)), .val (.ref b29), .val (.int v32), .val .null, .val .null, .val (.int (0 : Int32)), .val (.int (0 : Int32)), .val (.int (0 : Int32)), .val (.int (0 : Int32)), .unset] [(.int (3 : Int32)), (.int (0 : Int32))]))
    refine OutW.back (fun t k => XS.icmpYes X31.here hx rfl (pc0 := 287) (pc' := 314) rfl (hb hby at_287) rfl (feq (by decide : ¬ ((0 : Int32) = (3 : Int32)))).2 (by decide) (by decide) k) ?_
    show OutW _ _ _ _ _ _ _ (T31.setTop (mkF m 314 #[.val (.int p1), .val (.int p2), .val (.int p3), .val (.int p4), .val (.int p5), .val (.int p6), .val (.ref b1), .val (.ref b3), .val v6, .val v8, .val v10, .val (.int p2), .val (.int p3), .val (.int v12), .val (.int v16), .val (.int v20), .val (.int v24), .val (.int (0 : Int32)), .val (.ref b29), .val (.int v32), .val .null, .val .null, .val (.int (0 : Int32)), .val (.int (0 : Int32)), .val (.int (0 : Int32)), .val (.int (0 : Int32)), .unset] []))
    refine OutW.back (fun t k => XS.aload X31.here hx rfl (hb hby at_314) rfl rfl  k) ?_
    show OutW _ _ _ _ _ _ _ (T31.setTop (mkF m 316 #[.val (.int p1), .val (.int p2), .val (.int p3), .val (.int p4), .val (.int p5), .val (.int p6), .val (.ref b1), .val (.ref b3), .val v6, .val v8, .val v10, .val (.int p2), .val (.int p3), .val (.int v12), .val (.int v16), .val (.int v20), .val (.int v24), .val (.int (0 : Int32)), .val (.ref b29), .val (.int v32), .val .null, .val .null, .val (.int (0 : Int32)), .val (.int (0 : Int32)), .val (.int (0 : Int32)), .val (.int (0 : Int32)), .unset] [.null]))
    refine OutW.back (fun t k => XS.ifnullYes X31.here hx rfl (pc0 := 316) (pc' := 344) rfl (hb hby at_316) rfl (by decide) (by decide) k) ?_
    show OutW _ _ _ _ _ _ _ (T31.setTop (mkF m 344 #[.val (.int p1), .val (.int p2), .val (.int p3), .val (.int p4), .val (.int p5), .val (.int p6), .val (.ref b1), .val (.ref b3), .val v6, .val v8, .val v10, .val (.int p2), .val (.int p3), .val (.int v12), .val (.int v16), .val (.int v20), .val (.int v24), .val (.int (0 : Int32)), .val (.ref b29), .val (.int v32), .val .null, .val .null, .val (.int (0 : Int32)), .val (.int (0 : Int32)), .val (.int (0 : Int32)), .val (.int (0 : Int32)), .unset] []))
    refine OutW.back (fun t k => XS.iconst X31.here hx rfl (hb hby at_344) k) ?_
    show OutW _ _ _ _ _ _ _ (T31.setTop (mkF m 345 #[.val (.int p1), .val (.int p2), .val (.int p3), .val (.int p4), .val (.int p5), .val (.int p6), .val (.ref b1), .val (.ref b3), .val v6, .val v8, .val v10, .val (.int p2), .val (.int p3), .val (.int v12), .val (.int v16), .val (.int v20), .val (.int v24), .val (.int (0 : Int32)), .val (.ref b29), .val (.int v32), .val .null, .val .null, .val (.int (0 : Int32)), .val (.int (0 : Int32)), .val (.int (0 : Int32)), .val (.int (0 : Int32)), .unset] [(.int (0 : Int32))]))
    refine OutW.back (fun t k => XS.istore X31.here hx rfl (hb hby at_345) rfl (l' := #[.val (.int p1), .val (.int p2), .val (.int p3), .val (.int p4), .val (.int p5), .val (.int p6), .val (.ref b1), .val (.ref b3), .val v6, .val v8, .val v10, .val (.int p2), .val (.int p3), .val (.int v12), .val (.int v16), .val (.int v20), .val (.int v24), .val (.int (0 : Int32)), .val (.ref b29), .val (.int v32), .val .null, .val .null, .val (.int (0 : Int32)), .val (.int (0 : Int32)), .val (.int (0 : Int32)), .val (.int (0 : Int32)), .val (.int (0 : Int32))]) rfl k) ?_
    show OutW _ _ _ _ _ _ _ (T31.setTop (mkF m 347 #[.val (.int p1), .val (.int p2), .val (.int p3), .val (.int p4), .val (.int p5), .val (.int p6), .val (.ref b1), .val (.ref b3), .val v6, .val v8, .val v10, .val (.int p2), .val (.int p3), .val (.int v12), .val (.int v16), .val (.int v20), .val (.int v24), .val (.int (0 : Int32)), .val (.ref b29), .val (.int v32), .val .null, .val .null, .val (.int (0 : Int32)), .val (.int (0 : Int32)), .val (.int (0 : Int32)), .val (.int (0 : Int32)), .val (.int (0 : Int32))] []))
    refine OutW.back (fun t k => XS.iload X31.here hx rfl (hb hby at_347) rfl  k) ?_
    show OutW _ _ _ _ _ _ _ (T31.setTop (mkF m 349 #[.val (.int p1), .val (.int p2), .val (.int p3), .val (.int p4), .val (.int p5), .val (.int p6), .val (.ref b1), .val (.ref b3), .val v6, .val v8, .val v10, .val (.int p2), .val (.int p3), .val (.int v12), .val (.int v16), .val (.int v20), .val (.int v24), .val (.int (0 : Int32)), .val (.ref b29), .val (.int v32), .val .null, .val .null, .val (.int (0 : Int32)), .val (.int (0 : Int32)), .val (.int (0 : Int32)), .val (.int (0 : Int32)), .val (.int (0 : Int32))] [(.int v32)]))
    refine OutW.back (fun t k => XS.iload X31.here hx rfl (hb hby at_349) rfl  k) ?_
    show OutW _ _ _ _ _ _ _ (T31.setTop (mkF m 351 #[.val (.int p1), .val (.int p2), .val (.int p3), .val (.int p4), .val (.int p5), .val (.int p6), .val (.ref b1), .val (.ref b3), .val v6, .val v8, .val v10, .val (.int p2), .val (.int p3), .val (.int v12), .val (.int v16), .val (.int v20), .val (.int v24), .val (.int (0 : Int32)), .val (.ref b29), .val (.int v32), .val .null, .val .null, .val (.int (0 : Int32)), .val (.int (0 : Int32)), .val (.int (0 : Int32)), .val (.int (0 : Int32)), .val (.int (0 : Int32))] [(.int (0 : Int32)), (.int v32)]))
    obtain ⟨v34, hv_v34⟩ : ∃ z : Int32, z = (if v32 = (0 : Int32) then (1 : Int32) else (0 : Int32)) := ⟨_, rfl⟩
    have j35 : ∀ t, Steps p.tables e below (T31.setTop (mkF m 359 #[.val (.int p1), .val (.int p2), .val (.int p3), .val (.int p4), .val (.int p5), .val (.int p6), .val (.ref b1), .val (.ref b3), .val v6, .val v8, .val v10, .val (.int p2), .val (.int p3), .val (.int v12), .val (.int v16), .val (.int v20), .val (.int v24), .val (.int (0 : Int32)), .val (.ref b29), .val (.int v32), .val .null, .val .null, .val (.int (0 : Int32)), .val (.int (0 : Int32)), .val (.int (0 : Int32)), .val (.int (0 : Int32)), .val (.int (0 : Int32))] [(.int v34)])) t → Steps p.tables e below (T31.setTop (mkF m 351 #[.val (.int p1), .val (.int p2), .val (.int p3), .val (.int p4), .val (.int p5), .val (.int p6), .val (.ref b1), .val (.ref b3), .val v6, .val v8, .val v10, .val (.int p2), .val (.int p3), .val (.int v12), .val (.int v16), .val (.int v20), .val (.int v24), .val (.int (0 : Int32)), .val (.ref b29), .val (.int v32), .val .null, .val .null, .val (.int (0 : Int32)), .val (.int (0 : Int32)), .val (.int (0 : Int32)), .val (.int (0 : Int32)), .val (.int (0 : Int32))] [(.int (0 : Int32)), (.int v32)])) t := by
      intro t k
      by_cases c351_36 : v32 = (0 : Int32)
      · skip
        refine XS.icmpNo X31.here hx rfl (hb hby at_351) rfl (teq c351_36).2 ?_
        show Steps p.tables e below (T31.setTop (mkF m 354 #[.val (.int p1), .val (.int p2), .val (.int p3), .val (.int p4), .val (.int p5), .val (.int p6), .val (.ref b1), .val (.ref b3), .val v6, .val v8, .val v10, .val (.int p2), .val (.int p3), .val (.int v12), .val (.int v16), .val (.int v20), .val (.int v24), .val (.int (0 : Int32)), .val (.ref b29), .val (.int v32), .val .null, .val .null, .val (.int (0 : Int32)), .val (.int (0 : Int32)), .val (.int (0 : Int32)), .val (.int (0 : Int32)), .val (.int (0 : Int32))] [])) t
        refine XS.iconst X31.here hx rfl (hb hby at_354) ?_
        show Steps p.tables e below (T31.setTop (mkF m 355 #[.val (.int p1), .val (.int p2), .val (.int p3), .val (.int p4), .val (.int p5), .val (.int p6), .val (.ref b1), .val (.ref b3), .val v6, .val v8, .val v10, .val (.int p2), .val (.int p3), .val (.int v12), .val (.int v16), .val (.int v20), .val (.int v24), .val (.int (0 : Int32)), .val (.ref b29), .val (.int v32), .val .null, .val .null, .val (.int (0 : Int32)), .val (.int (0 : Int32)), .val (.int (0 : Int32)), .val (.int (0 : Int32)), .val (.int (0 : Int32))] [(.int (1 : Int32))])) t
        refine XS.goto X31.here hx rfl (pc0 := 355) (pc' := 359) rfl (hb hby at_355) (by decide) (by decide) ?_
        show Steps p.tables e below (T31.setTop (mkF m 359 #[.val (.int p1), .val (.int p2), .val (.int p3), .val (.int p4), .val (.int p5), .val (.int p6), .val (.ref b1), .val (.ref b3), .val v6, .val v8, .val v10, .val (.int p2), .val (.int p3), .val (.int v12), .val (.int v16), .val (.int v20), .val (.int v24), .val (.int (0 : Int32)), .val (.ref b29), .val (.int v32), .val .null, .val .null, .val (.int (0 : Int32)), .val (.int (0 : Int32)), .val (.int (0 : Int32)), .val (.int (0 : Int32)), .val (.int (0 : Int32))] [(.int (1 : Int32))])) t
        have q_v34 : v34 = (1 : Int32) := by rw [hv_v34, if_pos c351_36]
        rw [q_v34] at k
        exact k
      · skip
        refine XS.icmpYes X31.here hx rfl (pc0 := 351) (pc' := 358) rfl (hb hby at_351) rfl (feq c351_36).2 (by decide) (by decide) ?_
        show Steps p.tables e below (T31.setTop (mkF m 358 #[.val (.int p1), .val (.int p2), .val (.int p3), .val (.int p4), .val (.int p5), .val (.int p6), .val (.ref b1), .val (.ref b3), .val v6, .val v8, .val v10, .val (.int p2), .val (.int p3), .val (.int v12), .val (.int v16), .val (.int v20), .val (.int v24), .val (.int (0 : Int32)), .val (.ref b29), .val (.int v32), .val .null, .val .null, .val (.int (0 : Int32)), .val (.int (0 : Int32)), .val (.int (0 : Int32)), .val (.int (0 : Int32)), .val (.int (0 : Int32))] [])) t
        refine XS.iconst X31.here hx rfl (hb hby at_358) ?_
        show Steps p.tables e below (T31.setTop (mkF m 359 #[.val (.int p1), .val (.int p2), .val (.int p3), .val (.int p4), .val (.int p5), .val (.int p6), .val (.ref b1), .val (.ref b3), .val v6, .val v8, .val v10, .val (.int p2), .val (.int p3), .val (.int v12), .val (.int v16), .val (.int v20), .val (.int v24), .val (.int (0 : Int32)), .val (.ref b29), .val (.int v32), .val .null, .val .null, .val (.int (0 : Int32)), .val (.int (0 : Int32)), .val (.int (0 : Int32)), .val (.int (0 : Int32)), .val (.int (0 : Int32))] [(.int (0 : Int32))])) t
        have q_v34 : v34 = (0 : Int32) := by rw [hv_v34, if_neg c351_36]
        rw [q_v34] at k
        exact k
    refine OutW.back j35 ?_
    show OutW _ _ _ _ _ _ _ (T31.setTop (mkF m 359 #[.val (.int p1), .val (.int p2), .val (.int p3), .val (.int p4), .val (.int p5), .val (.int p6), .val (.ref b1), .val (.ref b3), .val v6, .val v8, .val v10, .val (.int p2), .val (.int p3), .val (.int v12), .val (.int v16), .val (.int v20), .val (.int v24), .val (.int (0 : Int32)), .val (.ref b29), .val (.int v32), .val .null, .val .null, .val (.int (0 : Int32)), .val (.int (0 : Int32)), .val (.int (0 : Int32)), .val (.int (0 : Int32)), .val (.int (0 : Int32))] [(.int v34)]))
    refine OutW.retN X31 hx (t := .boolean) (z' := 1) Bd.returns (by simp) hlk (hb hby at_359) ?hz (by decide) (by decide) ?_
    case hz =>
      have hfin : v34 = (1 : Int32) := by
        have q1 : v32 = (0 : Int32) := by rw [← hv_v32, own_went, if_pos rfl]
        rw [hv_v34, if_pos q1]
      rw [hfin]; rfl
    show Q0 Z p1 p2 p3 p4 p5 p6 h0 n0 _ T31.heap _
    rw [e31]
    exact ⟨rfl, N31⟩
  · skip
    show OutW _ _ _ _ _ _ _ (T9.setTop (mkF m 145 #[.val (.int p1), .val (.int p2), .val (.int p3), .val (.int p4), .val (.int p5), .val (.int p6), .val (.ref b1), .val (.ref b3), .val v6, .val v8, .val v10, .val (.int p2), .val (.int p3), .val (.int v12), .val (.int v16), .val (.int v20), .val (.int v24), .val (.int (1 : Int32)), .unset, .unset, .unset, .unset, .unset, .unset, .unset, .unset, .unset] []))
    obtain ⟨T37, h37, X37, e37, E37, A37, D37, -, st37⟩ := newO X9 hx hZ hown (hw _ (List.mem_of_getElem? (i := 17) rfl)) (hw _ (List.mem_of_getElem? (i := 18) rfl)) (hw _ (List.mem_of_getElem? (i := 19) rfl)) e9 (g := (mkF m 145 #[.val (.int p1), .val (.int p2), .val (.int p3), .val (.int p4), .val (.int p5), .val (.int p6), .val (.ref b1), .val (.ref b3), .val v6, .val v8, .val v10, .val (.int p2), .val (.int p3), .val (.int v12), .val (.int v16), .val (.int v20), .val (.int v24), .val (.int (1 : Int32)), .unset, .unset, .unset, .unset, .unset, .unset, .unset, .unset, .unset] [])) rfl (hb hby at_145) (by decide) (by decide)
    obtain ⟨b37, g37⟩ : ∃ z, z = h4.size := ⟨_, rfl⟩
    rw [← g37] at A37 D37 st37
    have ne_b1_b37 : b1 ≠ b37 := Nat.ne_of_lt (Nat.lt_of_lt_of_le E_b1.lt (Nat.le_of_eq g37.symm))
    have ne_b3_b37 : b3 ≠ b37 := Nat.ne_of_lt (Nat.lt_of_lt_of_le E_b3.lt (Nat.le_of_eq g37.symm))
    have g_b37 : n0 ≤ b37 := Nat.le_trans Z4 (Nat.le_of_eq g37.symm)
    have sz_b37 : h0.size ≤ b37 := Nat.le_trans K4.1 (Nat.le_of_eq g37.symm)
    have E_b1 := E_b1.ext E37
    have E_b3 := E_b3.ext E37
    have Z37 : n0 ≤ h37.size := Nat.le_trans Z4 E37.1
    have K37 := K4.ext E37
    have E_b37 := A37
    have F_lastPiece_b37 : Fld Z h37 b37 "com/example/fogline/fogline/rules/RecentMoves" "lastPiece" "Lcom/example/fogline/fogline/rules/Piece;" .null := D37 (Or.inl (hw _ (List.mem_of_getElem? (i := 30) rfl))) (ty := (.object "com/example/fogline/fogline/rules/Piece")) (by decide)
    have F_pieceBefore_b37 : Fld Z h37 b37 "com/example/fogline/fogline/rules/RecentMoves" "pieceBefore" "Lcom/example/fogline/fogline/rules/Piece;" .null := D37 (Or.inl (hw _ (List.mem_of_getElem? (i := 37) rfl))) (ty := (.object "com/example/fogline/fogline/rules/Piece")) (by decide)
    have F_lastFrom_b37 : Fld Z h37 b37 "com/example/fogline/fogline/rules/RecentMoves" "lastFrom" "I" (.int (0 : Int32)) := D37 (Or.inl (hw _ (List.mem_of_getElem? (i := 39) rfl))) (ty := .int) (by decide)
    have F_fromBefore_b37 : Fld Z h37 b37 "com/example/fogline/fogline/rules/RecentMoves" "fromBefore" "I" (.int (0 : Int32)) := D37 (Or.inl (hw _ (List.mem_of_getElem? (i := 41) rfl))) (ty := .int) (by decide)
    have F_lastTo_b37 : Fld Z h37 b37 "com/example/fogline/fogline/rules/RecentMoves" "lastTo" "I" (.int (0 : Int32)) := D37 (Or.inl (hw _ (List.mem_of_getElem? (i := 43) rfl))) (ty := .int) (by decide)
    have F_toBefore_b37 : Fld Z h37 b37 "com/example/fogline/fogline/rules/RecentMoves" "toBefore" "I" (.int (0 : Int32)) := D37 (Or.inl (hw _ (List.mem_of_getElem? (i := 45) rfl))) (ty := .int) (by decide)
    refine OutW.back st37 ?_
    show OutW _ _ _ _ _ _ _ (T37.setTop (mkF m 148 #[.val (.int p1), .val (.int p2), .val (.int p3), .val (.int p4), .val (.int p5), .val (.int p6), .val (.ref b1), .val (.ref b3), .val v6, .val v8, .val v10, .val (.int p2), .val (.int p3), .val (.int v12), .val (.int v16), .val (.int v20), .val (.int v24), .val (.int (1 : Int32)), .unset, .unset, .unset, .unset, .unset, .unset, .unset, .unset, .unset] [(.ref b37)]))
    refine OutW.back (fun t k => XS.dup X37.here hx rfl (hb hby at_148) rfl rfl k) ?_
    show OutW _ _ _ _ _ _ _ (T37.setTop (mkF m 149 #[.val (.int p1), .val (.int p2), .val (.int p3), .val (.int p4), .val (.int p5), .val (.int p6), .val (.ref b1), .val (.ref b3), .val v6, .val v8, .val v10, .val (.int p2), .val (.int p3), .val (.int v12), .val (.int v16), .val (.int v20), .val (.int v24), .val (.int (1 : Int32)), .unset, .unset, .unset, .unset, .unset, .unset, .unset, .unset, .unset] [(.ref b37), (.ref b37)]))
    obtain ⟨_, _, ⟨T38, L38, k38, n38⟩, -, X38, ⟨Lc38, hQ38, l38, y38, z38⟩, st38⟩ := X37.specialBack hx (y := (⟨"com/example/fogline/fogline/rules/RecentMoves", "<init>", "()V"⟩ : MethodName)) rfl hown (mvT hZ (hw _ (List.mem_of_getElem? (i := 20) rfl))) (mvT hZ (hw _ (List.mem_of_getElem? (i := 21) rfl))) (mvT hZ (hw _ (List.mem_of_getElem? (i := 22) rfl))) (by decide) (backOf (W := 1) (rm4 l Z a0 hw [] b37 h37 n0 Z37 E_b37) hZ (hw _ (List.mem_of_getElem? (i := 22) rfl)) (hw _ (List.mem_of_getElem? (i := 19) rfl)) (by decide) (by decide)) (g := (mkF m 149 #[.val (.int p1), .val (.int p2), .val (.int p3), .val (.int p4), .val (.int p5), .val (.int p6), .val (.ref b1), .val (.ref b3), .val v6, .val v8, .val v10, .val (.int p2), .val (.int p3), .val (.int v12), .val (.int v16), .val (.int v20), .val (.int v24), .val (.int (1 : Int32)), .unset, .unset, .unset, .unset, .unset, .unset, .unset, .unset, .unset] [(.ref b37), (.ref b37)])) rfl (by rw [hml]; rfl) (Steps.refl _) (a := b37) (argsL := []) (rest := [(.ref b37)]) (lenOf pd_2 rfl) rfl (by show 2 * 0 + _ ≤ _; exact Nat.le_of_eq rfl) (hb hby at_149) (fun _ _ => ⟨rfl, e37, (by decide : 3 + 0 ≤ _), (by decide : 14 + 0 ≤ _)⟩)
    dsimp only [Pt.U, Pt.locs, Pt.cells, Pt.slots] at X38 l38 y38 z38 st38 hQ38
    subst l38 y38 z38
    obtain ⟨rfl, Nq38, e38⟩ := hQ38
    have N38 := Fr.app N9 Nq38
    refine OutW.via st38 ?_
    show OutW _ _ _ _ _ _ _ (T38.setTop (mkF m 152 #[.val (.int p1), .val (.int p2), .val (.int p3), .val (.int p4), .val (.int p5), .val (.int p6), .val (.ref b1), .val (.ref b3), .val v6, .val v8, .val v10, .val (.int p2), .val (.int p3), .val (.int v12), .val (.int v16), .val (.int v20), .val (.int v24), .val (.int (1 : Int32)), .unset, .unset, .unset, .unset, .unset, .unset, .unset, .unset, .unset] [(.ref b37)]))
    refine OutW.back (fun t k => XS.astore X38.here hx rfl (hb hby at_152) rfl rfl (l' := #[.val (.int p1), .val (.int p2), .val (.int p3), .val (.int p4), .val (.int p5), .val (.int p6), .val (.ref b1), .val (.ref b3), .val v6, .val v8, .val v10, .val (.int p2), .val (.int p3), .val (.int v12), .val (.int v16), .val (.int v20), .val (.int v24), .val (.int (1 : Int32)), .val (.ref b37), .unset, .unset, .unset, .unset, .unset, .unset, .unset, .unset]) rfl k) ?_
    show OutW _ _ _ _ _ _ _ (T38.setTop (mkF m 154 #[.val (.int p1), .val (.int p2), .val (.int p3), .val (.int p4), .val (.int p5), .val (.int p6), .val (.ref b1), .val (.ref b3), .val v6, .val v8, .val v10, .val (.int p2), .val (.int p3), .val (.int v12), .val (.int v16), .val (.int v20), .val (.int v24), .val (.int (1 : Int32)), .val (.ref b37), .unset, .unset, .unset, .unset, .unset, .unset, .unset, .unset] []))
    refine OutW.back (fun t k => XS.iload X38.here hx rfl (hb hby at_154) rfl  k) ?_
    show OutW _ _ _ _ _ _ _ (T38.setTop (mkF m 156 #[.val (.int p1), .val (.int p2), .val (.int p3), .val (.int p4), .val (.int p5), .val (.int p6), .val (.ref b1), .val (.ref b3), .val v6, .val v8, .val v10, .val (.int p2), .val (.int p3), .val (.int v12), .val (.int v16), .val (.int v20), .val (.int v24), .val (.int (1 : Int32)), .val (.ref b37), .unset, .unset, .unset, .unset, .unset, .unset, .unset, .unset] [(.int (1 : Int32))]))
    refine OutW.back (fun t k => XS.iconst X38.here hx rfl (hb hby at_156) k) ?_
    show OutW _ _ _ _ _ _ _ (T38.setTop (mkF m 157 #[.val (.int p1), .val (.int p2), .val (.int p3), .val (.int p4), .val (.int p5), .val (.int p6), .val (.ref b1), .val (.ref b3), .val v6, .val v8, .val v10, .val (.int p2), .val (.int p3), .val (.int v12), .val (.int v16), .val (.int v20), .val (.int v24), .val (.int (1 : Int32)), .val (.ref b37), .unset, .unset, .unset, .unset, .unset, .unset, .unset, .unset] [(.int (1 : Int32)), (.int (1 : Int32))]))
    refine OutW.back (fun t k => XS.icmpNo X38.here hx rfl (hb hby at_157) rfl (flt (by decide : ¬ ((1 : Int32) < (1 : Int32)))).1 k) ?_
    show OutW _ _ _ _ _ _ _ (T38.setTop (mkF m 160 #[.val (.int p1), .val (.int p2), .val (.int p3), .val (.int p4), .val (.int p5), .val (.int p6), .val (.ref b1), .val (.ref b3), .val v6, .val v8, .val v10, .val (.int p2), .val (.int p3), .val (.int v12), .val (.int v16), .val (.int v20), .val (.int v24), .val (.int (1 : Int32)), .val (.ref b37), .unset, .unset, .unset, .unset, .unset, .unset, .unset, .unset] []))
    refine OutW.back (fun t k => XS.aload X38.here hx rfl (hb hby at_160) rfl rfl  k) ?_
    show OutW _ _ _ _ _ _ _ (T38.setTop (mkF m 162 #[.val (.int p1), .val (.int p2), .val (.int p3), .val (.int p4), .val (.int p5), .val (.int p6), .val (.ref b1), .val (.ref b3), .val v6, .val v8, .val v10, .val (.int p2), .val (.int p3), .val (.int v12), .val (.int v16), .val (.int v20), .val (.int v24), .val (.int (1 : Int32)), .val (.ref b37), .unset, .unset, .unset, .unset, .unset, .unset, .unset, .unset] [(.ref b37)]))
    refine OutW.back (fun t k => XS.aload X38.here hx rfl (hb hby at_162) rfl ir_v6  k) ?_
    show OutW _ _ _ _ _ _ _ (T38.setTop (mkF m 164 #[.val (.int p1), .val (.int p2), .val (.int p3), .val (.int p4), .val (.int p5), .val (.int p6), .val (.ref b1), .val (.ref b3), .val v6, .val v8, .val v10, .val (.int p2), .val (.int p3), .val (.int v12), .val (.int v16), .val (.int v20), .val (.int v24), .val (.int (1 : Int32)), .val (.ref b37), .unset, .unset, .unset, .unset, .unset, .unset, .unset, .unset] [v6, (.ref b37)]))
    refine OutW.back (fun t k => XS.iload X38.here hx rfl (hb hby at_164) rfl  k) ?_
    show OutW _ _ _ _ _ _ _ (T38.setTop (mkF m 166 #[.val (.int p1), .val (.int p2), .val (.int p3), .val (.int p4), .val (.int p5), .val (.int p6), .val (.ref b1), .val (.ref b3), .val v6, .val v8, .val v10, .val (.int p2), .val (.int p3), .val (.int v12), .val (.int v16), .val (.int v20), .val (.int v24), .val (.int (1 : Int32)), .val (.ref b37), .unset, .unset, .unset, .unset, .unset, .unset, .unset, .unset] [(.int p2), v6, (.ref b37)]))
    refine OutW.back (fun t k => XS.iload X38.here hx rfl (hb hby at_166) rfl  k) ?_
    show OutW _ _ _ _ _ _ _ (T38.setTop (mkF m 168 #[.val (.int p1), .val (.int p2), .val (.int p3), .val (.int p4), .val (.int p5), .val (.int p6), .val (.ref b1), .val (.ref b3), .val v6, .val v8, .val v10, .val (.int p2), .val (.int p3), .val (.int v12), .val (.int v16), .val (.int v20), .val (.int v24), .val (.int (1 : Int32)), .val (.ref b37), .unset, .unset, .unset, .unset, .unset, .unset, .unset, .unset] [(.int p3), (.int p2), v6, (.ref b37)]))
    obtain ⟨cq39, kq39, qa39, qb39, qc39⟩ := isOf hZ e38 E_b37
    obtain ⟨_, _, ⟨T39, L39, k39, n39⟩, -, X39, ⟨Lc39, hQ39, l39, y39, z39⟩, st39⟩ := X38.virtualBack hx (y := (⟨"com/example/fogline/fogline/rules/RecentMoves", "add", "(Lcom/example/fogline/fogline/rules/Piece;II)V"⟩ : MethodName)) (z := (⟨"com/example/fogline/fogline/rules/RecentMoves", "add", "(Lcom/example/fogline/fogline/rules/Piece;II)V"⟩ : MethodName)) hown (mvT hZ (hw _ (List.mem_of_getElem? (i := 31) rfl))) (mvT hZ (hw _ (List.mem_of_getElem? (i := 32) rfl))) (notFace_of_selects (args := #[]) (mvT hZ (hw _ (List.mem_of_getElem? (i := 34) rfl)))) (mvT hZ (hw _ (List.mem_of_getElem? (i := 34) rfl))) (mvT hZ (hw _ (List.mem_of_getElem? (i := 33) rfl))) (by decide) (backOf (W := 0) (rm6 l Z a0 hw [] b37 v6 p2 p3 .null .null (0 : Int32) (0 : Int32) (0 : Int32) (0 : Int32) h37 n0 Z37 E_b37 g_b37 ir_v6 F_lastPiece_b37 F_pieceBefore_b37 F_lastFrom_b37 F_fromBefore_b37 F_lastTo_b37 F_toBefore_b37 rfl) hZ (hw _ (List.mem_of_getElem? (i := 35) rfl)) (hw _ (List.mem_of_getElem? (i := 19) rfl)) (by decide) (by decide)) qa39 qc39 (g := (mkF m 168 #[.val (.int p1), .val (.int p2), .val (.int p3), .val (.int p4), .val (.int p5), .val (.int p6), .val (.ref b1), .val (.ref b3), .val v6, .val v8, .val v10, .val (.int p2), .val (.int p3), .val (.int v12), .val (.int v16), .val (.int v20), .val (.int v24), .val (.int (1 : Int32)), .val (.ref b37), .unset, .unset, .unset, .unset, .unset, .unset, .unset, .unset] [(.int p3), (.int p2), v6, (.ref b37)])) rfl (by rw [hml]; rfl) (Steps.refl _) (argsL := [v6, (.int p2), (.int p3)]) (rest := []) (lenOf pd_4 rfl) rfl (by show 2 * 0 + _ ≤ _; exact Nat.le_of_eq rfl) (hb hby at_168) (fun _ _ => ⟨rfl, e38, (by decide : 3 + 0 ≤ _), (by decide : 14 + 0 ≤ _)⟩)
    dsimp only [Pt.U, Pt.locs, Pt.cells, Pt.slots] at X39 l39 y39 z39 st39 hQ39
    subst l39 y39 z39
    obtain ⟨h39, eh39⟩ : ∃ z, z = T39.heap := ⟨_, rfl⟩
    rw [← eh39] at hQ39
    have e39 : T39.heap = h39 := eh39.symm
    obtain ⟨rfl, Nq39, Kq39, F_lastPiece_b37, F_pieceBefore_b37, F_lastFrom_b37, F_fromBefore_b37, F_lastTo_b37, F_toBefore_b37⟩ := hQ39
    have E_b1 := E_b1.keep Kq39
    have E_b3 := E_b3.keep Kq39
    have E_b37 := E_b37.keep Kq39
    have Z39 : n0 ≤ h39.size := Nat.le_trans Z37 Kq39.1
    have K39 := K37.trans Kq39 (allS (Or.inr sz_b37) all0)
    have N39 := Fr.app N38 Nq39
    refine OutW.via st39 ?_
    show OutW _ _ _ _ _ _ _ (T39.setTop (mkF m 171 #[.val (.int p1), .val (.int p2), .val (.int p3), .val (.int p4), .val (.int p5), .val (.int p6), .val (.ref b1), .val (.ref b3), .val v6, .val v8, .val v10, .val (.int p2), .val (.int p3), .val (.int v12), .val (.int v16), .val (.int v20), .val (.int v24), .val (.int (1 : Int32)), .val (.ref b37), .unset, .unset, .unset, .unset, .unset, .unset, .unset, .unset] []))
    refine OutW.back (fun t k => XS.iload X39.here hx rfl (hb hby at_171) rfl  k) ?_
    show OutW _ _ _ _ _ _ _ (T39.setTop (mkF m 173 #[.val (.int p1), .val (.int p2), .val (.int p3), .val (.int p4), .val (.int p5), .val (.int p6), .val (.ref b1), .val (.ref b3), .val v6, .val v8, .val v10, .val (.int p2), .val (.int p3), .val (.int v12), .val (.int v16), .val (.int v20), .val (.int v24), .val (.int (1 : Int32)), .val (.ref b37), .unset, .unset, .unset, .unset, .unset, .unset, .unset, .unset] [(.int (1 : Int32))]))
    refine OutW.back (fun t k => XS.iconst X39.here hx rfl (hb hby at_173) k) ?_
    show OutW _ _ _ _ _ _ _ (T39.setTop (mkF m 174 #[.val (.int p1), .val (.int p2), .val (.int p3), .val (.int p4), .val (.int p5), .val (.int p6), .val (.ref b1), .val (.ref b3), .val v6, .val v8, .val v10, .val (.int p2), .val (.int p3), .val (.int v12), .val (.int v16), .val (.int v20), .val (.int v24), .val (.int (1 : Int32)), .val (.ref b37), .unset, .unset, .unset, .unset, .unset, .unset, .unset, .unset] [(.int (2 : Int32)), (.int (1 : Int32))]))
    refine OutW.back (fun t k => XS.icmpYes X39.here hx rfl (pc0 := 174) (pc' := 188) rfl (hb hby at_174) rfl (tlt (by decide : (1 : Int32) < (2 : Int32))).1 (by decide) (by decide) k) ?_
    show OutW _ _ _ _ _ _ _ (T39.setTop (mkF m 188 #[.val (.int p1), .val (.int p2), .val (.int p3), .val (.int p4), .val (.int p5), .val (.int p6), .val (.ref b1), .val (.ref b3), .val v6, .val v8, .val v10, .val (.int p2), .val (.int p3), .val (.int v12), .val (.int v16), .val (.int v20), .val (.int v24), .val (.int (1 : Int32)), .val (.ref b37), .unset, .unset, .unset, .unset, .unset, .unset, .unset, .unset] []))
    refine OutW.back (fun t k => XS.iload X39.here hx rfl (hb hby at_188) rfl  k) ?_
    show OutW _ _ _ _ _ _ _ (T39.setTop (mkF m 190 #[.val (.int p1), .val (.int p2), .val (.int p3), .val (.int p4), .val (.int p5), .val (.int p6), .val (.ref b1), .val (.ref b3), .val v6, .val v8, .val v10, .val (.int p2), .val (.int p3), .val (.int v12), .val (.int v16), .val (.int v20), .val (.int v24), .val (.int (1 : Int32)), .val (.ref b37), .unset, .unset, .unset, .unset, .unset, .unset, .unset, .unset] [(.int (1 : Int32))]))
    refine OutW.back (fun t k => XS.iconst X39.here hx rfl (hb hby at_190) k) ?_
    show OutW _ _ _ _ _ _ _ (T39.setTop (mkF m 191 #[.val (.int p1), .val (.int p2), .val (.int p3), .val (.int p4), .val (.int p5), .val (.int p6), .val (.ref b1), .val (.ref b3), .val v6, .val v8, .val v10, .val (.int p2), .val (.int p3), .val (.int v12), .val (.int v16), .val (.int v20), .val (.int v24), .val (.int (1 : Int32)), .val (.ref b37), .unset, .unset, .unset, .unset, .unset, .unset, .unset, .unset] [(.int (3 : Int32)), (.int (1 : Int32))]))
    refine OutW.back (fun t k => XS.icmpYes X39.here hx rfl (pc0 := 191) (pc' := 205) rfl (hb hby at_191) rfl (tlt (by decide : (1 : Int32) < (3 : Int32))).1 (by decide) (by decide) k) ?_
    show OutW _ _ _ _ _ _ _ (T39.setTop (mkF m 205 #[.val (.int p1), .val (.int p2), .val (.int p3), .val (.int p4), .val (.int p5), .val (.int p6), .val (.ref b1), .val (.ref b3), .val v6, .val v8, .val v10, .val (.int p2), .val (.int p3), .val (.int v12), .val (.int v16), .val (.int v20), .val (.int v24), .val (.int (1 : Int32)), .val (.ref b37), .unset, .unset, .unset, .unset, .unset, .unset, .unset, .unset] []))
    refine OutW.back (fun t k => XS.aload X39.here hx rfl (hb hby at_205) rfl rfl  k) ?_
    show OutW _ _ _ _ _ _ _ (T39.setTop (mkF m 207 #[.val (.int p1), .val (.int p2), .val (.int p3), .val (.int p4), .val (.int p5), .val (.int p6), .val (.ref b1), .val (.ref b3), .val v6, .val v8, .val v10, .val (.int p2), .val (.int p3), .val (.int v12), .val (.int v16), .val (.int v20), .val (.int v24), .val (.int (1 : Int32)), .val (.ref b37), .unset, .unset, .unset, .unset, .unset, .unset, .unset, .unset] [(.ref b37)]))
    obtain ⟨cq40, kq40, qa40, qb40, qc40⟩ := isOf hZ e39 E_b37
    obtain ⟨_, _, ⟨T40, L40, k40, n40⟩, -, X40, ⟨Lc40, hQ40, l40, y40, z40⟩, st40⟩ := X39.virtualBack hx (y := (⟨"com/example/fogline/fogline/rules/RecentMoves", "wentBack", "()Z"⟩ : MethodName)) (z := (⟨"com/example/fogline/fogline/rules/RecentMoves", "wentBack", "()Z"⟩ : MethodName)) hown (mvT hZ (hw _ (List.mem_of_getElem? (i := 24) rfl))) (mvT hZ (hw _ (List.mem_of_getElem? (i := 25) rfl))) (notFace_of_selects (args := #[]) (mvT hZ (hw _ (List.mem_of_getElem? (i := 27) rfl)))) (mvT hZ (hw _ (List.mem_of_getElem? (i := 27) rfl))) (mvT hZ (hw _ (List.mem_of_getElem? (i := 26) rfl))) (by decide) (backOf (W := 0) (rm5 l Z a0 hw [] b37 v6 .null p2 (0 : Int32) p3 (0 : Int32) h39 n0 Z39 F_lastPiece_b37 F_pieceBefore_b37 F_lastFrom_b37 F_fromBefore_b37 F_lastTo_b37 F_toBefore_b37 ir_v6 rfl) hZ (hw _ (List.mem_of_getElem? (i := 28) rfl)) (hw _ (List.mem_of_getElem? (i := 19) rfl)) (by decide) (by decide)) qa40 qc40 (g := (mkF m 207 #[.val (.int p1), .val (.int p2), .val (.int p3), .val (.int p4), .val (.int p5), .val (.int p6), .val (.ref b1), .val (.ref b3), .val v6, .val v8, .val v10, .val (.int p2), .val (.int p3), .val (.int v12), .val (.int v16), .val (.int v20), .val (.int v24), .val (.int (1 : Int32)), .val (.ref b37), .unset, .unset, .unset, .unset, .unset, .unset, .unset, .unset] [(.ref b37)])) rfl (by rw [hml]; rfl) (Steps.refl _) (argsL := []) (rest := []) (lenOf pd_3 rfl) rfl (by show 2 * 0 + _ ≤ _; exact Nat.le_of_eq rfl) (hb hby at_207) (fun _ _ => ⟨rfl, e39, (by decide : 3 + 0 ≤ _), (by decide : 14 + 0 ≤ _)⟩)
    dsimp only [Pt.U, Pt.locs, Pt.cells, Pt.slots] at X40 l40 y40 z40 st40 hQ40
    subst l40 y40 z40
    obtain ⟨rfl, Nq40, e40⟩ := hQ40
    have N40 := Fr.app N39 Nq40
    refine OutW.via st40 ?_
    show OutW _ _ _ _ _ _ _ (T40.setTop (mkF m 210 #[.val (.int p1), .val (.int p2), .val (.int p3), .val (.int p4), .val (.int p5), .val (.int p6), .val (.ref b1), .val (.ref b3), .val v6, .val v8, .val v10, .val (.int p2), .val (.int p3), .val (.int v12), .val (.int v16), .val (.int v20), .val (.int v24), .val (.int (1 : Int32)), .val (.ref b37), .unset, .unset, .unset, .unset, .unset, .unset, .unset, .unset] [(.int (wentF v6 .null p2 (0 : Int32) p3 (0 : Int32)))]))
    generalize hv_v41 : (wentF v6 .null p2 (0 : Int32) p3 (0 : Int32)) = v41
    refine OutW.back (fun t k => XS.istore X40.here hx rfl (hb hby at_210) rfl (l' := #[.val (.int p1), .val (.int p2), .val (.int p3), .val (.int p4), .val (.int p5), .val (.int p6), .val (.ref b1), .val (.ref b3), .val v6, .val v8, .val v10, .val (.int p2), .val (.int p3), .val (.int v12), .val (.int v16), .val (.int v20), .val (.int v24), .val (.int (1 : Int32)), .val (.ref b37), .val (.int v41), .unset, .unset, .unset, .unset, .unset, .unset, .unset]) rfl k) ?_
    show OutW _ _ _ _ _ _ _ (T40.setTop (mkF m 212 #[.val (.int p1), .val (.int p2), .val (.int p3), .val (.int p4), .val (.int p5), .val (.int p6), .val (.ref b1), .val (.ref b3), .val v6, .val v8, .val v10, .val (.int p2), .val (.int p3), .val (.int v12), .val (.int v16), .val (.int v20), .val (.int v24), .val (.int (1 : Int32)), .val (.ref b37), .val (.int v41), .unset, .unset, .unset, .unset, .unset, .unset, .unset] []))
    refine OutW.back (fun t k => XS.aconstNull X40.here hx rfl (hb hby at_212) k) ?_
    show OutW _ _ _ _ _ _ _ (T40.setTop (mkF m 213 #[.val (.int p1), .val (.int p2), .val (.int p3), .val (.int p4), .val (.int p5), .val (.int p6), .val (.ref b1), .val (.ref b3), .val v6, .val v8, .val v10, .val (.int p2), .val (.int p3), .val (.int v12), .val (.int v16), .val (.int v20), .val (.int v24), .val (.int (1 : Int32)), .val (.ref b37), .val (.int v41), .unset, .unset, .unset, .unset, .unset, .unset, .unset] [.null]))
    refine OutW.back (fun t k => XS.astore X40.here hx rfl (hb hby at_213) rfl rfl (l' := #[.val (.int p1), .val (.int p2), .val (.int p3), .val (.int p4), .val (.int p5), .val (.int p6), .val (.ref b1), .val (.ref b3), .val v6, .val v8, .val v10, .val (.int p2), .val (.int p3), .val (.int v12), .val (.int v16), .val (.int v20), .val (.int v24), .val (.int (1 : Int32)), .val (.ref b37), .val (.int v41), .val .null, .unset, .unset, .unset, .unset, .unset, .unset]) rfl k) ?_
    show OutW _ _ _ _ _ _ _ (T40.setTop (mkF m 215 #[.val (.int p1), .val (.int p2), .val (.int p3), .val (.int p4), .val (.int p5), .val (.int p6), .val (.ref b1), .val (.ref b3), .val v6, .val v8, .val v10, .val (.int p2), .val (.int p3), .val (.int v12), .val (.int v16), .val (.int v20), .val (.int v24), .val (.int (1 : Int32)), .val (.ref b37), .val (.int v41), .val .null, .unset, .unset, .unset, .unset, .unset, .unset] []))
    refine OutW.back (fun t k => XS.aconstNull X40.here hx rfl (hb hby at_215) k) ?_
    show OutW _ _ _ _ _ _ _ (T40.setTop (mkF m 216 #[.val (.int p1), .val (.int p2), .val (.int p3), .val (.int p4), .val (.int p5), .val (.int p6), .val (.ref b1), .val (.ref b3), .val v6, .val v8, .val v10, .val (.int p2), .val (.int p3), .val (.int v12), .val (.int v16), .val (.int v20), .val (.int v24), .val (.int (1 : Int32)), .val (.ref b37), .val (.int v41), .val .null, .unset, .unset, .unset, .unset, .unset, .unset] [.null]))
    refine OutW.back (fun t k => XS.astore X40.here hx rfl (hb hby at_216) rfl rfl (l' := #[.val (.int p1), .val (.int p2), .val (.int p3), .val (.int p4), .val (.int p5), .val (.int p6), .val (.ref b1), .val (.ref b3), .val v6, .val v8, .val v10, .val (.int p2), .val (.int p3), .val (.int v12), .val (.int v16), .val (.int v20), .val (.int v24), .val (.int (1 : Int32)), .val (.ref b37), .val (.int v41), .val .null, .val .null, .unset, .unset, .unset, .unset, .unset]) rfl k) ?_
    show OutW _ _ _ _ _ _ _ (T40.setTop (mkF m 218 #[.val (.int p1), .val (.int p2), .val (.int p3), .val (.int p4), .val (.int p5), .val (.int p6), .val (.ref b1), .val (.ref b3), .val v6, .val v8, .val v10, .val (.int p2), .val (.int p3), .val (.int v12), .val (.int v16), .val (.int v20), .val (.int v24), .val (.int (1 : Int32)), .val (.ref b37), .val (.int v41), .val .null, .val .null, .unset, .unset, .unset, .unset, .unset] []))
    refine OutW.back (fun t k => XS.iconst X40.here hx rfl (hb hby at_218) k) ?_
    show OutW _ _ _ _ _ _ _ (T40.setTop (mkF m 219 #[.val (.int p1), .val (.int p2), .val (.int p3), .val (.int p4), .val (.int p5), .val (.int p6), .val (.ref b1), .val (.ref b3), .val v6, .val v8, .val v10, .val (.int p2), .val (.int p3), .val (.int v12), .val (.int v16), .val (.int v20), .val (.int v24), .val (.int (1 : Int32)), .val (.ref b37), .val (.int v41), .val .null, .val .null, .unset, .unset, .unset, .unset, .unset] [(.int (0 : Int32))]))
    refine OutW.back (fun t k => XS.istore X40.here hx rfl (hb hby at_219) rfl (l' := #[.val (.int p1), .val (.int p2), .val (.int p3), .val (.int p4), .val (.int p5), .val (.int p6), .val (.ref b1), .val (.ref b3), .val v6, .val v8, .val v10, .val (.int p2), .val (.int p3), .val (.int v12), .val (.int v16), .val (.int v20), .val (.int v24), .val (.int (1 : Int32)), .val (.ref b37), .val (.int v41), .val .null, .val .null, .val (.int (0 : Int32)), .unset, .unset, .unset, .unset]) rfl k) ?_
    show OutW _ _ _ _ _ _ _ (T40.setTop (mkF m 221 #[.val (.int p1), .val (.int p2), .val (.int p3), .val (.int p4), .val (.int p5), .val (.int p6), .val (.ref b1), .val (.ref b3), .val v6, .val v8, .val v10, .val (.int p2), .val (.int p3), .val (.int v12), .val (.int v16), .val (.int v20), .val (.int v24), .val (.int (1 : Int32)), .val (.ref b37), .val (.int v41), .val .null, .val .null, .val (.int (0 : Int32)), .unset, .unset, .unset, .unset] []))
    refine OutW.back (fun t k => XS.iconst X40.here hx rfl (hb hby at_221) k) ?_
    show OutW _ _ _ _ _ _ _ (T40.setTop (mkF m 222 #[.val (.int p1), .val (.int p2), .val (.int p3), .val (.int p4), .val (.int p5), .val (.int p6), .val (.ref b1), .val (.ref b3), .val v6, .val v8, .val v10, .val (.int p2), .val (.int p3), .val (.int v12), .val (.int v16), .val (.int v20), .val (.int v24), .val (.int (1 : Int32)), .val (.ref b37), .val (.int v41), .val .null, .val .null, .val (.int (0 : Int32)), .unset, .unset, .unset, .unset] [(.int (0 : Int32))]))
    refine OutW.back (fun t k => XS.istore X40.here hx rfl (hb hby at_222) rfl (l' := #[.val (.int p1), .val (.int p2), .val (.int p3), .val (.int p4), .val (.int p5), .val (.int p6), .val (.ref b1), .val (.ref b3), .val v6, .val v8, .val v10, .val (.int p2), .val (.int p3), .val (.int v12), .val (.int v16), .val (.int v20), .val (.int v24), .val (.int (1 : Int32)), .val (.ref b37), .val (.int v41), .val .null, .val .null, .val (.int (0 : Int32)), .val (.int (0 : Int32)), .unset, .unset, .unset]) rfl k) ?_
    show OutW _ _ _ _ _ _ _ (T40.setTop (mkF m 224 #[.val (.int p1), .val (.int p2), .val (.int p3), .val (.int p4), .val (.int p5), .val (.int p6), .val (.ref b1), .val (.ref b3), .val v6, .val v8, .val v10, .val (.int p2), .val (.int p3), .val (.int v12), .val (.int v16), .val (.int v20), .val (.int v24), .val (.int (1 : Int32)), .val (.ref b37), .val (.int v41), .val .null, .val .null, .val (.int (0 : Int32)), .val (.int (0 : Int32)), .unset, .unset, .unset] []))
    refine OutW.back (fun t k => XS.iconst X40.here hx rfl (hb hby at_224) k) ?_
    show OutW _ _ _ _ _ _ _ (T40.setTop (mkF m 225 #[.val (.int p1), .val (.int p2), .val (.int p3), .val (.int p4), .val (.int p5), .val (.int p6), .val (.ref b1), .val (.ref b3), .val v6, .val v8, .val v10, .val (.int p2), .val (.int p3), .val (.int v12), .val (.int v16), .val (.int v20), .val (.int v24), .val (.int (1 : Int32)), .val (.ref b37), .val (.int v41), .val .null, .val .null, .val (.int (0 : Int32)), .val (.int (0 : Int32)), .unset, .unset, .unset] [(.int (0 : Int32))]))
    refine OutW.back (fun t k => XS.istore X40.here hx rfl (hb hby at_225) rfl (l' := #[.val (.int p1), .val (.int p2), .val (.int p3), .val (.int p4), .val (.int p5), .val (.int p6), .val (.ref b1), .val (.ref b3), .val v6, .val v8, .val v10, .val (.int p2), .val (.int p3), .val (.int v12), .val (.int v16), .val (.int v20), .val (.int v24), .val (.int (1 : Int32)), .val (.ref b37), .val (.int v41), .val .null, .val .null, .val (.int (0 : Int32)), .val (.int (0 : Int32)), .val (.int (0 : Int32)), .unset, .unset]) rfl k) ?_
    show OutW _ _ _ _ _ _ _ (T40.setTop (mkF m 227 #[.val (.int p1), .val (.int p2), .val (.int p3), .val (.int p4), .val (.int p5), .val (.int p6), .val (.ref b1), .val (.ref b3), .val v6, .val v8, .val v10, .val (.int p2), .val (.int p3), .val (.int v12), .val (.int v16), .val (.int v20), .val (.int v24), .val (.int (1 : Int32)), .val (.ref b37), .val (.int v41), .val .null, .val .null, .val (.int (0 : Int32)), .val (.int (0 : Int32)), .val (.int (0 : Int32)), .unset, .unset] []))
    refine OutW.back (fun t k => XS.iconst X40.here hx rfl (hb hby at_227) k) ?_
    show OutW _ _ _ _ _ _ _ (T40.setTop (mkF m 228 #[.val (.int p1), .val (.int p2), .val (.int p3), .val (.int p4), .val (.int p5), .val (.int p6), .val (.ref b1), .val (.ref b3), .val v6, .val v8, .val v10, .val (.int p2), .val (.int p3), .val (.int v12), .val (.int v16), .val (.int v20), .val (.int v24), .val (.int (1 : Int32)), .val (.ref b37), .val (.int v41), .val .null, .val .null, .val (.int (0 : Int32)), .val (.int (0 : Int32)), .val (.int (0 : Int32)), .unset, .unset] [(.int (0 : Int32))]))
    refine OutW.back (fun t k => XS.istore X40.here hx rfl (hb hby at_228) rfl (l' := #[.val (.int p1), .val (.int p2), .val (.int p3), .val (.int p4), .val (.int p5), .val (.int p6), .val (.ref b1), .val (.ref b3), .val v6, .val v8, .val v10, .val (.int p2), .val (.int p3), .val (.int v12), .val (.int v16), .val (.int v20), .val (.int v24), .val (.int (1 : Int32)), .val (.ref b37), .val (.int v41), .val .null, .val .null, .val (.int (0 : Int32)), .val (.int (0 : Int32)), .val (.int (0 : Int32)), .val (.int (0 : Int32)), .unset]) rfl k) ?_
    show OutW _ _ _ _ _ _ _ (T40.setTop (mkF m 230 #[.val (.int p1), .val (.int p2), .val (.int p3), .val (.int p4), .val (.int p5), .val (.int p6), .val (.ref b1), .val (.ref b3), .val v6, .val v8, .val v10, .val (.int p2), .val (.int p3), .val (.int v12), .val (.int v16), .val (.int v20), .val (.int v24), .val (.int (1 : Int32)), .val (.ref b37), .val (.int v41), .val .null, .val .null, .val (.int (0 : Int32)), .val (.int (0 : Int32)), .val (.int (0 : Int32)), .val (.int (0 : Int32)), .unset] []))
    refine OutW.back (fun t k => XS.iload X40.here hx rfl (hb hby at_230) rfl  k) ?_
    show OutW _ _ _ _ _ _ _ (T40.setTop (mkF m 232 #[.val (.int p1), .val (.int p2), .val (.int p3), .val (.int p4), .val (.int p5), .val (.int p6), .val (.ref b1), .val (.ref b3), .val v6, .val v8, .val v10, .val (.int p2), .val (.int p3), .val (.int v12), .val (.int v16), .val (.int v20), .val (.int v24), .val (.int (1 : Int32)), .val (.ref b37), .val (.int v41), .val .null, .val .null, .val (.int (0 : Int32)), .val (.int (0 : Int32)), .val (.int (0 : Int32)), .val (.int (0 : Int32)), .unset] [(.int (1 : Int32))]))
    refine OutW.back (fun t k => XS.iconst X40.here hx rfl (hb hby at_232) k) ?_
    show OutW _ _ _ _ _ _ _ (T40.setTop (mkF m 233 #[.val (.int p1), .val (.int p2), .val (.int p3), .val (.int p4), .val (.int p5), .val (.int p6), .val (.ref b1), .val (.ref b3), .val v6, .val v8, .val v10, .val (.int p2), .val (.int p3), .val (.int v12), .val (.int v16), .val (.int v20), .val (.int v24), .val (.int (1 : Int32)), .val (.ref b37), .val (.int v41), .val .null, .val .null, .val (.int (0 : Int32)), .val (.int (0 : Int32)), .val (.int (0 : Int32)), .val (.int (0 : Int32)), .unset] [(.int (1 : Int32)), (.int (1 : Int32))]))
    refine OutW.back (fun t k => XS.icmpNo X40.here hx rfl (hb hby at_233) rfl (teq (by decide : (1 : Int32) = (1 : Int32))).2 k) ?_
    show OutW _ _ _ _ _ _ _ (T40.setTop (mkF m 236 #[.val (.int p1), .val (.int p2), .val (.int p3), .val (.int p4), .val (.int p5), .val (.int p6), .val (.ref b1), .val (.ref b3), .val v6, .val v8, .val v10, .val (.int p2), .val (.int p3), .val (.int v12), .val (.int v16), .val (.int v20), .val (.int v24), .val (.int (1 : Int32)), .val (.ref b37), .val (.int v41), .val .null, .val .null, .val (.int (0 : Int32)), .val (.int (0 : Int32)), .val (.int (0 : Int32)), .val (.int (0 : Int32)), .unset] []))
    refine OutW.back (fun t k => XS.aload X40.here hx rfl (hb hby at_236) rfl ir_v6  k) ?_
    show OutW _ _ _ _ _ _ _ (T40.setTop (mkF m 238 #[.val (.int p1), .val (.int p2), .val (.int p3), .val (.int p4), .val (.int p5), .val (.int p6), .val (.ref b1), .val (.ref b3), .val v6, .val v8, .val v10, .val (.int p2), .val (.int p3), .val (.int v12), .val (.int v16), .val (.int v20), .val (.int v24), .val (.int (1 : Int32)), .val (.ref b37), .val (.int v41), .val .null, .val .null, .val (.int (0 : Int32)), .val (.int (0 : Int32)), .val (.int (0 : Int32)), .val (.int (0 : Int32)), .unset] [v6]))
    refine OutW.back (fun t k => XS.astore X40.here hx rfl (hb hby at_238) rfl ir_v6 (l' := #[.val (.int p1), .val (.int p2), .val (.int p3), .val (.int p4), .val (.int p5), .val (.int p6), .val (.ref b1), .val (.ref b3), .val v6, .val v8, .val v10, .val (.int p2), .val (.int p3), .val (.int v12), .val (.int v16), .val (.int v20), .val (.int v24), .val (.int (1 : Int32)), .val (.ref b37), .val (.int v41), .val v6, .val .null, .val (.int (0 : Int32)), .val (.int (0 : Int32)), .val (.int (0 : Int32)), .val (.int (0 : Int32)), .unset]) (store1' (o := .val .null) rfl (One.val rfl) (cat_ref ir_v6) rfl) k) ?_
    show OutW _ _ _ _ _ _ _ (T40.setTop (mkF m 240 #[.val (.int p1), .val (.int p2), .val (.int p3), .val (.int p4), .val (.int p5), .val (.int p6), .val (.ref b1), .val (.ref b3), .val v6, .val v8, .val v10, .val (.int p2), .val (.int p3), .val (.int v12), .val (.int v16), .val (.int v20), .val (.int v24), .val (.int (1 : Int32)), .val (.ref b37), .val (.int v41), .val v6, .val .null, .val (.int (0 : Int32)), .val (.int (0 : Int32)), .val (.int (0 : Int32)), .val (.int (0 : Int32)), .unset] []))
    refine OutW.back (fun t k => XS.iload X40.here hx rfl (hb hby at_240) rfl  k) ?_
    show OutW _ _ _ _ _ _ _ (T40.setTop (mkF m 242 #[.val (.int p1), .val (.int p2), .val (.int p3), .val (.int p4), .val (.int p5), .val (.int p6), .val (.ref b1), .val (.ref b3), .val v6, .val v8, .val v10, .val (.int p2), .val (.int p3), .val (.int v12), .val (.int v16), .val (.int v20), .val (.int v24), .val (.int (1 : Int32)), .val (.ref b37), .val (.int v41), .val v6, .val .null, .val (.int (0 : Int32)), .val (.int (0 : Int32)), .val (.int (0 : Int32)), .val (.int (0 : Int32)), .unset] [(.int p2)]))
    refine OutW.back (fun t k => XS.istore X40.here hx rfl (hb hby at_242) rfl (l' := #[.val (.int p1), .val (.int p2), .val (.int p3), .val (.int p4), .val (.int p5), .val (.int p6), .val (.ref b1), .val (.ref b3), .val v6, .val v8, .val v10, .val (.int p2), .val (.int p3), .val (.int v12), .val (.int v16), .val (.int v20), .val (.int v24), .val (.int (1 : Int32)), .val (.ref b37), .val (.int v41), .val v6, .val .null, .val (.int p2), .val (.int (0 : Int32)), .val (.int (0 : Int32)), .val (.int (0 : Int32)), .unset]) rfl k) ?_
    show OutW _ _ _ _ _ _ _ (T40.setTop (mkF m 244 #[.val (.int p1), .val (.int p2), .val (.int p3), .val (.int p4), .val (.int p5), .val (.int p6), .val (.ref b1), .val (.ref b3), .val v6, .val v8, .val v10, .val (.int p2), .val (.int p3), .val (.int v12), .val (.int v16), .val (.int v20), .val (.int v24), .val (.int (1 : Int32)), .val (.ref b37), .val (.int v41), .val v6, .val .null, .val (.int p2), .val (.int (0 : Int32)), .val (.int (0 : Int32)), .val (.int (0 : Int32)), .unset] []))
    refine OutW.back (fun t k => XS.iload X40.here hx rfl (hb hby at_244) rfl  k) ?_
    show OutW _ _ _ _ _ _ _ (T40.setTop (mkF m 246 #[.val (.int p1), .val (.int p2), .val (.int p3), .val (.int p4), .val (.int p5), .val (.int p6), .val (.ref b1), .val (.ref b3), .val v6, .val v8, .val v10, .val (.int p2), .val (.int p3), .val (.int v12), .val (.int v16), .val (.int v20), .val (.int v24), .val (.int (1 : Int32)), .val (.ref b37), .val (.int v41), .val v6, .val .null, .val (.int p2), .val (.int (0 : Int32)), .val (.int (0 : Int32)), .val (.int (0 : Int32)), .unset] [(.int p3)]))
    refine OutW.back (fun t k => XS.istore X40.here hx rfl (hb hby at_246) rfl (l' := #[.val (.int p1), .val (.int p2), .val (.int p3), .val (.int p4), .val (.int p5), .val (.int p6), .val (.ref b1), .val (.ref b3), .val v6, .val v8, .val v10, .val (.int p2), .val (.int p3), .val (.int v12), .val (.int v16), .val (.int v20), .val (.int v24), .val (.int (1 : Int32)), .val (.ref b37), .val (.int v41), .val v6, .val .null, .val (.int p2), .val (.int p3), .val (.int (0 : Int32)), .val (.int (0 : Int32)), .unset]) rfl k) ?_
    show OutW _ _ _ _ _ _ _ (T40.setTop (mkF m 248 #[.val (.int p1), .val (.int p2), .val (.int p3), .val (.int p4), .val (.int p5), .val (.int p6), .val (.ref b1), .val (.ref b3), .val v6, .val v8, .val v10, .val (.int p2), .val (.int p3), .val (.int v12), .val (.int v16), .val (.int v20), .val (.int v24), .val (.int (1 : Int32)), .val (.ref b37), .val (.int v41), .val v6, .val .null, .val (.int p2), .val (.int p3), .val (.int (0 : Int32)), .val (.int (0 : Int32)), .unset] []))
    refine OutW.back (fun t k => XS.goto X40.here hx rfl (pc0 := 248) (pc' := 314) rfl (hb hby at_248) (by decide) (by decide) k) ?_
    show OutW _ _ _ _ _ _ _ (T40.setTop (mkF m 314 #[.val (.int p1), .val (.int p2), .val (.int p3), .val (.int p4), .val (.int p5), .val (.int p6), .val (.ref b1), .val (.ref b3), .val v6, .val v8, .val v10, .val (.int p2), .val (.int p3), .val (.int v12), .val (.int v16), .val (.int v20), .val (.int v24), .val (.int (1 : Int32)), .val (.ref b37), .val (.int v41), .val v6, .val .null, .val (.int p2), .val (.int p3), .val (.int (0 : Int32)), .val (.int (0 : Int32)), .unset] []))
    refine OutW.back (fun t k => XS.aload X40.here hx rfl (hb hby at_314) rfl ir_v6  k) ?_
    show OutW _ _ _ _ _ _ _ (T40.setTop (mkF m 316 #[.val (.int p1), .val (.int p2), .val (.int p3), .val (.int p4), .val (.int p5), .val (.int p6), .val (.ref b1), .val (.ref b3), .val v6, .val v8, .val v10, .val (.int p2), .val (.int p3), .val (.int v12), .val (.int v16), .val (.int v20), .val (.int v24), .val (.int (1 : Int32)), .val (.ref b37), .val (.int v41), .val v6, .val .null, .val (.int p2), .val (.int p3), .val (.int (0 : Int32)), .val (.int (0 : Int32)), .unset] [v6]))
    obtain ⟨v47, hv_v47⟩ : ∃ z : Int32, z = (if (v6 : Value) = .null then (0 : Int32) else (if (.null : Value) = v6 then (if p3 = (0 : Int32) then (if p2 = (0 : Int32) then (1 : Int32) else (0 : Int32)) else (0 : Int32)) else (0 : Int32))) := ⟨_, rfl⟩
    have j48 : ∀ t, Steps p.tables e below (T40.setTop (mkF m 345 #[.val (.int p1), .val (.int p2), .val (.int p3), .val (.int p4), .val (.int p5), .val (.int p6), .val (.ref b1), .val (.ref b3), .val v6, .val v8, .val v10, .val (.int p2), .val (.int p3), .val (.int v12), .val (.int v16), .val (.int v20), .val (.int v24), .val (.int (1 : Int32)), .val (.ref b37), .val (.int v41), .val v6, .val .null, .val (.int p2), .val (.int p3), .val (.int (0 : Int32)), .val (.int (0 : Int32)), .unset] [(.int v47)])) t → Steps p.tables e below (T40.setTop (mkF m 316 #[.val (.int p1), .val (.int p2), .val (.int p3), .val (.int p4), .val (.int p5), .val (.int p6), .val (.ref b1), .val (.ref b3), .val v6, .val v8, .val v10, .val (.int p2), .val (.int p3), .val (.int v12), .val (.int v16), .val (.int v20), .val (.int v24), .val (.int (1 : Int32)), .val (.ref b37), .val (.int v41), .val v6, .val .null, .val (.int p2), .val (.int p3), .val (.int (0 : Int32)), .val (.int (0 : Int32)), .unset] [v6])) t := by
      intro t k
      by_cases c316_49 : (v6 : Value) = .null
      · skip
        refine XS.ifnullYes X40.here hx rfl (pc0 := 316) (pc' := 344) rfl (hb hby at_316) (congrArg (fun z => (z :: [] : List Value)) c316_49) (by decide) (by decide) ?_
        show Steps p.tables e below (T40.setTop (mkF m 344 #[.val (.int p1), .val (.int p2), .val (.int p3), .val (.int p4), .val (.int p5), .val (.int p6), .val (.ref b1), .val (.ref b3), .val v6, .val v8, .val v10, .val (.int p2), .val (.int p3), .val (.int v12), .val (.int v16), .val (.int v20), .val (.int v24), .val (.int (1 : Int32)), .val (.ref b37), .val (.int v41), .val v6, .val .null, .val (.int p2), .val (.int p3), .val (.int (0 : Int32)), .val (.int (0 : Int32)), .unset] [])) t
        refine XS.iconst X40.here hx rfl (hb hby at_344) ?_
        show Steps p.tables e below (T40.setTop (mkF m 345 #[.val (.int p1), .val (.int p2), .val (.int p3), .val (.int p4), .val (.int p5), .val (.int p6), .val (.ref b1), .val (.ref b3), .val v6, .val v8, .val v10, .val (.int p2), .val (.int p3), .val (.int v12), .val (.int v16), .val (.int v20), .val (.int v24), .val (.int (1 : Int32)), .val (.ref b37), .val (.int v41), .val v6, .val .null, .val (.int p2), .val (.int p3), .val (.int (0 : Int32)), .val (.int (0 : Int32)), .unset] [(.int (0 : Int32))])) t
        have q_v47 : v47 = (0 : Int32) := by rw [hv_v47, if_pos c316_49]
        rw [q_v47] at k
        exact k
      · skip
        obtain ⟨o50, ho50⟩ := (ref_cases ir_v6).resolve_left c316_49
        refine XS.ifnullNo X40.here hx rfl (hb hby at_316) (congrArg (fun z => (z :: [] : List Value)) ho50) ?_
        show Steps p.tables e below (T40.setTop (mkF m 319 #[.val (.int p1), .val (.int p2), .val (.int p3), .val (.int p4), .val (.int p5), .val (.int p6), .val (.ref b1), .val (.ref b3), .val v6, .val v8, .val v10, .val (.int p2), .val (.int p3), .val (.int v12), .val (.int v16), .val (.int v20), .val (.int v24), .val (.int (1 : Int32)), .val (.ref b37), .val (.int v41), .val v6, .val .null, .val (.int p2), .val (.int p3), .val (.int (0 : Int32)), .val (.int (0 : Int32)), .unset] [])) t
        refine XS.aload X40.here hx rfl (hb hby at_319) rfl rfl  ?_
        show Steps p.tables e below (T40.setTop (mkF m 321 #[.val (.int p1), .val (.int p2), .val (.int p3), .val (.int p4), .val (.int p5), .val (.int p6), .val (.ref b1), .val (.ref b3), .val v6, .val v8, .val v10, .val (.int p2), .val (.int p3), .val (.int v12), .val (.int v16), .val (.int v20), .val (.int v24), .val (.int (1 : Int32)), .val (.ref b37), .val (.int v41), .val v6, .val .null, .val (.int p2), .val (.int p3), .val (.int (0 : Int32)), .val (.int (0 : Int32)), .unset] [.null])) t
        refine XS.aload X40.here hx rfl (hb hby at_321) rfl ir_v6  ?_
        show Steps p.tables e below (T40.setTop (mkF m 323 #[.val (.int p1), .val (.int p2), .val (.int p3), .val (.int p4), .val (.int p5), .val (.int p6), .val (.ref b1), .val (.ref b3), .val v6, .val v8, .val v10, .val (.int p2), .val (.int p3), .val (.int v12), .val (.int v16), .val (.int v20), .val (.int v24), .val (.int (1 : Int32)), .val (.ref b37), .val (.int v41), .val v6, .val .null, .val (.int p2), .val (.int p3), .val (.int (0 : Int32)), .val (.int (0 : Int32)), .unset] [v6, .null])) t
        by_cases c323_51 : (.null : Value) = v6
        · skip
          refine Jvm.RoadKit.acmp (g := (mkF m 323 #[.val (.int p1), .val (.int p2), .val (.int p3), .val (.int p4), .val (.int p5), .val (.int p6), .val (.ref b1), .val (.ref b3), .val v6, .val v8, .val v10, .val (.int p2), .val (.int p3), .val (.int v12), .val (.int v16), .val (.int v20), .val (.int v24), .val (.int (1 : Int32)), .val (.ref b37), .val (.int v41), .val v6, .val .null, .val (.int p2), .val (.int p3), .val (.int (0 : Int32)), .val (.int (0 : Int32)), .unset] [v6, .null])) X40 hx rfl rfl ir_v6 (pc0 := 323) (pc' := 326) (same := true) rfl (hb hby at_323) rfl (decide_eq_true c323_51) (by decide) (by decide) ?_
          show Steps p.tables e below (T40.setTop (mkF m 326 #[.val (.int p1), .val (.int p2), .val (.int p3), .val (.int p4), .val (.int p5), .val (.int p6), .val (.ref b1), .val (.ref b3), .val v6, .val v8, .val v10, .val (.int p2), .val (.int p3), .val (.int v12), .val (.int v16), .val (.int v20), .val (.int v24), .val (.int (1 : Int32)), .val (.ref b37), .val (.int v41), .val v6, .val .null, .val (.int p2), .val (.int p3), .val (.int (0 : Int32)), .val (.int (0 : Int32)), .unset] [])) t
          refine XS.iload X40.here hx rfl (hb hby at_326) rfl  ?_
          show Steps p.tables e below (T40.setTop (mkF m 328 #[.val (.int p1), .val (.int p2), .val (.int p3), .val (.int p4), .val (.int p5), .val (.int p6), .val (.ref b1), .val (.ref b3), .val v6, .val v8, .val v10, .val (.int p2), .val (.int p3), .val (.int v12), .val (.int v16), .val (.int v20), .val (.int v24), .val (.int (1 : Int32)), .val (.ref b37), .val (.int v41), .val v6, .val .null, .val (.int p2), .val (.int p3), .val (.int (0 : Int32)), .val (.int (0 : Int32)), .unset] [(.int p3)])) t
          refine XS.iload X40.here hx rfl (hb hby at_328) rfl  ?_
          show Steps p.tables e below (T40.setTop (mkF m 330 #[.val (.int p1), .val (.int p2), .val (.int p3), .val (.int p4), .val (.int p5), .val (.int p6), .val (.ref b1), .val (.ref b3), .val v6, .val v8, .val v10, .val (.int p2), .val (.int p3), .val (.int v12), .val (.int v16), .val (.int v20), .val (.int v24), .val (.int (1 : Int32)), .val (.ref b37), .val (.int v41), .val v6, .val .null, .val (.int p2), .val (.int p3), .val (.int (0 : Int32)), .val (.int (0 : Int32)), .unset] [(.int (0 : Int32)), (.int p3)])) t
          by_cases c330_52 : p3 = (0 : Int32)
          · skip
            refine XS.icmpNo X40.here hx rfl (hb hby at_330) rfl (teq c330_52).2 ?_
            show Steps p.tables e below (T40.setTop (mkF m 333 #[.val (.int p1), .val (.int p2), .val (.int p3), .val (.int p4), .val (.int p5), .val (.int p6), .val (.ref b1), .val (.ref b3), .val v6, .val v8, .val v10, .val (.int p2), .val (.int p3), .val (.int v12), .val (.int v16), .val (.int v20), .val (.int v24), .val (.int (1 : Int32)), .val (.ref b37), .val (.int v41), .val v6, .val .null, .val (.int p2), .val (.int p3), .val (.int (0 : Int32)), .val (.int (0 : Int32)), .unset] [])) t
            refine XS.iload X40.here hx rfl (hb hby at_333) rfl  ?_
            show Steps p.tables e below (T40.setTop (mkF m 335 #[.val (.int p1), .val (.int p2), .val (.int p3), .val (.int p4), .val (.int p5), .val (.int p6), .val (.ref b1), .val (.ref b3), .val v6, .val v8, .val v10, .val (.int p2), .val (.int p3), .val (.int v12), .val (.int v16), .val (.int v20), .val (.int v24), .val (.int (1 : Int32)), .val (.ref b37), .val (.int v41), .val v6, .val .null, .val (.int p2), .val (.int p3), .val (.int (0 : Int32)), .val (.int (0 : Int32)), .unset] [(.int p2)])) t
            refine XS.iload X40.here hx rfl (hb hby at_335) rfl  ?_
            show Steps p.tables e below (T40.setTop (mkF m 337 #[.val (.int p1), .val (.int p2), .val (.int p3), .val (.int p4), .val (.int p5), .val (.int p6), .val (.ref b1), .val (.ref b3), .val v6, .val v8, .val v10, .val (.int p2), .val (.int p3), .val (.int v12), .val (.int v16), .val (.int v20), .val (.int v24), .val (.int (1 : Int32)), .val (.ref b37), .val (.int v41), .val v6, .val .null, .val (.int p2), .val (.int p3), .val (.int (0 : Int32)), .val (.int (0 : Int32)), .unset] [(.int (0 : Int32)), (.int p2)])) t
            by_cases c337_53 : p2 = (0 : Int32)
            · skip
              refine XS.icmpNo X40.here hx rfl (hb hby at_337) rfl (teq c337_53).2 ?_
              show Steps p.tables e below (T40.setTop (mkF m 340 #[.val (.int p1), .val (.int p2), .val (.int p3), .val (.int p4), .val (.int p5), .val (.int p6), .val (.ref b1), .val (.ref b3), .val v6, .val v8, .val v10, .val (.int p2), .val (.int p3), .val (.int v12), .val (.int v16), .val (.int v20), .val (.int v24), .val (.int (1 : Int32)), .val (.ref b37), .val (.int v41), .val v6, .val .null, .val (.int p2), .val (.int p3), .val (.int (0 : Int32)), .val (.int (0 : Int32)), .unset] [])) t
              refine XS.iconst X40.here hx rfl (hb hby at_340) ?_
              show Steps p.tables e below (T40.setTop (mkF m 341 #[.val (.int p1), .val (.int p2), .val (.int p3), .val (.int p4), .val (.int p5), .val (.int p6), .val (.ref b1), .val (.ref b3), .val v6, .val v8, .val v10, .val (.int p2), .val (.int p3), .val (.int v12), .val (.int v16), .val (.int v20), .val (.int v24), .val (.int (1 : Int32)), .val (.ref b37), .val (.int v41), .val v6, .val .null, .val (.int p2), .val (.int p3), .val (.int (0 : Int32)), .val (.int (0 : Int32)), .unset] [(.int (1 : Int32))])) t
              refine XS.goto X40.here hx rfl (pc0 := 341) (pc' := 345) rfl (hb hby at_341) (by decide) (by decide) ?_
              show Steps p.tables e below (T40.setTop (mkF m 345 #[.val (.int p1), .val (.int p2), .val (.int p3), .val (.int p4), .val (.int p5), .val (.int p6), .val (.ref b1), .val (.ref b3), .val v6, .val v8, .val v10, .val (.int p2), .val (.int p3), .val (.int v12), .val (.int v16), .val (.int v20), .val (.int v24), .val (.int (1 : Int32)), .val (.ref b37), .val (.int v41), .val v6, .val .null, .val (.int p2), .val (.int p3), .val (.int (0 : Int32)), .val (.int (0 : Int32)), .unset] [(.int (1 : Int32))])) t
              have q_v47 : v47 = (1 : Int32) := by rw [hv_v47, if_neg c316_49, if_pos c323_51, if_pos c330_52, if_pos c337_53]
              rw [q_v47] at k
              exact k
            · skip
              refine XS.icmpYes X40.here hx rfl (pc0 := 337) (pc' := 344) rfl (hb hby at_337) rfl (feq c337_53).2 (by decide) (by decide) ?_
              show Steps p.tables e below (T40.setTop (mkF m 344 #[.val (.int p1), .val (.int p2), .val (.int p3), .val (.int p4), .val (.int p5), .val (.int p6), .val (.ref b1), .val (.ref b3), .val v6, .val v8, .val v10, .val (.int p2), .val (.int p3), .val (.int v12), .val (.int v16), .val (.int v20), .val (.int v24), .val (.int (1 : Int32)), .val (.ref b37), .val (.int v41), .val v6, .val .null, .val (.int p2), .val (.int p3), .val (.int (0 : Int32)), .val (.int (0 : Int32)), .unset] [])) t
              refine XS.iconst X40.here hx rfl (hb hby at_344) ?_
              show Steps p.tables e below (T40.setTop (mkF m 345 #[.val (.int p1), .val (.int p2), .val (.int p3), .val (.int p4), .val (.int p5), .val (.int p6), .val (.ref b1), .val (.ref b3), .val v6, .val v8, .val v10, .val (.int p2), .val (.int p3), .val (.int v12), .val (.int v16), .val (.int v20), .val (.int v24), .val (.int (1 : Int32)), .val (.ref b37), .val (.int v41), .val v6, .val .null, .val (.int p2), .val (.int p3), .val (.int (0 : Int32)), .val (.int (0 : Int32)), .unset] [(.int (0 : Int32))])) t
              have q_v47 : v47 = (0 : Int32) := by rw [hv_v47, if_neg c316_49, if_pos c323_51, if_pos c330_52, if_neg c337_53]
              rw [q_v47] at k
              exact k
          · skip
            refine XS.icmpYes X40.here hx rfl (pc0 := 330) (pc' := 344) rfl (hb hby at_330) rfl (feq c330_52).2 (by decide) (by decide) ?_
            show Steps p.tables e below (T40.setTop (mkF m 344 #[.val (.int p1), .val (.int p2), .val (.int p3), .val (.int p4), .val (.int p5), .val (.int p6), .val (.ref b1), .val (.ref b3), .val v6, .val v8, .val v10, .val (.int p2), .val (.int p3), .val (.int v12), .val (.int v16), .val (.int v20), .val (.int v24), .val (.int (1 : Int32)), .val (.ref b37), .val (.int v41), .val v6, .val .null, .val (.int p2), .val (.int p3), .val (.int (0 : Int32)), .val (.int (0 : Int32)), .unset] [])) t
            refine XS.iconst X40.here hx rfl (hb hby at_344) ?_
            show Steps p.tables e below (T40.setTop (mkF m 345 #[.val (.int p1), .val (.int p2), .val (.int p3), .val (.int p4), .val (.int p5), .val (.int p6), .val (.ref b1), .val (.ref b3), .val v6, .val v8, .val v10, .val (.int p2), .val (.int p3), .val (.int v12), .val (.int v16), .val (.int v20), .val (.int v24), .val (.int (1 : Int32)), .val (.ref b37), .val (.int v41), .val v6, .val .null, .val (.int p2), .val (.int p3), .val (.int (0 : Int32)), .val (.int (0 : Int32)), .unset] [(.int (0 : Int32))])) t
            have q_v47 : v47 = (0 : Int32) := by rw [hv_v47, if_neg c316_49, if_pos c323_51, if_neg c330_52]
            rw [q_v47] at k
            exact k
        · skip
          refine Jvm.RoadKit.acmp (g := (mkF m 323 #[.val (.int p1), .val (.int p2), .val (.int p3), .val (.int p4), .val (.int p5), .val (.int p6), .val (.ref b1), .val (.ref b3), .val v6, .val v8, .val v10, .val (.int p2), .val (.int p3), .val (.int v12), .val (.int v16), .val (.int v20), .val (.int v24), .val (.int (1 : Int32)), .val (.ref b37), .val (.int v41), .val v6, .val .null, .val (.int p2), .val (.int p3), .val (.int (0 : Int32)), .val (.int (0 : Int32)), .unset] [v6, .null])) X40 hx rfl rfl ir_v6 (pc0 := 323) (pc' := 344) (same := false) rfl (hb hby at_323) rfl (decide_eq_false c323_51) (by decide) (by decide) ?_
          show Steps p.tables e below (T40.setTop (mkF m 344 #[.val (.int p1), .val (.int p2), .val (.int p3), .val (.int p4), .val (.int p5), .val (.int p6), .val (.ref b1), .val (.ref b3), .val v6, .val v8, .val v10, .val (.int p2), .val (.int p3), .val (.int v12), .val (.int v16), .val (.int v20), .val (.int v24), .val (.int (1 : Int32)), .val (.ref b37), .val (.int v41), .val v6, .val .null, .val (.int p2), .val (.int p3), .val (.int (0 : Int32)), .val (.int (0 : Int32)), .unset] [])) t
          refine XS.iconst X40.here hx rfl (hb hby at_344) ?_
          show Steps p.tables e below (T40.setTop (mkF m 345 #[.val (.int p1), .val (.int p2), .val (.int p3), .val (.int p4), .val (.int p5), .val (.int p6), .val (.ref b1), .val (.ref b3), .val v6, .val v8, .val v10, .val (.int p2), .val (.int p3), .val (.int v12), .val (.int v16), .val (.int v20), .val (.int v24), .val (.int (1 : Int32)), .val (.ref b37), .val (.int v41), .val v6, .val .null, .val (.int p2), .val (.int p3), .val (.int (0 : Int32)), .val (.int (0 : Int32)), .unset] [(.int (0 : Int32))])) t
          have q_v47 : v47 = (0 : Int32) := by rw [hv_v47, if_neg c316_49, if_neg c323_51]
          rw [q_v47] at k
          exact k
    refine OutW.back j48 ?_
    show OutW _ _ _ _ _ _ _ (T40.setTop (mkF m 345 #[.val (.int p1), .val (.int p2), .val (.int p3), .val (.int p4), .val (.int p5), .val (.int p6), .val (.ref b1), .val (.ref b3), .val v6, .val v8, .val v10, .val (.int p2), .val (.int p3), .val (.int v12), .val (.int v16), .val (.int v20), .val (.int v24), .val (.int (1 : Int32)), .val (.ref b37), .val (.int v41), .val v6, .val .null, .val (.int p2), .val (.int p3), .val (.int (0 : Int32)), .val (.int (0 : Int32)), .unset] [(.int v47)]))
    refine OutW.back (fun t k => XS.istore X40.here hx rfl (hb hby at_345) rfl (l' := #[.val (.int p1), .val (.int p2), .val (.int p3), .val (.int p4), .val (.int p5), .val (.int p6), .val (.ref b1), .val (.ref b3), .val v6, .val v8, .val v10, .val (.int p2), .val (.int p3), .val (.int v12), .val (.int v16), .val (.int v20), .val (.int v24), .val (.int (1 : Int32)), .val (.ref b37), .val (.int v41), .val v6, .val .null, .val (.int p2), .val (.int p3), .val (.int (0 : Int32)), .val (.int (0 : Int32)), .val (.int v47)]) rfl k) ?_
    show OutW _ _ _ _ _ _ _ (T40.setTop (mkF m 347 #[.val (.int p1), .val (.int p2), .val (.int p3), .val (.int p4), .val (.int p5), .val (.int p6), .val (.ref b1), .val (.ref b3), .val v6, .val v8, .val v10, .val (.int p2), .val (.int p3), .val (.int v12), .val (.int v16), .val (.int v20), .val (.int v24), .val (.int (1 : Int32)), .val (.ref b37), .val (.int v41), .val v6, .val .null, .val (.int p2), .val (.int p3), .val (.int (0 : Int32)), .val (.int (0 : Int32)), .val (.int v47)] []))
    refine OutW.back (fun t k => XS.iload X40.here hx rfl (hb hby at_347) rfl  k) ?_
    show OutW _ _ _ _ _ _ _ (T40.setTop (mkF m 349 #[.val (.int p1), .val (.int p2), .val (.int p3), .val (.int p4), .val (.int p5), .val (.int p6), .val (.ref b1), .val (.ref b3), .val v6, .val v8, .val v10, .val (.int p2), .val (.int p3), .val (.int v12), .val (.int v16), .val (.int v20), .val (.int v24), .val (.int (1 : Int32)), .val (.ref b37), .val (.int v41), .val v6, .val .null, .val (.int p2), .val (.int p3), .val (.int (0 : Int32)), .val (.int (0 : Int32)), .val (.int v47)] [(.int v41)]))
    refine OutW.back (fun t k => XS.iload X40.here hx rfl (hb hby at_349) rfl  k) ?_
    show OutW _ _ _ _ _ _ _ (T40.setTop (mkF m 351 #[.val (.int p1), .val (.int p2), .val (.int p3), .val (.int p4), .val (.int p5), .val (.int p6), .val (.ref b1), .val (.ref b3), .val v6, .val v8, .val v10, .val (.int p2), .val (.int p3), .val (.int v12), .val (.int v16), .val (.int v20), .val (.int v24), .val (.int (1 : Int32)), .val (.ref b37), .val (.int v41), .val v6, .val .null, .val (.int p2), .val (.int p3), .val (.int (0 : Int32)), .val (.int (0 : Int32)), .val (.int v47)] [(.int v47), (.int v41)]))
    obtain ⟨v55, hv_v55⟩ : ∃ z : Int32, z = (if v41 = v47 then (1 : Int32) else (0 : Int32)) := ⟨_, rfl⟩
    have j56 : ∀ t, Steps p.tables e below (T40.setTop (mkF m 359 #[.val (.int p1), .val (.int p2), .val (.int p3), .val (.int p4), .val (.int p5), .val (.int p6), .val (.ref b1), .val (.ref b3), .val v6, .val v8, .val v10, .val (.int p2), .val (.int p3), .val (.int v12), .val (.int v16), .val (.int v20), .val (.int v24), .val (.int (1 : Int32)), .val (.ref b37), .val (.int v41), .val v6, .val .null, .val (.int p2), .val (.int p3), .val (.int (0 : Int32)), .val (.int (0 : Int32)), .val (.int v47)] [(.int v55)])) t → Steps p.tables e below (T40.setTop (mkF m 351 #[.val (.int p1), .val (.int p2), .val (.int p3), .val (.int p4), .val (.int p5), .val (.int p6), .val (.ref b1), .val (.ref b3), .val v6, .val v8, .val v10, .val (.int p2), .val (.int p3), .val (.int v12), .val (.int v16), .val (.int v20), .val (.int v24), .val (.int (1 : Int32)), .val (.ref b37), .val (.int v41), .val v6, .val .null, .val (.int p2), .val (.int p3), .val (.int (0 : Int32)), .val (.int (0 : Int32)), .val (.int v47)] [(.int v47), (.int v41)])) t := by
      intro t k
      by_cases c351_57 : v41 = v47
      · skip
        refine XS.icmpNo X40.here hx rfl (hb hby at_351) rfl (teq c351_57).2 ?_
        show Steps p.tables e below (T40.setTop (mkF m 354 #[.val (.int p1), .val (.int p2), .val (.int p3), .val (.int p4), .val (.int p5), .val (.int p6), .val (.ref b1), .val (.ref b3), .val v6, .val v8, .val v10, .val (.int p2), .val (.int p3), .val (.int v12), .val (.int v16), .val (.int v20), .val (.int v24), .val (.int (1 : Int32)), .val (.ref b37), .val (.int v41), .val v6, .val .null, .val (.int p2), .val (.int p3), .val (.int (0 : Int32)), .val (.int (0 : Int32)), .val (.int v47)] [])) t
        refine XS.iconst X40.here hx rfl (hb hby at_354) ?_
        show Steps p.tables e below (T40.setTop (mkF m 355 #[.val (.int p1), .val (.int p2), .val (.int p3), .val (.int p4), .val (.int p5), .val (.int p6), .val (.ref b1), .val (.ref b3), .val v6, .val v8, .val v10, .val (.int p2), .val (.int p3), .val (.int v12), .val (.int v16), .val (.int v20), .val (.int v24), .val (.int (1 : Int32)), .val (.ref b37), .val (.int v41), .val v6, .val .null, .val (.int p2), .val (.int p3), .val (.int (0 : Int32)), .val (.int (0 : Int32)), .val (.int v47)] [(.int (1 : Int32))])) t
        refine XS.goto X40.here hx rfl (pc0 := 355) (pc' := 359) rfl (hb hby at_355) (by decide) (by decide) ?_
        show Steps p.tables e below (T40.setTop (mkF m 359 #[.val (.int p1), .val (.int p2), .val (.int p3), .val (.int p4), .val (.int p5), .val (.int p6), .val (.ref b1), .val (.ref b3), .val v6, .val v8, .val v10, .val (.int p2), .val (.int p3), .val (.int v12), .val (.int v16), .val (.int v20), .val (.int v24), .val (.int (1 : Int32)), .val (.ref b37), .val (.int v41), .val v6, .val .null, .val (.int p2), .val (.int p3), .val (.int (0 : Int32)), .val (.int (0 : Int32)), .val (.int v47)] [(.int (1 : Int32))])) t
        have q_v55 : v55 = (1 : Int32) := by rw [hv_v55, if_pos c351_57]
        rw [q_v55] at k
        exact k
      · skip
        refine XS.icmpYes X40.here hx rfl (pc0 := 351) (pc' := 358) rfl (hb hby at_351) rfl (feq c351_57).2 (by decide) (by decide) ?_
        show Steps p.tables e below (T40.setTop (mkF m 358 #[.val (.int p1), .val (.int p2), .val (.int p3), .val (.int p4), .val (.int p5), .val (.int p6), .val (.ref b1), .val (.ref b3), .val v6, .val v8, .val v10, .val (.int p2), .val (.int p3), .val (.int v12), .val (.int v16), .val (.int v20), .val (.int v24), .val (.int (1 : Int32)), .val (.ref b37), .val (.int v41), .val v6, .val .null, .val (.int p2), .val (.int p3), .val (.int (0 : Int32)), .val (.int (0 : Int32)), .val (.int v47)] [])) t
        refine XS.iconst X40.here hx rfl (hb hby at_358) ?_
        show Steps p.tables e below (T40.setTop (mkF m 359 #[.val (.int p1), .val (.int p2), .val (.int p3), .val (.int p4), .val (.int p5), .val (.int p6), .val (.ref b1), .val (.ref b3), .val v6, .val v8, .val v10, .val (.int p2), .val (.int p3), .val (.int v12), .val (.int v16), .val (.int v20), .val (.int v24), .val (.int (1 : Int32)), .val (.ref b37), .val (.int v41), .val v6, .val .null, .val (.int p2), .val (.int p3), .val (.int (0 : Int32)), .val (.int (0 : Int32)), .val (.int v47)] [(.int (0 : Int32))])) t
        have q_v55 : v55 = (0 : Int32) := by rw [hv_v55, if_neg c351_57]
        rw [q_v55] at k
        exact k
    refine OutW.back j56 ?_
    show OutW _ _ _ _ _ _ _ (T40.setTop (mkF m 359 #[.val (.int p1), .val (.int p2), .val (.int p3), .val (.int p4), .val (.int p5), .val (.int p6), .val (.ref b1), .val (.ref b3), .val v6, .val v8, .val v10, .val (.int p2), .val (.int p3), .val (.int v12), .val (.int v16), .val (.int v20), .val (.int v24), .val (.int (1 : Int32)), .val (.ref b37), .val (.int v41), .val v6, .val .null, .val (.int p2), .val (.int p3), .val (.int (0 : Int32)), .val (.int (0 : Int32)), .val (.int v47)] [(.int v55)]))
    refine OutW.retN X40 hx (t := .boolean) (z' := 1) Bd.returns (by simp) hlk (hb hby at_359) ?hz (by decide) (by decide) ?_
    case hz =>
      have hfin : v55 = (1 : Int32) := by
        have q1 : v41 = v47 := by rw [← hv_v41, hv_v47, own_went]
        rw [hv_v55, if_pos q1]
      rw [hfin]; rfl
    show Q0 Z p1 p2 p3 p4 p5 p6 h0 n0 _ T40.heap _
    rw [e40]
    exact ⟨rfl, N40⟩
  · skip
    show OutW _ _ _ _ _ _ _ (T9.setTop (mkF m 145 #[.val (.int p1), .val (.int p2), .val (.int p3), .val (.int p4), .val (.int p5), .val (.int p6), .val (.ref b1), .val (.ref b3), .val v6, .val v8, .val v10, .val (.int p2), .val (.int p3), .val (.int v12), .val (.int v16), .val (.int v20), .val (.int v24), .val (.int (2 : Int32)), .unset, .unset, .unset, .unset, .unset, .unset, .unset, .unset, .unset] []))
    obtain ⟨T58, h58, X58, e58, E58, A58, D58, -, st58⟩ := newO X9 hx hZ hown (hw _ (List.mem_of_getElem? (i := 17) rfl)) (hw _ (List.mem_of_getElem? (i := 18) rfl)) (hw _ (List.mem_of_getElem? (i := 19) rfl)) e9 (g := (mkF m 145 #[.val (.int p1), .val (.int p2), .val (.int p3), .val (.int p4), .val (.int p5), .val (.int p6), .val (.ref b1), .val (.ref b3), .val v6, .val v8, .val v10, .val (.int p2), .val (.int p3), .val (.int v12), .val (.int v16), .val (.int v20), .val (.int v24), .val (.int (2 : Int32)), .unset, .unset, .unset, .unset, .unset, .unset, .unset, .unset, .unset] [])) rfl (hb hby at_145) (by decide) (by decide)
    obtain ⟨b58, g58⟩ : ∃ z, z = h4.size := ⟨_, rfl⟩
    rw [← g58] at A58 D58 st58
    have ne_b1_b58 : b1 ≠ b58 := Nat.ne_of_lt (Nat.lt_of_lt_of_le E_b1.lt (Nat.le_of_eq g58.symm))
    have ne_b3_b58 : b3 ≠ b58 := Nat.ne_of_lt (Nat.lt_of_lt_of_le E_b3.lt (Nat.le_of_eq g58.symm))
    have g_b58 : n0 ≤ b58 := Nat.le_trans Z4 (Nat.le_of_eq g58.symm)
    have sz_b58 : h0.size ≤ b58 := Nat.le_trans K4.1 (Nat.le_of_eq g58.symm)
    have E_b1 := E_b1.ext E58
    have E_b3 := E_b3.ext E58
    have Z58 : n0 ≤ h58.size := Nat.le_trans Z4 E58.1
    have K58 := K4.ext E58
    have E_b58 := A58
    have F_lastPiece_b58 : Fld Z h58 b58 "com/example/fogline/fogline/rules/RecentMoves" "lastPiece" "Lcom/example/fogline/fogline/rules/Piece;" .null := D58 (Or.inl (hw _ (List.mem_of_getElem? (i := 30) rfl))) (ty := (.object "com/example/fogline/fogline/rules/Piece")) (by decide)
    have F_pieceBefore_b58 : Fld Z h58 b58 "com/example/fogline/fogline/rules/RecentMoves" "pieceBefore" "Lcom/example/fogline/fogline/rules/Piece;" .null := D58 (Or.inl (hw _ (List.mem_of_getElem? (i := 37) rfl))) (ty := (.object "com/example/fogline/fogline/rules/Piece")) (by decide)
    have F_lastFrom_b58 : Fld Z h58 b58 "com/example/fogline/fogline/rules/RecentMoves" "lastFrom" "I" (.int (0 : Int32)) := D58 (Or.inl (hw _ (List.mem_of_getElem? (i := 39) rfl))) (ty := .int) (by decide)
    have F_fromBefore_b58 : Fld Z h58 b58 "com/example/fogline/fogline/rules/RecentMoves" "fromBefore" "I" (.int (0 : Int32)) := D58 (Or.inl (hw _ (List.mem_of_getElem? (i := 41) rfl))) (ty := .int) (by decide)
    have F_lastTo_b58 : Fld Z h58 b58 "com/example/fogline/fogline/rules/RecentMoves" "lastTo" "I" (.int (0 : Int32)) := D58 (Or.inl (hw _ (List.mem_of_getElem? (i := 43) rfl))) (ty := .int) (by decide)
    have F_toBefore_b58 : Fld Z h58 b58 "com/example/fogline/fogline/rules/RecentMoves" "toBefore" "I" (.int (0 : Int32)) := D58 (Or.inl (hw _ (List.mem_of_getElem? (i := 45) rfl))) (ty := .int) (by decide)
    refine OutW.back st58 ?_
    show OutW _ _ _ _ _ _ _ (T58.setTop (mkF m 148 #[.val (.int p1), .val (.int p2), .val (.int p3), .val (.int p4), .val (.int p5), .val (.int p6), .val (.ref b1), .val (.ref b3), .val v6, .val v8, .val v10, .val (.int p2), .val (.int p3), .val (.int v12), .val (.int v16), .val (.int v20), .val (.int v24), .val (.int (2 : Int32)), .unset, .unset, .unset, .unset, .unset, .unset, .unset, .unset, .unset] [(.ref b58)]))
    refine OutW.back (fun t k => XS.dup X58.here hx rfl (hb hby at_148) rfl rfl k) ?_
    show OutW _ _ _ _ _ _ _ (T58.setTop (mkF m 149 #[.val (.int p1), .val (.int p2), .val (.int p3), .val (.int p4), .val (.int p5), .val (.int p6), .val (.ref b1), .val (.ref b3), .val v6, .val v8, .val v10, .val (.int p2), .val (.int p3), .val (.int v12), .val (.int v16), .val (.int v20), .val (.int v24), .val (.int (2 : Int32)), .unset, .unset, .unset, .unset, .unset, .unset, .unset, .unset, .unset] [(.ref b58), (.ref b58)]))
    obtain ⟨_, _, ⟨T59, L59, k59, n59⟩, -, X59, ⟨Lc59, hQ59, l59, y59, z59⟩, st59⟩ := X58.specialBack hx (y := (⟨"com/example/fogline/fogline/rules/RecentMoves", "<init>", "()V"⟩ : MethodName)) rfl hown (mvT hZ (hw _ (List.mem_of_getElem? (i := 20) rfl))) (mvT hZ (hw _ (List.mem_of_getElem? (i := 21) rfl))) (mvT hZ (hw _ (List.mem_of_getElem? (i := 22) rfl))) (by decide) (backOf (W := 1) (rm4 l Z a0 hw [] b58 h58 n0 Z58 E_b58) hZ (hw _ (List.mem_of_getElem? (i := 22) rfl)) (hw _ (List.mem_of_getElem? (i := 19) rfl)) (by decide) (by decide)) (g := (mkF m 149 #[.val (.int p1), .val (.int p2), .val (.int p3), .val (.int p4), .val (.int p5), .val (.int p6), .val (.ref b1), .val (.ref b3), .val v6, .val v8, .val v10, .val (.int p2), .val (.int p3), .val (.int v12), .val (.int v16), .val (.int v20), .val (.int v24), .val (.int (2 : Int32)), .unset, .unset, .unset, .unset, .unset, .unset, .unset, .unset, .unset] [(.ref b58), (.ref b58)])) rfl (by rw [hml]; rfl) (Steps.refl _) (a := b58) (argsL := []) (rest := [(.ref b58)]) (lenOf pd_2 rfl) rfl (by show 2 * 0 + _ ≤ _; exact Nat.le_of_eq rfl) (hb hby at_149) (fun _ _ => ⟨rfl, e58, (by decide : 3 + 0 ≤ _), (by decide : 14 + 0 ≤ _)⟩)
    dsimp only [Pt.U, Pt.locs, Pt.cells, Pt.slots] at X59 l59 y59 z59 st59 hQ59
    subst l59 y59 z59
    obtain ⟨rfl, Nq59, e59⟩ := hQ59
    have N59 := Fr.app N9 Nq59
    refine OutW.via st59 ?_
    show OutW _ _ _ _ _ _ _ (T59.setTop (mkF m 152 #[.val (.int p1), .val (.int p2), .val (.int p3), .val (.int p4), .val (.int p5), .val (.int p6), .val (.ref b1), .val (.ref b3), .val v6, .val v8, .val v10, .val (.int p2), .val (.int p3), .val (.int v12), .val (.int v16), .val (.int v20), .val (.int v24), .val (.int (2 : Int32)), .unset, .unset, .unset, .unset, .unset, .unset, .unset, .unset, .unset] [(.ref b58)]))
    refine OutW.back (fun t k => XS.astore X59.here hx rfl (hb hby at_152) rfl rfl (l' := #[.val (.int p1), .val (.int p2), .val (.int p3), .val (.int p4), .val (.int p5), .val (.int p6), .val (.ref b1), .val (.ref b3), .val v6, .val v8, .val v10, .val (.int p2), .val (.int p3), .val (.int v12), .val (.int v16), .val (.int v20), .val (.int v24), .val (.int (2 : Int32)), .val (.ref b58), .unset, .unset, .unset, .unset, .unset, .unset, .unset, .unset]) rfl k) ?_
    show OutW _ _ _ _ _ _ _ (T59.setTop (mkF m 154 #[.val (.int p1), .val (.int p2), .val (.int p3), .val (.int p4), .val (.int p5), .val (.int p6), .val (.ref b1), .val (.ref b3), .val v6, .val v8, .val v10, .val (.int p2), .val (.int p3), .val (.int v12), .val (.int v16), .val (.int v20), .val (.int v24), .val (.int (2 : Int32)), .val (.ref b58), .unset, .unset, .unset, .unset, .unset, .unset, .unset, .unset] []))
    refine OutW.back (fun t k => XS.iload X59.here hx rfl (hb hby at_154) rfl  k) ?_
    show OutW _ _ _ _ _ _ _ (T59.setTop (mkF m 156 #[.val (.int p1), .val (.int p2), .val (.int p3), .val (.int p4), .val (.int p5), .val (.int p6), .val (.ref b1), .val (.ref b3), .val v6, .val v8, .val v10, .val (.int p2), .val (.int p3), .val (.int v12), .val (.int v16), .val (.int v20), .val (.int v24), .val (.int (2 : Int32)), .val (.ref b58), .unset, .unset, .unset, .unset, .unset, .unset, .unset, .unset] [(.int (2 : Int32))]))
    refine OutW.back (fun t k => XS.iconst X59.here hx rfl (hb hby at_156) k) ?_
    show OutW _ _ _ _ _ _ _ (T59.setTop (mkF m 157 #[.val (.int p1), .val (.int p2), .val (.int p3), .val (.int p4), .val (.int p5), .val (.int p6), .val (.ref b1), .val (.ref b3), .val v6, .val v8, .val v10, .val (.int p2), .val (.int p3), .val (.int v12), .val (.int v16), .val (.int v20), .val (.int v24), .val (.int (2 : Int32)), .val (.ref b58), .unset, .unset, .unset, .unset, .unset, .unset, .unset, .unset] [(.int (1 : Int32)), (.int (2 : Int32))]))
    refine OutW.back (fun t k => XS.icmpNo X59.here hx rfl (hb hby at_157) rfl (flt (by decide : ¬ ((2 : Int32) < (1 : Int32)))).1 k) ?_
    show OutW _ _ _ _ _ _ _ (T59.setTop (mkF m 160 #[.val (.int p1), .val (.int p2), .val (.int p3), .val (.int p4), .val (.int p5), .val (.int p6), .val (.ref b1), .val (.ref b3), .val v6, .val v8, .val v10, .val (.int p2), .val (.int p3), .val (.int v12), .val (.int v16), .val (.int v20), .val (.int v24), .val (.int (2 : Int32)), .val (.ref b58), .unset, .unset, .unset, .unset, .unset, .unset, .unset, .unset] []))
    refine OutW.back (fun t k => XS.aload X59.here hx rfl (hb hby at_160) rfl rfl  k) ?_
    show OutW _ _ _ _ _ _ _ (T59.setTop (mkF m 162 #[.val (.int p1), .val (.int p2), .val (.int p3), .val (.int p4), .val (.int p5), .val (.int p6), .val (.ref b1), .val (.ref b3), .val v6, .val v8, .val v10, .val (.int p2), .val (.int p3), .val (.int v12), .val (.int v16), .val (.int v20), .val (.int v24), .val (.int (2 : Int32)), .val (.ref b58), .unset, .unset, .unset, .unset, .unset, .unset, .unset, .unset] [(.ref b58)]))
    refine OutW.back (fun t k => XS.aload X59.here hx rfl (hb hby at_162) rfl ir_v6  k) ?_
    show OutW _ _ _ _ _ _ _ (T59.setTop (mkF m 164 #[.val (.int p1), .val (.int p2), .val (.int p3), .val (.int p4), .val (.int p5), .val (.int p6), .val (.ref b1), .val (.ref b3), .val v6, .val v8, .val v10, .val (.int p2), .val (.int p3), .val (.int v12), .val (.int v16), .val (.int v20), .val (.int v24), .val (.int (2 : Int32)), .val (.ref b58), .unset, .unset, .unset, .unset, .unset, .unset, .unset, .unset] [v6, (.ref b58)]))
    refine OutW.back (fun t k => XS.iload X59.here hx rfl (hb hby at_164) rfl  k) ?_
    show OutW _ _ _ _ _ _ _ (T59.setTop (mkF m 166 #[.val (.int p1), .val (.int p2), .val (.int p3), .val (.int p4), .val (.int p5), .val (.int p6), .val (.ref b1), .val (.ref b3), .val v6, .val v8, .val v10, .val (.int p2), .val (.int p3), .val (.int v12), .val (.int v16), .val (.int v20), .val (.int v24), .val (.int (2 : Int32)), .val (.ref b58), .unset, .unset, .unset, .unset, .unset, .unset, .unset, .unset] [(.int p2), v6, (.ref b58)]))
    refine OutW.back (fun t k => XS.iload X59.here hx rfl (hb hby at_166) rfl  k) ?_
    show OutW _ _ _ _ _ _ _ (T59.setTop (mkF m 168 #[.val (.int p1), .val (.int p2), .val (.int p3), .val (.int p4), .val (.int p5), .val (.int p6), .val (.ref b1), .val (.ref b3), .val v6, .val v8, .val v10, .val (.int p2), .val (.int p3), .val (.int v12), .val (.int v16), .val (.int v20), .val (.int v24), .val (.int (2 : Int32)), .val (.ref b58), .unset, .unset, .unset, .unset, .unset, .unset, .unset, .unset] [(.int p3), (.int p2), v6, (.ref b58)]))
    obtain ⟨cq60, kq60, qa60, qb60, qc60⟩ := isOf hZ e59 E_b58
    obtain ⟨_, _, ⟨T60, L60, k60, n60⟩, -, X60, ⟨Lc60, hQ60, l60, y60, z60⟩, st60⟩ := X59.virtualBack hx (y := (⟨"com/example/fogline/fogline/rules/RecentMoves", "add", "(Lcom/example/fogline/fogline/rules/Piece;II)V"⟩ : MethodName)) (z := (⟨"com/example/fogline/fogline/rules/RecentMoves", "add", "(Lcom/example/fogline/fogline/rules/Piece;II)V"⟩ : MethodName)) hown (mvT hZ (hw _ (List.mem_of_getElem? (i := 31) rfl))) (mvT hZ (hw _ (List.mem_of_getElem? (i := 32) rfl))) (notFace_of_selects (args := #[]) (mvT hZ (hw _ (List.mem_of_getElem? (i := 34) rfl)))) (mvT hZ (hw _ (List.mem_of_getElem? (i := 34) rfl))) (mvT hZ (hw _ (List.mem_of_getElem? (i := 33) rfl))) (by decide) (backOf (W := 0) (rm6 l Z a0 hw [] b58 v6 p2 p3 .null .null (0 : Int32) (0 : Int32) (0 : Int32) (0 : Int32) h58 n0 Z58 E_b58 g_b58 ir_v6 F_lastPiece_b58 F_pieceBefore_b58 F_lastFrom_b58 F_fromBefore_b58 F_lastTo_b58 F_toBefore_b58 rfl) hZ (hw _ (List.mem_of_getElem? (i := 35) rfl)) (hw _ (List.mem_of_getElem? (i := 19) rfl)) (by decide) (by decide)) qa60 qc60 (g := (mkF m 168 #[.val (.int p1), .val (.int p2), .val (.int p3), .val (.int p4), .val (.int p5), .val (.int p6), .val (.ref b1), .val (.ref b3), .val v6, .val v8, .val v10, .val (.int p2), .val (.int p3), .val (.int v12), .val (.int v16), .val (.int v20), .val (.int v24), .val (.int (2 : Int32)), .val (.ref b58), .unset, .unset, .unset, .unset, .unset, .unset, .unset, .unset] [(.int p3), (.int p2), v6, (.ref b58)])) rfl (by rw [hml]; rfl) (Steps.refl _) (argsL := [v6, (.int p2), (.int p3)]) (rest := []) (lenOf pd_4 rfl) rfl (by show 2 * 0 + _ ≤ _; exact Nat.le_of_eq rfl) (hb hby at_168) (fun _ _ => ⟨rfl, e59, (by decide : 3 + 0 ≤ _), (by decide : 14 + 0 ≤ _)⟩)
    dsimp only [Pt.U, Pt.locs, Pt.cells, Pt.slots] at X60 l60 y60 z60 st60 hQ60
    subst l60 y60 z60
    obtain ⟨h60, eh60⟩ : ∃ z, z = T60.heap := ⟨_, rfl⟩
    rw [← eh60] at hQ60
    have e60 : T60.heap = h60 := eh60.symm
    obtain ⟨rfl, Nq60, Kq60, F_lastPiece_b58, F_pieceBefore_b58, F_lastFrom_b58, F_fromBefore_b58, F_lastTo_b58, F_toBefore_b58⟩ := hQ60
    have E_b1 := E_b1.keep Kq60
    have E_b3 := E_b3.keep Kq60
    have E_b58 := E_b58.keep Kq60
    have Z60 : n0 ≤ h60.size := Nat.le_trans Z58 Kq60.1
    have K60 := K58.trans Kq60 (allS (Or.inr sz_b58) all0)
    have N60 := Fr.app N59 Nq60
    refine OutW.via st60 ?_
    show OutW _ _ _ _ _ _ _ (T60.setTop (mkF m 171 #[.val (.int p1), .val (.int p2), .val (.int p3), .val (.int p4), .val (.int p5), .val (.int p6), .val (.ref b1), .val (.ref b3), .val v6, .val v8, .val v10, .val (.int p2), .val (.int p3), .val (.int v12), .val (.int v16), .val (.int v20), .val (.int v24), .val (.int (2 : Int32)), .val (.ref b58), .unset, .unset, .unset, .unset, .unset, .unset, .unset, .unset] []))
    refine OutW.back (fun t k => XS.iload X60.here hx rfl (hb hby at_171) rfl  k) ?_
    show OutW _ _ _ _ _ _ _ (T60.setTop (mkF m 173 #[.val (.int p1), .val (.int p2), .val (.int p3), .val (.int p4), .val (.int p5), .val (.int p6), .val (.ref b1), .val (.ref b3), .val v6, .val v8, .val v10, .val (.int p2), .val (.int p3), .val (.int v12), .val (.int v16), .val (.int v20), .val (.int v24), .val (.int (2 : Int32)), .val (.ref b58), .unset, .unset, .unset, .unset, .unset, .unset, .unset, .unset] [(.int (2 : Int32))]))
    refine OutW.back (fun t k => XS.iconst X60.here hx rfl (hb hby at_173) k) ?_
    show OutW _ _ _ _ _ _ _ (T60.setTop (mkF m 174 #[.val (.int p1), .val (.int p2), .val (.int p3), .val (.int p4), .val (.int p5), .val (.int p6), .val (.ref b1), .val (.ref b3), .val v6, .val v8, .val v10, .val (.int p2), .val (.int p3), .val (.int v12), .val (.int v16), .val (.int v20), .val (.int v24), .val (.int (2 : Int32)), .val (.ref b58), .unset, .unset, .unset, .unset, .unset, .unset, .unset, .unset] [(.int (2 : Int32)), (.int (2 : Int32))]))
    refine OutW.back (fun t k => XS.icmpNo X60.here hx rfl (hb hby at_174) rfl (flt (by decide : ¬ ((2 : Int32) < (2 : Int32)))).1 k) ?_
    show OutW _ _ _ _ _ _ _ (T60.setTop (mkF m 177 #[.val (.int p1), .val (.int p2), .val (.int p3), .val (.int p4), .val (.int p5), .val (.int p6), .val (.ref b1), .val (.ref b3), .val v6, .val v8, .val v10, .val (.int p2), .val (.int p3), .val (.int v12), .val (.int v16), .val (.int v20), .val (.int v24), .val (.int (2 : Int32)), .val (.ref b58), .unset, .unset, .unset, .unset, .unset, .unset, .unset, .unset] []))
    refine OutW.back (fun t k => XS.aload X60.here hx rfl (hb hby at_177) rfl rfl  k) ?_
    show OutW _ _ _ _ _ _ _ (T60.setTop (mkF m 179 #[.val (.int p1), .val (.int p2), .val (.int p3), .val (.int p4), .val (.int p5), .val (.int p6), .val (.ref b1), .val (.ref b3), .val v6, .val v8, .val v10, .val (.int p2), .val (.int p3), .val (.int v12), .val (.int v16), .val (.int v20), .val (.int v24), .val (.int (2 : Int32)), .val (.ref b58), .unset, .unset, .unset, .unset, .unset, .unset, .unset, .unset] [(.ref b58)]))
    refine OutW.back (fun t k => XS.aload X60.here hx rfl (hb hby at_179) rfl ir_v8  k) ?_
    show OutW _ _ _ _ _ _ _ (T60.setTop (mkF m 181 #[.val (.int p1), .val (.int p2), .val (.int p3), .val (.int p4), .val (.int p5), .val (.int p6), .val (.ref b1), .val (.ref b3), .val v6, .val v8, .val v10, .val (.int p2), .val (.int p3), .val (.int v12), .val (.int v16), .val (.int v20), .val (.int v24), .val (.int (2 : Int32)), .val (.ref b58), .unset, .unset, .unset, .unset, .unset, .unset, .unset, .unset] [v8, (.ref b58)]))
    refine OutW.back (fun t k => XS.iload X60.here hx rfl (hb hby at_181) rfl  k) ?_
    show OutW _ _ _ _ _ _ _ (T60.setTop (mkF m 183 #[.val (.int p1), .val (.int p2), .val (.int p3), .val (.int p4), .val (.int p5), .val (.int p6), .val (.ref b1), .val (.ref b3), .val v6, .val v8, .val v10, .val (.int p2), .val (.int p3), .val (.int v12), .val (.int v16), .val (.int v20), .val (.int v24), .val (.int (2 : Int32)), .val (.ref b58), .unset, .unset, .unset, .unset, .unset, .unset, .unset, .unset] [(.int v12), v8, (.ref b58)]))
    refine OutW.back (fun t k => XS.iload X60.here hx rfl (hb hby at_183) rfl  k) ?_
    show OutW _ _ _ _ _ _ _ (T60.setTop (mkF m 185 #[.val (.int p1), .val (.int p2), .val (.int p3), .val (.int p4), .val (.int p5), .val (.int p6), .val (.ref b1), .val (.ref b3), .val v6, .val v8, .val v10, .val (.int p2), .val (.int p3), .val (.int v12), .val (.int v16), .val (.int v20), .val (.int v24), .val (.int (2 : Int32)), .val (.ref b58), .unset, .unset, .unset, .unset, .unset, .unset, .unset, .unset] [(.int v16), (.int v12), v8, (.ref b58)]))
    obtain ⟨cq61, kq61, qa61, qb61, qc61⟩ := isOf hZ e60 E_b58
    obtain ⟨_, _, ⟨T61, L61, k61, n61⟩, -, X61, ⟨Lc61, hQ61, l61, y61, z61⟩, st61⟩ := X60.virtualBack hx (y := (⟨"com/example/fogline/fogline/rules/RecentMoves", "add", "(Lcom/example/fogline/fogline/rules/Piece;II)V"⟩ : MethodName)) (z := (⟨"com/example/fogline/fogline/rules/RecentMoves", "add", "(Lcom/example/fogline/fogline/rules/Piece;II)V"⟩ : MethodName)) hown (mvT hZ (hw _ (List.mem_of_getElem? (i := 31) rfl))) (mvT hZ (hw _ (List.mem_of_getElem? (i := 32) rfl))) (notFace_of_selects (args := #[]) (mvT hZ (hw _ (List.mem_of_getElem? (i := 34) rfl)))) (mvT hZ (hw _ (List.mem_of_getElem? (i := 34) rfl))) (mvT hZ (hw _ (List.mem_of_getElem? (i := 33) rfl))) (by decide) (backOf (W := 0) (rm6 l Z a0 hw [] b58 v8 v12 v16 v6 .null p2 (0 : Int32) p3 (0 : Int32) h60 n0 Z60 E_b58 g_b58 ir_v8 F_lastPiece_b58 F_pieceBefore_b58 F_lastFrom_b58 F_fromBefore_b58 F_lastTo_b58 F_toBefore_b58 ir_v6) hZ (hw _ (List.mem_of_getElem? (i := 35) rfl)) (hw _ (List.mem_of_getElem? (i := 19) rfl)) (by decide) (by decide)) qa61 qc61 (g := (mkF m 185 #[.val (.int p1), .val (.int p2), .val (.int p3), .val (.int p4), .val (.int p5), .val (.int p6), .val (.ref b1), .val (.ref b3), .val v6, .val v8, .val v10, .val (.int p2), .val (.int p3), .val (.int v12), .val (.int v16), .val (.int v20), .val (.int v24), .val (.int (2 : Int32)), .val (.ref b58), .unset, .unset, .unset, .unset, .unset, .unset, .unset, .unset] [(.int v16), (.int v12), v8, (.ref b58)])) rfl (by rw [hml]; rfl) (Steps.refl _) (argsL := [v8, (.int v12), (.int v16)]) (rest := []) (lenOf pd_4 rfl) rfl (by show 2 * 0 + _ ≤ _; exact Nat.le_of_eq rfl) (hb hby at_185) (fun _ _ => ⟨rfl, e60, (by decide : 3 + 0 ≤ _), (by decide : 14 + 0 ≤ _)⟩)
    dsimp only [Pt.U, Pt.locs, Pt.cells, Pt.slots] at X61 l61 y61 z61 st61 hQ61
    subst l61 y61 z61
    obtain ⟨h61, eh61⟩ : ∃ z, z = T61.heap := ⟨_, rfl⟩
    rw [← eh61] at hQ61
    have e61 : T61.heap = h61 := eh61.symm
    obtain ⟨rfl, Nq61, Kq61, F_lastPiece_b58, F_pieceBefore_b58, F_lastFrom_b58, F_fromBefore_b58, F_lastTo_b58, F_toBefore_b58⟩ := hQ61
    have E_b1 := E_b1.keep Kq61
    have E_b3 := E_b3.keep Kq61
    have E_b58 := E_b58.keep Kq61
    have Z61 : n0 ≤ h61.size := Nat.le_trans Z60 Kq61.1
    have K61 := K60.trans Kq61 (allS (Or.inr sz_b58) all0)
    have N61 := Fr.app N60 Nq61
    refine OutW.via st61 ?_
    show OutW _ _ _ _ _ _ _ (T61.setTop (mkF m 188 #[.val (.int p1), .val (.int p2), .val (.int p3), .val (.int p4), .val (.int p5), .val (.int p6), .val (.ref b1), .val (.ref b3), .val v6, .val v8, .val v10, .val (.int p2), .val (.int p3), .val (.int v12), .val (.int v16), .val (.int v20), .val (.int v24), .val (.int (2 : Int32)), .val (.ref b58), .unset, .unset, .unset, .unset, .unset, .unset, .unset, .unset] []))
    refine OutW.back (fun t k => XS.iload X61.here hx rfl (hb hby at_188) rfl  k) ?_
    show OutW _ _ _ _ _ _ _ (T61.setTop (mkF m 190 #[.val (.int p1), .val (.int p2), .val (.int p3), .val (.int p4), .val (.int p5), .val (.int p6), .val (.ref b1), .val (.ref b3), .val v6, .val v8, .val v10, .val (.int p2), .val (.int p3), .val (.int v12), .val (.int v16), .val (.int v20), .val (.int v24), .val (.int (2 : Int32)), .val (.ref b58), .unset, .unset, .unset, .unset, .unset, .unset, .unset, .unset] [(.int (2 : Int32))]))
    refine OutW.back (fun t k => XS.iconst X61.here hx rfl (hb hby at_190) k) ?_
    show OutW _ _ _ _ _ _ _ (T61.setTop (mkF m 191 #[.val (.int p1), .val (.int p2), .val (.int p3), .val (.int p4), .val (.int p5), .val (.int p6), .val (.ref b1), .val (.ref b3), .val v6, .val v8, .val v10, .val (.int p2), .val (.int p3), .val (.int v12), .val (.int v16), .val (.int v20), .val (.int v24), .val (.int (2 : Int32)), .val (.ref b58), .unset, .unset, .unset, .unset, .unset, .unset, .unset, .unset] [(.int (3 : Int32)), (.int (2 : Int32))]))
    refine OutW.back (fun t k => XS.icmpYes X61.here hx rfl (pc0 := 191) (pc' := 205) rfl (hb hby at_191) rfl (tlt (by decide : (2 : Int32) < (3 : Int32))).1 (by decide) (by decide) k) ?_
    show OutW _ _ _ _ _ _ _ (T61.setTop (mkF m 205 #[.val (.int p1), .val (.int p2), .val (.int p3), .val (.int p4), .val (.int p5), .val (.int p6), .val (.ref b1), .val (.ref b3), .val v6, .val v8, .val v10, .val (.int p2), .val (.int p3), .val (.int v12), .val (.int v16), .val (.int v20), .val (.int v24), .val (.int (2 : Int32)), .val (.ref b58), .unset, .unset, .unset, .unset, .unset, .unset, .unset, .unset] []))
    refine OutW.back (fun t k => XS.aload X61.here hx rfl (hb hby at_205) rfl rfl  k) ?_
    show OutW _ _ _ _ _ _ _ (T61.setTop (mkF m 207 #[.val (.int p1), .val (.int p2), .val (.int p3), .val (.int p4), .val (.int p5), .val (.int p6), .val (.ref b1), .val (.ref b3), .val v6, .val v8, .val v10, .val (.int p2), .val (.int p3), .val (.int v12), .val (.int v16), .val (.int v20), .val (.int v24), .val (.int (2 : Int32)), .val (.ref b58), .unset, .unset, .unset, .unset, .unset, .unset, .unset, .unset] [(.ref b58)]))
    obtain ⟨cq62, kq62, qa62, qb62, qc62⟩ := isOf hZ e61 E_b58
    obtain ⟨_, _, ⟨T62, L62, k62, n62⟩, -, X62, ⟨Lc62, hQ62, l62, y62, z62⟩, st62⟩ := X61.virtualBack hx (y := (⟨"com/example/fogline/fogline/rules/RecentMoves", "wentBack", "()Z"⟩ : MethodName)) (z := (⟨"com/example/fogline/fogline/rules/RecentMoves", "wentBack", "()Z"⟩ : MethodName)) hown (mvT hZ (hw _ (List.mem_of_getElem? (i := 24) rfl))) (mvT hZ (hw _ (List.mem_of_getElem? (i := 25) rfl))) (notFace_of_selects (args := #[]) (mvT hZ (hw _ (List.mem_of_getElem? (i := 27) rfl)))) (mvT hZ (hw _ (List.mem_of_getElem? (i := 27) rfl))) (mvT hZ (hw _ (List.mem_of_getElem? (i := 26) rfl))) (by decide) (backOf (W := 0) (rm5 l Z a0 hw [] b58 v8 v6 v12 p2 v16 p3 h61 n0 Z61 F_lastPiece_b58 F_pieceBefore_b58 F_lastFrom_b58 F_fromBefore_b58 F_lastTo_b58 F_toBefore_b58 ir_v8 ir_v6) hZ (hw _ (List.mem_of_getElem? (i := 28) rfl)) (hw _ (List.mem_of_getElem? (i := 19) rfl)) (by decide) (by decide)) qa62 qc62 (g := (mkF m 207 #[.val (.int p1), .val (.int p2), .val (.int p3), .val (.int p4), .val (.int p5), .val (.int p6), .val (.ref b1), .val (.ref b3), .val v6, .val v8, .val v10, .val (.int p2), .val (.int p3), .val (.int v12), .val (.int v16), .val (.int v20), .val (.int v24), .val (.int (2 : Int32)), .val (.ref b58), .unset, .unset, .unset, .unset, .unset, .unset, .unset, .unset] [(.ref b58)])) rfl (by rw [hml]; rfl) (Steps.refl _) (argsL := []) (rest := []) (lenOf pd_3 rfl) rfl (by show 2 * 0 + _ ≤ _; exact Nat.le_of_eq rfl) (hb hby at_207) (fun _ _ => ⟨rfl, e61, (by decide : 3 + 0 ≤ _), (by decide : 14 + 0 ≤ _)⟩)
    dsimp only [Pt.U, Pt.locs, Pt.cells, Pt.slots] at X62 l62 y62 z62 st62 hQ62
    subst l62 y62 z62
    obtain ⟨rfl, Nq62, e62⟩ := hQ62
    have N62 := Fr.app N61 Nq62
    refine OutW.via st62 ?_
    show OutW _ _ _ _ _ _ _ (T62.setTop (mkF m 210 #[.val (.int p1), .val (.int p2), .val (.int p3), .val (.int p4), .val (.int p5), .val (.int p6), .val (.ref b1), .val (.ref b3), .val v6, .val v8, .val v10, .val (.int p2), .val (.int p3), .val (.int v12), .val (.int v16), .val (.int v20), .val (.int v24), .val (.int (2 : Int32)), .val (.ref b58), .unset, .unset, .unset, .unset, .unset, .unset, .unset, .unset] [(.int (wentF v8 v6 v12 p2 v16 p3))]))
    generalize hv_v63 : (wentF v8 v6 v12 p2 v16 p3) = v63
    refine OutW.back (fun t k => XS.istore X62.here hx rfl (hb hby at_210) rfl (l' := #[.val (.int p1), .val (.int p2), .val (.int p3), .val (.int p4), .val (.int p5), .val (.int p6), .val (.ref b1), .val (.ref b3), .val v6, .val v8, .val v10, .val (.int p2), .val (.int p3), .val (.int v12), .val (.int v16), .val (.int v20), .val (.int v24), .val (.int (2 : Int32)), .val (.ref b58), .val (.int v63), .unset, .unset, .unset, .unset, .unset, .unset, .unset]) rfl k) ?_
    show OutW _ _ _ _ _ _ _ (T62.setTop (mkF m 212 #[.val (.int p1), .val (.int p2), .val (.int p3), .val (.int p4), .val (.int p5), .val (.int p6), .val (.ref b1), .val (.ref b3), .val v6, .val v8, .val v10, .val (.int p2), .val (.int p3), .val (.int v12), .val (.int v16), .val (.int v20), .val (.int v24), .val (.int (2 : Int32)), .val (.ref b58), .val (.int v63), .unset, .unset, .unset, .unset, .unset, .unset, .unset] []))
    refine OutW.back (fun t k => XS.aconstNull X62.here hx rfl (hb hby at_212) k) ?_
    show OutW _ _ _ _ _ _ _ (T62.setTop (mkF m 213 #[.val (.int p1), .val (.int p2), .val (.int p3), .val (.int p4), .val (.int p5), .val (.int p6), .val (.ref b1), .val (.ref b3), .val v6, .val v8, .val v10, .val (.int p2), .val (.int p3), .val (.int v12), .val (.int v16), .val (.int v20), .val (.int v24), .val (.int (2 : Int32)), .val (.ref b58), .val (.int v63), .unset, .unset, .unset, .unset, .unset, .unset, .unset] [.null]))
    refine OutW.back (fun t k => XS.astore X62.here hx rfl (hb hby at_213) rfl rfl (l' := #[.val (.int p1), .val (.int p2), .val (.int p3), .val (.int p4), .val (.int p5), .val (.int p6), .val (.ref b1), .val (.ref b3), .val v6, .val v8, .val v10, .val (.int p2), .val (.int p3), .val (.int v12), .val (.int v16), .val (.int v20), .val (.int v24), .val (.int (2 : Int32)), .val (.ref b58), .val (.int v63), .val .null, .unset, .unset, .unset, .unset, .unset, .unset]) rfl k) ?_
    show OutW _ _ _ _ _ _ _ (T62.setTop (mkF m 215 #[.val (.int p1), .val (.int p2), .val (.int p3), .val (.int p4), .val (.int p5), .val (.int p6), .val (.ref b1), .val (.ref b3), .val v6, .val v8, .val v10, .val (.int p2), .val (.int p3), .val (.int v12), .val (.int v16), .val (.int v20), .val (.int v24), .val (.int (2 : Int32)), .val (.ref b58), .val (.int v63), .val .null, .unset, .unset, .unset, .unset, .unset, .unset] []))
    refine OutW.back (fun t k => XS.aconstNull X62.here hx rfl (hb hby at_215) k) ?_
    show OutW _ _ _ _ _ _ _ (T62.setTop (mkF m 216 #[.val (.int p1), .val (.int p2), .val (.int p3), .val (.int p4), .val (.int p5), .val (.int p6), .val (.ref b1), .val (.ref b3), .val v6, .val v8, .val v10, .val (.int p2), .val (.int p3), .val (.int v12), .val (.int v16), .val (.int v20), .val (.int v24), .val (.int (2 : Int32)), .val (.ref b58), .val (.int v63), .val .null, .unset, .unset, .unset, .unset, .unset, .unset] [.null]))
    refine OutW.back (fun t k => XS.astore X62.here hx rfl (hb hby at_216) rfl rfl (l' := #[.val (.int p1), .val (.int p2), .val (.int p3), .val (.int p4), .val (.int p5), .val (.int p6), .val (.ref b1), .val (.ref b3), .val v6, .val v8, .val v10, .val (.int p2), .val (.int p3), .val (.int v12), .val (.int v16), .val (.int v20), .val (.int v24), .val (.int (2 : Int32)), .val (.ref b58), .val (.int v63), .val .null, .val .null, .unset, .unset, .unset, .unset, .unset]) rfl k) ?_
    show OutW _ _ _ _ _ _ _ (T62.setTop (mkF m 218 #[.val (.int p1), .val (.int p2), .val (.int p3), .val (.int p4), .val (.int p5), .val (.int p6), .val (.ref b1), .val (.ref b3), .val v6, .val v8, .val v10, .val (.int p2), .val (.int p3), .val (.int v12), .val (.int v16), .val (.int v20), .val (.int v24), .val (.int (2 : Int32)), .val (.ref b58), .val (.int v63), .val .null, .val .null, .unset, .unset, .unset, .unset, .unset] []))
    refine OutW.back (fun t k => XS.iconst X62.here hx rfl (hb hby at_218) k) ?_
    show OutW _ _ _ _ _ _ _ (T62.setTop (mkF m 219 #[.val (.int p1), .val (.int p2), .val (.int p3), .val (.int p4), .val (.int p5), .val (.int p6), .val (.ref b1), .val (.ref b3), .val v6, .val v8, .val v10, .val (.int p2), .val (.int p3), .val (.int v12), .val (.int v16), .val (.int v20), .val (.int v24), .val (.int (2 : Int32)), .val (.ref b58), .val (.int v63), .val .null, .val .null, .unset, .unset, .unset, .unset, .unset] [(.int (0 : Int32))]))
    refine OutW.back (fun t k => XS.istore X62.here hx rfl (hb hby at_219) rfl (l' := #[.val (.int p1), .val (.int p2), .val (.int p3), .val (.int p4), .val (.int p5), .val (.int p6), .val (.ref b1), .val (.ref b3), .val v6, .val v8, .val v10, .val (.int p2), .val (.int p3), .val (.int v12), .val (.int v16), .val (.int v20), .val (.int v24), .val (.int (2 : Int32)), .val (.ref b58), .val (.int v63), .val .null, .val .null, .val (.int (0 : Int32)), .unset, .unset, .unset, .unset]) rfl k) ?_
    show OutW _ _ _ _ _ _ _ (T62.setTop (mkF m 221 #[.val (.int p1), .val (.int p2), .val (.int p3), .val (.int p4), .val (.int p5), .val (.int p6), .val (.ref b1), .val (.ref b3), .val v6, .val v8, .val v10, .val (.int p2), .val (.int p3), .val (.int v12), .val (.int v16), .val (.int v20), .val (.int v24), .val (.int (2 : Int32)), .val (.ref b58), .val (.int v63), .val .null, .val .null, .val (.int (0 : Int32)), .unset, .unset, .unset, .unset] []))
    refine OutW.back (fun t k => XS.iconst X62.here hx rfl (hb hby at_221) k) ?_
    show OutW _ _ _ _ _ _ _ (T62.setTop (mkF m 222 #[.val (.int p1), .val (.int p2), .val (.int p3), .val (.int p4), .val (.int p5), .val (.int p6), .val (.ref b1), .val (.ref b3), .val v6, .val v8, .val v10, .val (.int p2), .val (.int p3), .val (.int v12), .val (.int v16), .val (.int v20), .val (.int v24), .val (.int (2 : Int32)), .val (.ref b58), .val (.int v63), .val .null, .val .null, .val (.int (0 : Int32)), .unset, .unset, .unset, .unset] [(.int (0 : Int32))]))
    refine OutW.back (fun t k => XS.istore X62.here hx rfl (hb hby at_222) rfl (l' := #[.val (.int p1), .val (.int p2), .val (.int p3), .val (.int p4), .val (.int p5), .val (.int p6), .val (.ref b1), .val (.ref b3), .val v6, .val v8, .val v10, .val (.int p2), .val (.int p3), .val (.int v12), .val (.int v16), .val (.int v20), .val (.int v24), .val (.int (2 : Int32)), .val (.ref b58), .val (.int v63), .val .null, .val .null, .val (.int (0 : Int32)), .val (.int (0 : Int32)), .unset, .unset, .unset]) rfl k) ?_
    show OutW _ _ _ _ _ _ _ (T62.setTop (mkF m 224 #[.val (.int p1), .val (.int p2), .val (.int p3), .val (.int p4), .val (.int p5), .val (.int p6), .val (.ref b1), .val (.ref b3), .val v6, .val v8, .val v10, .val (.int p2), .val (.int p3), .val (.int v12), .val (.int v16), .val (.int v20), .val (.int v24), .val (.int (2 : Int32)), .val (.ref b58), .val (.int v63), .val .null, .val .null, .val (.int (0 : Int32)), .val (.int (0 : Int32)), .unset, .unset, .unset] []))
    refine OutW.back (fun t k => XS.iconst X62.here hx rfl (hb hby at_224) k) ?_
    show OutW _ _ _ _ _ _ _ (T62.setTop (mkF m 225 #[.val (.int p1), .val (.int p2), .val (.int p3), .val (.int p4), .val (.int p5), .val (.int p6), .val (.ref b1), .val (.ref b3), .val v6, .val v8, .val v10, .val (.int p2), .val (.int p3), .val (.int v12), .val (.int v16), .val (.int v20), .val (.int v24), .val (.int (2 : Int32)), .val (.ref b58), .val (.int v63), .val .null, .val .null, .val (.int (0 : Int32)), .val (.int (0 : Int32)), .unset, .unset, .unset] [(.int (0 : Int32))]))
    refine OutW.back (fun t k => XS.istore X62.here hx rfl (hb hby at_225) rfl (l' := #[.val (.int p1), .val (.int p2), .val (.int p3), .val (.int p4), .val (.int p5), .val (.int p6), .val (.ref b1), .val (.ref b3), .val v6, .val v8, .val v10, .val (.int p2), .val (.int p3), .val (.int v12), .val (.int v16), .val (.int v20), .val (.int v24), .val (.int (2 : Int32)), .val (.ref b58), .val (.int v63), .val .null, .val .null, .val (.int (0 : Int32)), .val (.int (0 : Int32)), .val (.int (0 : Int32)), .unset, .unset]) rfl k) ?_
    show OutW _ _ _ _ _ _ _ (T62.setTop (mkF m 227 #[.val (.int p1), .val (.int p2), .val (.int p3), .val (.int p4), .val (.int p5), .val (.int p6), .val (.ref b1), .val (.ref b3), .val v6, .val v8, .val v10, .val (.int p2), .val (.int p3), .val (.int v12), .val (.int v16), .val (.int v20), .val (.int v24), .val (.int (2 : Int32)), .val (.ref b58), .val (.int v63), .val .null, .val .null, .val (.int (0 : Int32)), .val (.int (0 : Int32)), .val (.int (0 : Int32)), .unset, .unset] []))
    refine OutW.back (fun t k => XS.iconst X62.here hx rfl (hb hby at_227) k) ?_
    show OutW _ _ _ _ _ _ _ (T62.setTop (mkF m 228 #[.val (.int p1), .val (.int p2), .val (.int p3), .val (.int p4), .val (.int p5), .val (.int p6), .val (.ref b1), .val (.ref b3), .val v6, .val v8, .val v10, .val (.int p2), .val (.int p3), .val (.int v12), .val (.int v16), .val (.int v20), .val (.int v24), .val (.int (2 : Int32)), .val (.ref b58), .val (.int v63), .val .null, .val .null, .val (.int (0 : Int32)), .val (.int (0 : Int32)), .val (.int (0 : Int32)), .unset, .unset] [(.int (0 : Int32))]))
    refine OutW.back (fun t k => XS.istore X62.here hx rfl (hb hby at_228) rfl (l' := #[.val (.int p1), .val (.int p2), .val (.int p3), .val (.int p4), .val (.int p5), .val (.int p6), .val (.ref b1), .val (.ref b3), .val v6, .val v8, .val v10, .val (.int p2), .val (.int p3), .val (.int v12), .val (.int v16), .val (.int v20), .val (.int v24), .val (.int (2 : Int32)), .val (.ref b58), .val (.int v63), .val .null, .val .null, .val (.int (0 : Int32)), .val (.int (0 : Int32)), .val (.int (0 : Int32)), .val (.int (0 : Int32)), .unset]) rfl k) ?_
    show OutW _ _ _ _ _ _ _ (T62.setTop (mkF m 230 #[.val (.int p1), .val (.int p2), .val (.int p3), .val (.int p4), .val (.int p5), .val (.int p6), .val (.ref b1), .val (.ref b3), .val v6, .val v8, .val v10, .val (.int p2), .val (.int p3), .val (.int v12), .val (.int v16), .val (.int v20), .val (.int v24), .val (.int (2 : Int32)), .val (.ref b58), .val (.int v63), .val .null, .val .null, .val (.int (0 : Int32)), .val (.int (0 : Int32)), .val (.int (0 : Int32)), .val (.int (0 : Int32)), .unset] []))
    refine OutW.back (fun t k => XS.iload X62.here hx rfl (hb hby at_230) rfl  k) ?_
    show OutW _ _ _ _ _ _ _ (T62.setTop (mkF m 232 #[.val (.int p1), .val (.int p2), .val (.int p3), .val (.int p4), .val (.int p5), .val (.int p6), .val (.ref b1), .val (.ref b3), .val v6, .val v8, .val v10, .val (.int p2), .val (.int p3), .val (.int v12), .val (.int v16), .val (.int v20), .val (.int v24), .val (.int (2 : Int32)), .val (.ref b58), .val (.int v63), .val .null, .val .null, .val (.int (0 : Int32)), .val (.int (0 : Int32)), .val (.int (0 : Int32)), .val (.int (0 : Int32)), .unset] [(.int (2 : Int32))]))
    refine OutW.back (fun t k => XS.iconst X62.here hx rfl (hb hby at_232) k) ?_
    show OutW _ _ _ _ _ _ _ (T62.setTop (mkF m 233 #[.val (.int p1), .val (.int p2), .val (.int p3), .val (.int p4), .val (.int p5), .val (.int p6), .val (.ref b1), .val (.ref b3), .val v6, .val v8, .val v10, .val (.int p2), .val (.int p3), .val (.int v12), .val (.int v16), .val (.int v20), .val (.int v24), .val (.int (2 : Int32)), .val (.ref b58), .val (.int v63), .val .null, .val .null, .val (.int (0 : Int32)), .val (.int (0 : Int32)), .val (.int (0 : Int32)), .val (.int (0 : Int32)), .unset] [(.int (1 : Int32)), (.int (2 : Int32))]))
    refine OutW.back (fun t k => XS.icmpYes X62.here hx rfl (pc0 := 233) (pc' := 251) rfl (hb hby at_233) rfl (feq (by decide : ¬ ((2 : Int32) = (1 : Int32)))).2 (by decide) (by decide) k) ?_
    show OutW _ _ _ _ _ _ _ (T62.setTop (mkF m 251 #[.val (.int p1), .val (.int p2), .val (.int p3), .val (.int p4), .val (.int p5), .val (.int p6), .val (.ref b1), .val (.ref b3), .val v6, .val v8, .val v10, .val (.int p2), .val (.int p3), .val (.int v12), .val (.int v16), .val (.int v20), .val (.int v24), .val (.int (2 : Int32)), .val (.ref b58), .val (.int v63), .val .null, .val .null, .val (.int (0 : Int32)), .val (.int (0 : Int32)), .val (.int (0 : Int32)), .val (.int (0 : Int32)), .unset] []))
    refine OutW.back (fun t k => XS.iload X62.here hx rfl (hb hby at_251) rfl  k) ?_
    show OutW _ _ _ _ _ _ _ (T62.setTop (mkF m 253 #[.val (.int p1), .val (.int p2), .val (.int p3), .val (.int p4), .val (.int p5), .val (.int p6), .val (.ref b1), .val (.ref b3), .val v6, .val v8, .val v10, .val (.int p2), .val (.int p3), .val (.int v12), .val (.int v16), .val (.int v20), .val (.int v24), .val (.int (2 : Int32)), .val (.ref b58), .val (.int v63), .val .null, .val .null, .val (.int (0 : Int32)), .val (.int (0 : Int32)), .val (.int (0 : Int32)), .val (.int (0 : Int32)), .unset] [(.int (2 : Int32))]))
    refine OutW.back (fun t k => XS.iconst X62.here hx rfl (hb hby at_253) k) ?_
    show OutW _ _ _ _ _ _ _ (T62.setTop (mkF m 254 #[.val (.int p1), .val (.int p2), .val (.int p3), .val (.int p4), .val (.int p5), .val (.int p6), .val (.ref b1), .val (.ref b3), .val v6, .val v8, .val v10, .val (.int p2), .val (.int p3), .val (.int v12), .val (.int v16), .val (.int v20), .val (.int v24), .val (.int (2 : Int32)), .val (.ref b58), .val (.int v63), .val .null, .val .null, .val (.int (0 : Int32)), .val (.int (0 : Int32)), .val (.int (0 : Int32)), .val (.int (0 : Int32)), .unset] [(.int (2 : Int32)), (.int (2 : Int32))]))
    refine OutW.back (fun t k => XS.icmpNo X62.here hx rfl (hb hby at_254) rfl (teq (by decide : (2 : Int32) = (2 : Int32))).2 k) ?_
    show OutW _ _ _ _ _ _ _ (T62.setTop (mkF m 257 #[.val (.int p1), .val (.int p2), .val (.int p3), .val (.int p4), .val (.int p5), .val (.int p6), .val (.ref b1), .val (.ref b3), .val v6, .val v8, .val v10, .val (.int p2), .val (.int p3), .val (.int v12), .val (.int v16), .val (.int v20), .val (.int v24), .val (.int (2 : Int32)), .val (.ref b58), .val (.int v63), .val .null, .val .null, .val (.int (0 : Int32)), .val (.int (0 : Int32)), .val (.int (0 : Int32)), .val (.int (0 : Int32)), .unset] []))
    refine OutW.back (fun t k => XS.aload X62.here hx rfl (hb hby at_257) rfl ir_v8  k) ?_
    show OutW _ _ _ _ _ _ _ (T62.setTop (mkF m 259 #[.val (.int p1), .val (.int p2), .val (.int p3), .val (.int p4), .val (.int p5), .val (.int p6), .val (.ref b1), .val (.ref b3), .val v6, .val v8, .val v10, .val (.int p2), .val (.int p3), .val (.int v12), .val (.int v16), .val (.int v20), .val (.int v24), .val (.int (2 : Int32)), .val (.ref b58), .val (.int v63), .val .null, .val .null, .val (.int (0 : Int32)), .val (.int (0 : Int32)), .val (.int (0 : Int32)), .val (.int (0 : Int32)), .unset] [v8]))
    refine OutW.back (fun t k => XS.astore X62.here hx rfl (hb hby at_259) rfl ir_v8 (l' := #[.val (.int p1), .val (.int p2), .val (.int p3), .val (.int p4), .val (.int p5), .val (.int p6), .val (.ref b1), .val (.ref b3), .val v6, .val v8, .val v10, .val (.int p2), .val (.int p3), .val (.int v12), .val (.int v16), .val (.int v20), .val (.int v24), .val (.int (2 : Int32)), .val (.ref b58), .val (.int v63), .val v8, .val .null, .val (.int (0 : Int32)), .val (.int (0 : Int32)), .val (.int (0 : Int32)), .val (.int (0 : Int32)), .unset]) (store1' (o := .val .null) rfl (One.val rfl) (cat_ref ir_v8) rfl) k) ?_
    show OutW _ _ _ _ _ _ _ (T62.setTop (mkF m 261 #[.val (.int p1), .val (.int p2), .val (.int p3), .val (.int p4), .val (.int p5), .val (.int p6), .val (.ref b1), .val (.ref b3), .val v6, .val v8, .val v10, .val (.int p2), .val (.int p3), .val (.int v12), .val (.int v16), .val (.int v20), .val (.int v24), .val (.int (2 : Int32)), .val (.ref b58), .val (.int v63), .val v8, .val .null, .val (.int (0 : Int32)), .val (.int (0 : Int32)), .val (.int (0 : Int32)), .val (.int (0 : Int32)), .unset] []))
    refine OutW.back (fun t k => XS.iload X62.here hx rfl (hb hby at_261) rfl  k) ?_
    show OutW _ _ _ _ _ _ _ (T62.setTop (mkF m 263 #[.val (.int p1), .val (.int p2), .val (.int p3), .val (.int p4), .val (.int p5), .val (.int p6), .val (.ref b1), .val (.ref b3), .val v6, .val v8, .val v10, .val (.int p2), .val (.int p3), .val (.int v12), .val (.int v16), .val (.int v20), .val (.int v24), .val (.int (2 : Int32)), .val (.ref b58), .val (.int v63), .val v8, .val .null, .val (.int (0 : Int32)), .val (.int (0 : Int32)), .val (.int (0 : Int32)), .val (.int (0 : Int32)), .unset] [(.int v12)]))
    refine OutW.back (fun t k => XS.istore X62.here hx rfl (hb hby at_263) rfl (l' := #[.val (.int p1), .val (.int p2), .val (.int p3), .val (.int p4), .val (.int p5), .val (.int p6), .val (.ref b1), .val (.ref b3), .val v6, .val v8, .val v10, .val (.int p2), .val (.int p3), .val (.int v12), .val (.int v16), .val (.int v20), .val (.int v24), .val (.int (2 : Int32)), .val (.ref b58), .val (.int v63), .val v8, .val .null, .val (.int v12), .val (.int (0 : Int32)), .val (.int (0 : Int32)), .val (.int (0 : Int32)), .unset]) rfl k) ?_
    show OutW _ _ _ _ _ _ _ (T62.setTop (mkF m 265 #[.val (.int p1), .val (.int p2), .val (.int p3), .val (.int p4), .val (.int p5), .val (.int p6), .val (.ref b1), .val (.ref b3), .val v6, .val v8, .val v10, .val (.int p2), .val (.int p3), .val (.int v12), .val (.int v16), .val (.int v20), .val (.int v24), .val (.int (2 : Int32)), .val (.ref b58), .val (.int v63), .val v8, .val .null, .val (.int v12), .val (.int (0 : Int32)), .val (.int (0 : Int32)), .val (.int (0 : Int32)), .unset] []))
    refine OutW.back (fun t k => XS.iload X62.here hx rfl (hb hby at_265) rfl  k) ?_
    show OutW _ _ _ _ _ _ _ (T62.setTop (mkF m 267 #[.val (.int p1), .val (.int p2), .val (.int p3), .val (.int p4), .val (.int p5), .val (.int p6), .val (.ref b1), .val (.ref b3), .val v6, .val v8, .val v10, .val (.int p2), .val (.int p3), .val (.int v12), .val (.int v16), .val (.int v20), .val (.int v24), .val (.int (2 : Int32)), .val (.ref b58), .val (.int v63), .val v8, .val .null, .val (.int v12), .val (.int (0 : Int32)), .val (.int (0 : Int32)), .val (.int (0 : Int32)), .unset] [(.int v16)]))
    refine OutW.back (fun t k => XS.istore X62.here hx rfl (hb hby at_267) rfl (l' := #[.val (.int p1), .val (.int p2), .val (.int p3), .val (.int p4), .val (.int p5), .val (.int p6), .val (.ref b1), .val (.ref b3), .val v6, .val v8, .val v10, .val (.int p2), .val (.int p3), .val (.int v12), .val (.int v16), .val (.int v20), .val (.int v24), .val (.int (2 : Int32)), .val (.ref b58), .val (.int v63), .val v8, .val .null, .val (.int v12), .val (.int v16), .val (.int (0 : Int32)), .val (.int (0 : Int32)), .unset]) rfl k) ?_
    show OutW _ _ _ _ _ _ _ (T62.setTop (mkF m 269 #[.val (.int p1), .val (.int p2), .val (.int p3), .val (.int p4), .val (.int p5), .val (.int p6), .val (.ref b1), .val (.ref b3), .val v6, .val v8, .val v10, .val (.int p2), .val (.int p3), .val (.int v12), .val (.int v16), .val (.int v20), .val (.int v24), .val (.int (2 : Int32)), .val (.ref b58), .val (.int v63), .val v8, .val .null, .val (.int v12), .val (.int v16), .val (.int (0 : Int32)), .val (.int (0 : Int32)), .unset] []))
    refine OutW.back (fun t k => XS.aload X62.here hx rfl (hb hby at_269) rfl ir_v6  k) ?_
    show OutW _ _ _ _ _ _ _ (T62.setTop (mkF m 271 #[.val (.int p1), .val (.int p2), .val (.int p3), .val (.int p4), .val (.int p5), .val (.int p6), .val (.ref b1), .val (.ref b3), .val v6, .val v8, .val v10, .val (.int p2), .val (.int p3), .val (.int v12), .val (.int v16), .val (.int v20), .val (.int v24), .val (.int (2 : Int32)), .val (.ref b58), .val (.int v63), .val v8, .val .null, .val (.int v12), .val (.int v16), .val (.int (0 : Int32)), .val (.int (0 : Int32)), .unset] [v6]))
    refine OutW.back (fun t k => XS.astore X62.here hx rfl (hb hby at_271) rfl ir_v6 (l' := #[.val (.int p1), .val (.int p2), .val (.int p3), .val (.int p4), .val (.int p5), .val (.int p6), .val (.ref b1), .val (.ref b3), .val v6, .val v8, .val v10, .val (.int p2), .val (.int p3), .val (.int v12), .val (.int v16), .val (.int v20), .val (.int v24), .val (.int (2 : Int32)), .val (.ref b58), .val (.int v63), .val v8, .val v6, .val (.int v12), .val (.int v16), .val (.int (0 : Int32)), .val (.int (0 : Int32)), .unset]) (store1' (o := .val .null) rfl (One.val rfl) (cat_ref ir_v6) rfl) k) ?_
    show OutW _ _ _ _ _ _ _ (T62.setTop (mkF m 273 #[.val (.int p1), .val (.int p2), .val (.int p3), .val (.int p4), .val (.int p5), .val (.int p6), .val (.ref b1), .val (.ref b3), .val v6, .val v8, .val v10, .val (.int p2), .val (.int p3), .val (.int v12), .val (.int v16), .val (.int v20), .val (.int v24), .val (.int (2 : Int32)), .val (.ref b58), .val (.int v63), .val v8, .val v6, .val (.int v12), .val (.int v16), .val (.int (0 : Int32)), .val (.int (0 : Int32)), .unset] []))
    refine OutW.back (fun t k => XS.iload X62.here hx rfl (hb hby at_273) rfl  k) ?_
    show OutW _ _ _ _ _ _ _ (T62.setTop (mkF m 275 #[.val (.int p1), .val (.int p2), .val (.int p3), .val (.int p4), .val (.int p5), .val (.int p6), .val (.ref b1), .val (.ref b3), .val v6, .val v8, .val v10, .val (.int p2), .val (.int p3), .val (.int v12), .val (.int v16), .val (.int v20), .val (.int v24), .val (.int (2 : Int32)), .val (.ref b58), .val (.int v63), .val v8, .val v6, .val (.int v12), .val (.int v16), .val (.int (0 : Int32)), .val (.int (0 : Int32)), .unset] [(.int p2)]))
    refine OutW.back (fun t k => XS.istore X62.here hx rfl (hb hby at_275) rfl (l' := #[.val (.int p1), .val (.int p2), .val (.int p3), .val (.int p4), .val (.int p5), .val (.int p6), .val (.ref b1), .val (.ref b3), .val v6, .val v8, .val v10, .val (.int p2), .val (.int p3), .val (.int v12), .val (.int v16), .val (.int v20), .val (.int v24), .val (.int (2 : Int32)), .val (.ref b58), .val (.int v63), .val v8, .val v6, .val (.int v12), .val (.int v16), .val (.int p2), .val (.int (0 : Int32)), .unset]) rfl k) ?_
    show OutW _ _ _ _ _ _ _ (T62.setTop (mkF m 277 #[.val (.int p1), .val (.int p2), .val (.int p3), .val (.int p4), .val (.int p5), .val (.int p6), .val (.ref b1), .val (.ref b3), .val v6, .val v8, .val v10, .val (.int p2), .val (.int p3), .val (.int v12), .val (.int v16), .val (.int v20), .val (.int v24), .val (.int (2 : Int32)), .val (.ref b58), .val (.int v63), .val v8, .val v6, .val (.int v12), .val (.int v16), .val (.int p2), .val (.int (0 : Int32)), .unset] []))
    refine OutW.back (fun t k => XS.iload X62.here hx rfl (hb hby at_277) rfl  k) ?_
    show OutW _ _ _ _ _ _ _ (T62.setTop (mkF m 279 #[.val (.int p1), .val (.int p2), .val (.int p3), .val (.int p4), .val (.int p5), .val (.int p6), .val (.ref b1), .val (.ref b3), .val v6, .val v8, .val v10, .val (.int p2), .val (.int p3), .val (.int v12), .val (.int v16), .val (.int v20), .val (.int v24), .val (.int (2 : Int32)), .val (.ref b58), .val (.int v63), .val v8, .val v6, .val (.int v12), .val (.int v16), .val (.int p2), .val (.int (0 : Int32)), .unset] [(.int p3)]))
    refine OutW.back (fun t k => XS.istore X62.here hx rfl (hb hby at_279) rfl (l' := #[.val (.int p1), .val (.int p2), .val (.int p3), .val (.int p4), .val (.int p5), .val (.int p6), .val (.ref b1), .val (.ref b3), .val v6, .val v8, .val v10, .val (.int p2), .val (.int p3), .val (.int v12), .val (.int v16), .val (.int v20), .val (.int v24), .val (.int (2 : Int32)), .val (.ref b58), .val (.int v63), .val v8, .val v6, .val (.int v12), .val (.int v16), .val (.int p2), .val (.int p3), .unset]) rfl k) ?_
    show OutW _ _ _ _ _ _ _ (T62.setTop (mkF m 281 #[.val (.int p1), .val (.int p2), .val (.int p3), .val (.int p4), .val (.int p5), .val (.int p6), .val (.ref b1), .val (.ref b3), .val v6, .val v8, .val v10, .val (.int p2), .val (.int p3), .val (.int v12), .val (.int v16), .val (.int v20), .val (.int v24), .val (.int (2 : Int32)), .val (.ref b58), .val (.int v63), .val v8, .val v6, .val (.int v12), .val (.int v16), .val (.int p2), .val (.int p3), .unset] []))
    refine OutW.back (fun t k => XS.goto X62.here hx rfl (pc0 := 281) (pc' := 314) rfl (hb hby at_281) (by decide) (by decide) k) ?_
    show OutW _ _ _ _ _ _ _ (T62.setTop (mkF m 314 #[.val (.int p1), .val (.int p2), .val (.int p3), .val (.int p4), .val (.int p5), .val (.int p6), .val (.ref b1), .val (.ref b3), .val v6, .val v8, .val v10, .val (.int p2), .val (.int p3), .val (.int v12), .val (.int v16), .val (.int v20), .val (.int v24), .val (.int (2 : Int32)), .val (.ref b58), .val (.int v63), .val v8, .val v6, .val (.int v12), .val (.int v16), .val (.int p2), .val (.int p3), .unset] []))
    refine OutW.back (fun t k => XS.aload X62.here hx rfl (hb hby at_314) rfl ir_v8  k) ?_
    show OutW _ _ _ _ _ _ _ (T62.setTop (mkF m 316 #[.val (.int p1), .val (.int p2), .val (.int p3), .val (.int p4), .val (.int p5), .val (.int p6), .val (.ref b1), .val (.ref b3), .val v6, .val v8, .val v10, .val (.int p2), .val (.int p3), .val (.int v12), .val (.int v16), .val (.int v20), .val (.int v24), .val (.int (2 : Int32)), .val (.ref b58), .val (.int v63), .val v8, .val v6, .val (.int v12), .val (.int v16), .val (.int p2), .val (.int p3), .unset] [v8]))
    obtain ⟨v69, hv_v69⟩ : ∃ z : Int32, z = (if (v8 : Value) = .null then (0 : Int32) else (if (v6 : Value) = v8 then (if v16 = p2 then (if v12 = p3 then (1 : Int32) else (0 : Int32)) else (0 : Int32)) else (0 : Int32))) := ⟨_, rfl⟩
    have j70 : ∀ t, Steps p.tables e below (T62.setTop (mkF m 345 #[.val (.int p1), .val (.int p2), .val (.int p3), .val (.int p4), .val (.int p5), .val (.int p6), .val (.ref b1), .val (.ref b3), .val v6, .val v8, .val v10, .val (.int p2), .val (.int p3), .val (.int v12), .val (.int v16), .val (.int v20), .val (.int v24), .val (.int (2 : Int32)), .val (.ref b58), .val (.int v63), .val v8, .val v6, .val (.int v12), .val (.int v16), .val (.int p2), .val (.int p3), .unset] [(.int v69)])) t → Steps p.tables e below (T62.setTop (mkF m 316 #[.val (.int p1), .val (.int p2), .val (.int p3), .val (.int p4), .val (.int p5), .val (.int p6), .val (.ref b1), .val (.ref b3), .val v6, .val v8, .val v10, .val (.int p2), .val (.int p3), .val (.int v12), .val (.int v16), .val (.int v20), .val (.int v24), .val (.int (2 : Int32)), .val (.ref b58), .val (.int v63), .val v8, .val v6, .val (.int v12), .val (.int v16), .val (.int p2), .val (.int p3), .unset] [v8])) t := by
      intro t k
      by_cases c316_71 : (v8 : Value) = .null
      · skip
        refine XS.ifnullYes X62.here hx rfl (pc0 := 316) (pc' := 344) rfl (hb hby at_316) (congrArg (fun z => (z :: [] : List Value)) c316_71) (by decide) (by decide) ?_
        show Steps p.tables e below (T62.setTop (mkF m 344 #[.val (.int p1), .val (.int p2), .val (.int p3), .val (.int p4), .val (.int p5), .val (.int p6), .val (.ref b1), .val (.ref b3), .val v6, .val v8, .val v10, .val (.int p2), .val (.int p3), .val (.int v12), .val (.int v16), .val (.int v20), .val (.int v24), .val (.int (2 : Int32)), .val (.ref b58), .val (.int v63), .val v8, .val v6, .val (.int v12), .val (.int v16), .val (.int p2), .val (.int p3), .unset] [])) t
        refine XS.iconst X62.here hx rfl (hb hby at_344) ?_
        show Steps p.tables e below (T62.setTop (mkF m 345 #[.val (.int p1), .val (.int p2), .val (.int p3), .val (.int p4), .val (.int p5), .val (.int p6), .val (.ref b1), .val (.ref b3), .val v6, .val v8, .val v10, .val (.int p2), .val (.int p3), .val (.int v12), .val (.int v16), .val (.int v20), .val (.int v24), .val (.int (2 : Int32)), .val (.ref b58), .val (.int v63), .val v8, .val v6, .val (.int v12), .val (.int v16), .val (.int p2), .val (.int p3), .unset] [(.int (0 : Int32))])) t
        have q_v69 : v69 = (0 : Int32) := by rw [hv_v69, if_pos c316_71]
        rw [q_v69] at k
        exact k
      · skip
        obtain ⟨o72, ho72⟩ := (ref_cases ir_v8).resolve_left c316_71
        refine XS.ifnullNo X62.here hx rfl (hb hby at_316) (congrArg (fun z => (z :: [] : List Value)) ho72) ?_
        show Steps p.tables e below (T62.setTop (mkF m 319 #[.val (.int p1), .val (.int p2), .val (.int p3), .val (.int p4), .val (.int p5), .val (.int p6), .val (.ref b1), .val (.ref b3), .val v6, .val v8, .val v10, .val (.int p2), .val (.int p3), .val (.int v12), .val (.int v16), .val (.int v20), .val (.int v24), .val (.int (2 : Int32)), .val (.ref b58), .val (.int v63), .val v8, .val v6, .val (.int v12), .val (.int v16), .val (.int p2), .val (.int p3), .unset] [])) t
        refine XS.aload X62.here hx rfl (hb hby at_319) rfl ir_v6  ?_
        show Steps p.tables e below (T62.setTop (mkF m 321 #[.val (.int p1), .val (.int p2), .val (.int p3), .val (.int p4), .val (.int p5), .val (.int p6), .val (.ref b1), .val (.ref b3), .val v6, .val v8, .val v10, .val (.int p2), .val (.int p3), .val (.int v12), .val (.int v16), .val (.int v20), .val (.int v24), .val (.int (2 : Int32)), .val (.ref b58), .val (.int v63), .val v8, .val v6, .val (.int v12), .val (.int v16), .val (.int p2), .val (.int p3), .unset] [v6])) t
        refine XS.aload X62.here hx rfl (hb hby at_321) rfl ir_v8  ?_
        show Steps p.tables e below (T62.setTop (mkF m 323 #[.val (.int p1), .val (.int p2), .val (.int p3), .val (.int p4), .val (.int p5), .val (.int p6), .val (.ref b1), .val (.ref b3), .val v6, .val v8, .val v10, .val (.int p2), .val (.int p3), .val (.int v12), .val (.int v16), .val (.int v20), .val (.int v24), .val (.int (2 : Int32)), .val (.ref b58), .val (.int v63), .val v8, .val v6, .val (.int v12), .val (.int v16), .val (.int p2), .val (.int p3), .unset] [v8, v6])) t
        by_cases c323_73 : (v6 : Value) = v8
        · skip
          refine Jvm.RoadKit.acmp (g := (mkF m 323 #[.val (.int p1), .val (.int p2), .val (.int p3), .val (.int p4), .val (.int p5), .val (.int p6), .val (.ref b1), .val (.ref b3), .val v6, .val v8, .val v10, .val (.int p2), .val (.int p3), .val (.int v12), .val (.int v16), .val (.int v20), .val (.int v24), .val (.int (2 : Int32)), .val (.ref b58), .val (.int v63), .val v8, .val v6, .val (.int v12), .val (.int v16), .val (.int p2), .val (.int p3), .unset] [v8, v6])) X62 hx rfl ir_v6 ir_v8 (pc0 := 323) (pc' := 326) (same := true) rfl (hb hby at_323) rfl (decide_eq_true c323_73) (by decide) (by decide) ?_
          show Steps p.tables e below (T62.setTop (mkF m 326 #[.val (.int p1), .val (.int p2), .val (.int p3), .val (.int p4), .val (.int p5), .val (.int p6), .val (.ref b1), .val (.ref b3), .val v6, .val v8, .val v10, .val (.int p2), .val (.int p3), .val (.int v12), .val (.int v16), .val (.int v20), .val (.int v24), .val (.int (2 : Int32)), .val (.ref b58), .val (.int v63), .val v8, .val v6, .val (.int v12), .val (.int v16), .val (.int p2), .val (.int p3), .unset] [])) t
          refine XS.iload X62.here hx rfl (hb hby at_326) rfl  ?_
          show Steps p.tables e below (T62.setTop (mkF m 328 #[.val (.int p1), .val (.int p2), .val (.int p3), .val (.int p4), .val (.int p5), .val (.int p6), .val (.ref b1), .val (.ref b3), .val v6, .val v8, .val v10, .val (.int p2), .val (.int p3), .val (.int v12), .val (.int v16), .val (.int v20), .val (.int v24), .val (.int (2 : Int32)), .val (.ref b58), .val (.int v63), .val v8, .val v6, .val (.int v12), .val (.int v16), .val (.int p2), .val (.int p3), .unset] [(.int v16)])) t
          refine XS.iload X62.here hx rfl (hb hby at_328) rfl  ?_
          show Steps p.tables e below (T62.setTop (mkF m 330 #[.val (.int p1), .val (.int p2), .val (.int p3), .val (.int p4), .val (.int p5), .val (.int p6), .val (.ref b1), .val (.ref b3), .val v6, .val v8, .val v10, .val (.int p2), .val (.int p3), .val (.int v12), .val (.int v16), .val (.int v20), .val (.int v24), .val (.int (2 : Int32)), .val (.ref b58), .val (.int v63), .val v8, .val v6, .val (.int v12), .val (.int v16), .val (.int p2), .val (.int p3), .unset] [(.int p2), (.int v16)])) t
          by_cases c330_74 : v16 = p2
          · skip
            refine XS.icmpNo X62.here hx rfl (hb hby at_330) rfl (teq c330_74).2 ?_
            show Steps p.tables e below (T62.setTop (mkF m 333 #[.val (.int p1), .val (.int p2), .val (.int p3), .val (.int p4), .val (.int p5), .val (.int p6), .val (.ref b1), .val (.ref b3), .val v6, .val v8, .val v10, .val (.int p2), .val (.int p3), .val (.int v12), .val (.int v16), .val (.int v20), .val (.int v24), .val (.int (2 : Int32)), .val (.ref b58), .val (.int v63), .val v8, .val v6, .val (.int v12), .val (.int v16), .val (.int p2), .val (.int p3), .unset] [])) t
            refine XS.iload X62.here hx rfl (hb hby at_333) rfl  ?_
            show Steps p.tables e below (T62.setTop (mkF m 335 #[.val (.int p1), .val (.int p2), .val (.int p3), .val (.int p4), .val (.int p5), .val (.int p6), .val (.ref b1), .val (.ref b3), .val v6, .val v8, .val v10, .val (.int p2), .val (.int p3), .val (.int v12), .val (.int v16), .val (.int v20), .val (.int v24), .val (.int (2 : Int32)), .val (.ref b58), .val (.int v63), .val v8, .val v6, .val (.int v12), .val (.int v16), .val (.int p2), .val (.int p3), .unset] [(.int v12)])) t
            refine XS.iload X62.here hx rfl (hb hby at_335) rfl  ?_
            show Steps p.tables e below (T62.setTop (mkF m 337 #[.val (.int p1), .val (.int p2), .val (.int p3), .val (.int p4), .val (.int p5), .val (.int p6), .val (.ref b1), .val (.ref b3), .val v6, .val v8, .val v10, .val (.int p2), .val (.int p3), .val (.int v12), .val (.int v16), .val (.int v20), .val (.int v24), .val (.int (2 : Int32)), .val (.ref b58), .val (.int v63), .val v8, .val v6, .val (.int v12), .val (.int v16), .val (.int p2), .val (.int p3), .unset] [(.int p3), (.int v12)])) t
            by_cases c337_75 : v12 = p3
            · skip
              refine XS.icmpNo X62.here hx rfl (hb hby at_337) rfl (teq c337_75).2 ?_
              show Steps p.tables e below (T62.setTop (mkF m 340 #[.val (.int p1), .val (.int p2), .val (.int p3), .val (.int p4), .val (.int p5), .val (.int p6), .val (.ref b1), .val (.ref b3), .val v6, .val v8, .val v10, .val (.int p2), .val (.int p3), .val (.int v12), .val (.int v16), .val (.int v20), .val (.int v24), .val (.int (2 : Int32)), .val (.ref b58), .val (.int v63), .val v8, .val v6, .val (.int v12), .val (.int v16), .val (.int p2), .val (.int p3), .unset] [])) t
              refine XS.iconst X62.here hx rfl (hb hby at_340) ?_
              show Steps p.tables e below (T62.setTop (mkF m 341 #[.val (.int p1), .val (.int p2), .val (.int p3), .val (.int p4), .val (.int p5), .val (.int p6), .val (.ref b1), .val (.ref b3), .val v6, .val v8, .val v10, .val (.int p2), .val (.int p3), .val (.int v12), .val (.int v16), .val (.int v20), .val (.int v24), .val (.int (2 : Int32)), .val (.ref b58), .val (.int v63), .val v8, .val v6, .val (.int v12), .val (.int v16), .val (.int p2), .val (.int p3), .unset] [(.int (1 : Int32))])) t
              refine XS.goto X62.here hx rfl (pc0 := 341) (pc' := 345) rfl (hb hby at_341) (by decide) (by decide) ?_
              show Steps p.tables e below (T62.setTop (mkF m 345 #[.val (.int p1), .val (.int p2), .val (.int p3), .val (.int p4), .val (.int p5), .val (.int p6), .val (.ref b1), .val (.ref b3), .val v6, .val v8, .val v10, .val (.int p2), .val (.int p3), .val (.int v12), .val (.int v16), .val (.int v20), .val (.int v24), .val (.int (2 : Int32)), .val (.ref b58), .val (.int v63), .val v8, .val v6, .val (.int v12), .val (.int v16), .val (.int p2), .val (.int p3), .unset] [(.int (1 : Int32))])) t
              have q_v69 : v69 = (1 : Int32) := by rw [hv_v69, if_neg c316_71, if_pos c323_73, if_pos c330_74, if_pos c337_75]
              rw [q_v69] at k
              exact k
            · skip
              refine XS.icmpYes X62.here hx rfl (pc0 := 337) (pc' := 344) rfl (hb hby at_337) rfl (feq c337_75).2 (by decide) (by decide) ?_
              show Steps p.tables e below (T62.setTop (mkF m 344 #[.val (.int p1), .val (.int p2), .val (.int p3), .val (.int p4), .val (.int p5), .val (.int p6), .val (.ref b1), .val (.ref b3), .val v6, .val v8, .val v10, .val (.int p2), .val (.int p3), .val (.int v12), .val (.int v16), .val (.int v20), .val (.int v24), .val (.int (2 : Int32)), .val (.ref b58), .val (.int v63), .val v8, .val v6, .val (.int v12), .val (.int v16), .val (.int p2), .val (.int p3), .unset] [])) t
              refine XS.iconst X62.here hx rfl (hb hby at_344) ?_
              show Steps p.tables e below (T62.setTop (mkF m 345 #[.val (.int p1), .val (.int p2), .val (.int p3), .val (.int p4), .val (.int p5), .val (.int p6), .val (.ref b1), .val (.ref b3), .val v6, .val v8, .val v10, .val (.int p2), .val (.int p3), .val (.int v12), .val (.int v16), .val (.int v20), .val (.int v24), .val (.int (2 : Int32)), .val (.ref b58), .val (.int v63), .val v8, .val v6, .val (.int v12), .val (.int v16), .val (.int p2), .val (.int p3), .unset] [(.int (0 : Int32))])) t
              have q_v69 : v69 = (0 : Int32) := by rw [hv_v69, if_neg c316_71, if_pos c323_73, if_pos c330_74, if_neg c337_75]
              rw [q_v69] at k
              exact k
          · skip
            refine XS.icmpYes X62.here hx rfl (pc0 := 330) (pc' := 344) rfl (hb hby at_330) rfl (feq c330_74).2 (by decide) (by decide) ?_
            show Steps p.tables e below (T62.setTop (mkF m 344 #[.val (.int p1), .val (.int p2), .val (.int p3), .val (.int p4), .val (.int p5), .val (.int p6), .val (.ref b1), .val (.ref b3), .val v6, .val v8, .val v10, .val (.int p2), .val (.int p3), .val (.int v12), .val (.int v16), .val (.int v20), .val (.int v24), .val (.int (2 : Int32)), .val (.ref b58), .val (.int v63), .val v8, .val v6, .val (.int v12), .val (.int v16), .val (.int p2), .val (.int p3), .unset] [])) t
            refine XS.iconst X62.here hx rfl (hb hby at_344) ?_
            show Steps p.tables e below (T62.setTop (mkF m 345 #[.val (.int p1), .val (.int p2), .val (.int p3), .val (.int p4), .val (.int p5), .val (.int p6), .val (.ref b1), .val (.ref b3), .val v6, .val v8, .val v10, .val (.int p2), .val (.int p3), .val (.int v12), .val (.int v16), .val (.int v20), .val (.int v24), .val (.int (2 : Int32)), .val (.ref b58), .val (.int v63), .val v8, .val v6, .val (.int v12), .val (.int v16), .val (.int p2), .val (.int p3), .unset] [(.int (0 : Int32))])) t
            have q_v69 : v69 = (0 : Int32) := by rw [hv_v69, if_neg c316_71, if_pos c323_73, if_neg c330_74]
            rw [q_v69] at k
            exact k
        · skip
          refine Jvm.RoadKit.acmp (g := (mkF m 323 #[.val (.int p1), .val (.int p2), .val (.int p3), .val (.int p4), .val (.int p5), .val (.int p6), .val (.ref b1), .val (.ref b3), .val v6, .val v8, .val v10, .val (.int p2), .val (.int p3), .val (.int v12), .val (.int v16), .val (.int v20), .val (.int v24), .val (.int (2 : Int32)), .val (.ref b58), .val (.int v63), .val v8, .val v6, .val (.int v12), .val (.int v16), .val (.int p2), .val (.int p3), .unset] [v8, v6])) X62 hx rfl ir_v6 ir_v8 (pc0 := 323) (pc' := 344) (same := false) rfl (hb hby at_323) rfl (decide_eq_false c323_73) (by decide) (by decide) ?_
          show Steps p.tables e below (T62.setTop (mkF m 344 #[.val (.int p1), .val (.int p2), .val (.int p3), .val (.int p4), .val (.int p5), .val (.int p6), .val (.ref b1), .val (.ref b3), .val v6, .val v8, .val v10, .val (.int p2), .val (.int p3), .val (.int v12), .val (.int v16), .val (.int v20), .val (.int v24), .val (.int (2 : Int32)), .val (.ref b58), .val (.int v63), .val v8, .val v6, .val (.int v12), .val (.int v16), .val (.int p2), .val (.int p3), .unset] [])) t
          refine XS.iconst X62.here hx rfl (hb hby at_344) ?_
          show Steps p.tables e below (T62.setTop (mkF m 345 #[.val (.int p1), .val (.int p2), .val (.int p3), .val (.int p4), .val (.int p5), .val (.int p6), .val (.ref b1), .val (.ref b3), .val v6, .val v8, .val v10, .val (.int p2), .val (.int p3), .val (.int v12), .val (.int v16), .val (.int v20), .val (.int v24), .val (.int (2 : Int32)), .val (.ref b58), .val (.int v63), .val v8, .val v6, .val (.int v12), .val (.int v16), .val (.int p2), .val (.int p3), .unset] [(.int (0 : Int32))])) t
          have q_v69 : v69 = (0 : Int32) := by rw [hv_v69, if_neg c316_71, if_neg c323_73]
          rw [q_v69] at k
          exact k
    refine OutW.back j70 ?_
    show OutW _ _ _ _ _ _ _ (T62.setTop (mkF m 345 #[.val (.int p1), .val (.int p2), .val (.int p3), .val (.int p4), .val (.int p5), .val (.int p6), .val (.ref b1), .val (.ref b3), .val v6, .val v8, .val v10, .val (.int p2), .val (.int p3), .val (.int v12), .val (.int v16), .val (.int v20), .val (.int v24), .val (.int (2 : Int32)), .val (.ref b58), .val (.int v63), .val v8, .val v6, .val (.int v12), .val (.int v16), .val (.int p2), .val (.int p3), .unset] [(.int v69)]))
    refine OutW.back (fun t k => XS.istore X62.here hx rfl (hb hby at_345) rfl (l' := #[.val (.int p1), .val (.int p2), .val (.int p3), .val (.int p4), .val (.int p5), .val (.int p6), .val (.ref b1), .val (.ref b3), .val v6, .val v8, .val v10, .val (.int p2), .val (.int p3), .val (.int v12), .val (.int v16), .val (.int v20), .val (.int v24), .val (.int (2 : Int32)), .val (.ref b58), .val (.int v63), .val v8, .val v6, .val (.int v12), .val (.int v16), .val (.int p2), .val (.int p3), .val (.int v69)]) rfl k) ?_
    show OutW _ _ _ _ _ _ _ (T62.setTop (mkF m 347 #[.val (.int p1), .val (.int p2), .val (.int p3), .val (.int p4), .val (.int p5), .val (.int p6), .val (.ref b1), .val (.ref b3), .val v6, .val v8, .val v10, .val (.int p2), .val (.int p3), .val (.int v12), .val (.int v16), .val (.int v20), .val (.int v24), .val (.int (2 : Int32)), .val (.ref b58), .val (.int v63), .val v8, .val v6, .val (.int v12), .val (.int v16), .val (.int p2), .val (.int p3), .val (.int v69)] []))
    refine OutW.back (fun t k => XS.iload X62.here hx rfl (hb hby at_347) rfl  k) ?_
    show OutW _ _ _ _ _ _ _ (T62.setTop (mkF m 349 #[.val (.int p1), .val (.int p2), .val (.int p3), .val (.int p4), .val (.int p5), .val (.int p6), .val (.ref b1), .val (.ref b3), .val v6, .val v8, .val v10, .val (.int p2), .val (.int p3), .val (.int v12), .val (.int v16), .val (.int v20), .val (.int v24), .val (.int (2 : Int32)), .val (.ref b58), .val (.int v63), .val v8, .val v6, .val (.int v12), .val (.int v16), .val (.int p2), .val (.int p3), .val (.int v69)] [(.int v63)]))
    refine OutW.back (fun t k => XS.iload X62.here hx rfl (hb hby at_349) rfl  k) ?_
    show OutW _ _ _ _ _ _ _ (T62.setTop (mkF m 351 #[.val (.int p1), .val (.int p2), .val (.int p3), .val (.int p4), .val (.int p5), .val (.int p6), .val (.ref b1), .val (.ref b3), .val v6, .val v8, .val v10, .val (.int p2), .val (.int p3), .val (.int v12), .val (.int v16), .val (.int v20), .val (.int v24), .val (.int (2 : Int32)), .val (.ref b58), .val (.int v63), .val v8, .val v6, .val (.int v12), .val (.int v16), .val (.int p2), .val (.int p3), .val (.int v69)] [(.int v69), (.int v63)]))
    obtain ⟨v77, hv_v77⟩ : ∃ z : Int32, z = (if v63 = v69 then (1 : Int32) else (0 : Int32)) := ⟨_, rfl⟩
    have j78 : ∀ t, Steps p.tables e below (T62.setTop (mkF m 359 #[.val (.int p1), .val (.int p2), .val (.int p3), .val (.int p4), .val (.int p5), .val (.int p6), .val (.ref b1), .val (.ref b3), .val v6, .val v8, .val v10, .val (.int p2), .val (.int p3), .val (.int v12), .val (.int v16), .val (.int v20), .val (.int v24), .val (.int (2 : Int32)), .val (.ref b58), .val (.int v63), .val v8, .val v6, .val (.int v12), .val (.int v16), .val (.int p2), .val (.int p3), .val (.int v69)] [(.int v77)])) t → Steps p.tables e below (T62.setTop (mkF m 351 #[.val (.int p1), .val (.int p2), .val (.int p3), .val (.int p4), .val (.int p5), .val (.int p6), .val (.ref b1), .val (.ref b3), .val v6, .val v8, .val v10, .val (.int p2), .val (.int p3), .val (.int v12), .val (.int v16), .val (.int v20), .val (.int v24), .val (.int (2 : Int32)), .val (.ref b58), .val (.int v63), .val v8, .val v6, .val (.int v12), .val (.int v16), .val (.int p2), .val (.int p3), .val (.int v69)] [(.int v69), (.int v63)])) t := by
      intro t k
      by_cases c351_79 : v63 = v69
      · skip
        refine XS.icmpNo X62.here hx rfl (hb hby at_351) rfl (teq c351_79).2 ?_
        show Steps p.tables e below (T62.setTop (mkF m 354 #[.val (.int p1), .val (.int p2), .val (.int p3), .val (.int p4), .val (.int p5), .val (.int p6), .val (.ref b1), .val (.ref b3), .val v6, .val v8, .val v10, .val (.int p2), .val (.int p3), .val (.int v12), .val (.int v16), .val (.int v20), .val (.int v24), .val (.int (2 : Int32)), .val (.ref b58), .val (.int v63), .val v8, .val v6, .val (.int v12), .val (.int v16), .val (.int p2), .val (.int p3), .val (.int v69)] [])) t
        refine XS.iconst X62.here hx rfl (hb hby at_354) ?_
        show Steps p.tables e below (T62.setTop (mkF m 355 #[.val (.int p1), .val (.int p2), .val (.int p3), .val (.int p4), .val (.int p5), .val (.int p6), .val (.ref b1), .val (.ref b3), .val v6, .val v8, .val v10, .val (.int p2), .val (.int p3), .val (.int v12), .val (.int v16), .val (.int v20), .val (.int v24), .val (.int (2 : Int32)), .val (.ref b58), .val (.int v63), .val v8, .val v6, .val (.int v12), .val (.int v16), .val (.int p2), .val (.int p3), .val (.int v69)] [(.int (1 : Int32))])) t
        refine XS.goto X62.here hx rfl (pc0 := 355) (pc' := 359) rfl (hb hby at_355) (by decide) (by decide) ?_
        show Steps p.tables e below (T62.setTop (mkF m 359 #[.val (.int p1), .val (.int p2), .val (.int p3), .val (.int p4), .val (.int p5), .val (.int p6), .val (.ref b1), .val (.ref b3), .val v6, .val v8, .val v10, .val (.int p2), .val (.int p3), .val (.int v12), .val (.int v16), .val (.int v20), .val (.int v24), .val (.int (2 : Int32)), .val (.ref b58), .val (.int v63), .val v8, .val v6, .val (.int v12), .val (.int v16), .val (.int p2), .val (.int p3), .val (.int v69)] [(.int (1 : Int32))])) t
        have q_v77 : v77 = (1 : Int32) := by rw [hv_v77, if_pos c351_79]
        rw [q_v77] at k
        exact k
      · skip
        refine XS.icmpYes X62.here hx rfl (pc0 := 351) (pc' := 358) rfl (hb hby at_351) rfl (feq c351_79).2 (by decide) (by decide) ?_
        show Steps p.tables e below (T62.setTop (mkF m 358 #[.val (.int p1), .val (.int p2), .val (.int p3), .val (.int p4), .val (.int p5), .val (.int p6), .val (.ref b1), .val (.ref b3), .val v6, .val v8, .val v10, .val (.int p2), .val (.int p3), .val (.int v12), .val (.int v16), .val (.int v20), .val (.int v24), .val (.int (2 : Int32)), .val (.ref b58), .val (.int v63), .val v8, .val v6, .val (.int v12), .val (.int v16), .val (.int p2), .val (.int p3), .val (.int v69)] [])) t
        refine XS.iconst X62.here hx rfl (hb hby at_358) ?_
        show Steps p.tables e below (T62.setTop (mkF m 359 #[.val (.int p1), .val (.int p2), .val (.int p3), .val (.int p4), .val (.int p5), .val (.int p6), .val (.ref b1), .val (.ref b3), .val v6, .val v8, .val v10, .val (.int p2), .val (.int p3), .val (.int v12), .val (.int v16), .val (.int v20), .val (.int v24), .val (.int (2 : Int32)), .val (.ref b58), .val (.int v63), .val v8, .val v6, .val (.int v12), .val (.int v16), .val (.int p2), .val (.int p3), .val (.int v69)] [(.int (0 : Int32))])) t
        have q_v77 : v77 = (0 : Int32) := by rw [hv_v77, if_neg c351_79]
        rw [q_v77] at k
        exact k
    refine OutW.back j78 ?_
    show OutW _ _ _ _ _ _ _ (T62.setTop (mkF m 359 #[.val (.int p1), .val (.int p2), .val (.int p3), .val (.int p4), .val (.int p5), .val (.int p6), .val (.ref b1), .val (.ref b3), .val v6, .val v8, .val v10, .val (.int p2), .val (.int p3), .val (.int v12), .val (.int v16), .val (.int v20), .val (.int v24), .val (.int (2 : Int32)), .val (.ref b58), .val (.int v63), .val v8, .val v6, .val (.int v12), .val (.int v16), .val (.int p2), .val (.int p3), .val (.int v69)] [(.int v77)]))
    refine OutW.retN X62 hx (t := .boolean) (z' := 1) Bd.returns (by simp) hlk (hb hby at_359) ?hz (by decide) (by decide) ?_
    case hz =>
      have hfin : v77 = (1 : Int32) := by
        have q1 : v63 = v69 := by rw [← hv_v63, hv_v69, own_went]
        rw [hv_v77, if_pos q1]
      rw [hfin]; rfl
    show Q0 Z p1 p2 p3 p4 p5 p6 h0 n0 _ T62.heap _
    rw [e62]
    exact ⟨rfl, N62⟩
  · skip
    show OutW _ _ _ _ _ _ _ (T9.setTop (mkF m 145 #[.val (.int p1), .val (.int p2), .val (.int p3), .val (.int p4), .val (.int p5), .val (.int p6), .val (.ref b1), .val (.ref b3), .val v6, .val v8, .val v10, .val (.int p2), .val (.int p3), .val (.int v12), .val (.int v16), .val (.int v20), .val (.int v24), .val (.int (3 : Int32)), .unset, .unset, .unset, .unset, .unset, .unset, .unset, .unset, .unset] []))
    obtain ⟨T80, h80, X80, e80, E80, A80, D80, -, st80⟩ := newO X9 hx hZ hown (hw _ (List.mem_of_getElem? (i := 17) rfl)) (hw _ (List.mem_of_getElem? (i := 18) rfl)) (hw _ (List.mem_of_getElem? (i := 19) rfl)) e9 (g := (mkF m 145 #[.val (.int p1), .val (.int p2), .val (.int p3), .val (.int p4), .val (.int p5), .val (.int p6), .val (.ref b1), .val (.ref b3), .val v6, .val v8, .val v10, .val (.int p2), .val (.int p3), .val (.int v12), .val (.int v16), .val (.int v20), .val (.int v24), .val (.int (3 : Int32)), .unset, .unset, .unset, .unset, .unset, .unset, .unset, .unset, .unset] [])) rfl (hb hby at_145) (by decide) (by decide)
    obtain ⟨b80, g80⟩ : ∃ z, z = h4.size := ⟨_, rfl⟩
    rw [← g80] at A80 D80 st80
    have ne_b1_b80 : b1 ≠ b80 := Nat.ne_of_lt (Nat.lt_of_lt_of_le E_b1.lt (Nat.le_of_eq g80.symm))
    have ne_b3_b80 : b3 ≠ b80 := Nat.ne_of_lt (Nat.lt_of_lt_of_le E_b3.lt (Nat.le_of_eq g80.symm))
    have g_b80 : n0 ≤ b80 := Nat.le_trans Z4 (Nat.le_of_eq g80.symm)
    have sz_b80 : h0.size ≤ b80 := Nat.le_trans K4.1 (Nat.le_of_eq g80.symm)
    have E_b1 := E_b1.ext E80
    have E_b3 := E_b3.ext E80
    have Z80 : n0 ≤ h80.size := Nat.le_trans Z4 E80.1
    have K80 := K4.ext E80
    have E_b80 := A80
    have F_lastPiece_b80 : Fld Z h80 b80 "com/example/fogline/fogline/rules/RecentMoves" "lastPiece" "Lcom/example/fogline/fogline/rules/Piece;" .null := D80 (Or.inl (hw _ (List.mem_of_getElem? (i := 30) rfl))) (ty := (.object "com/example/fogline/fogline/rules/Piece")) (by decide)
    have F_pieceBefore_b80 : Fld Z h80 b80 "com/example/fogline/fogline/rules/RecentMoves" "pieceBefore" "Lcom/example/fogline/fogline/rules/Piece;" .null := D80 (Or.inl (hw _ (List.mem_of_getElem? (i := 37) rfl))) (ty := (.object "com/example/fogline/fogline/rules/Piece")) (by decide)
    have F_lastFrom_b80 : Fld Z h80 b80 "com/example/fogline/fogline/rules/RecentMoves" "lastFrom" "I" (.int (0 : Int32)) := D80 (Or.inl (hw _ (List.mem_of_getElem? (i := 39) rfl))) (ty := .int) (by decide)
    have F_fromBefore_b80 : Fld Z h80 b80 "com/example/fogline/fogline/rules/RecentMoves" "fromBefore" "I" (.int (0 : Int32)) := D80 (Or.inl (hw _ (List.mem_of_getElem? (i := 41) rfl))) (ty := .int) (by decide)
    have F_lastTo_b80 : Fld Z h80 b80 "com/example/fogline/fogline/rules/RecentMoves" "lastTo" "I" (.int (0 : Int32)) := D80 (Or.inl (hw _ (List.mem_of_getElem? (i := 43) rfl))) (ty := .int) (by decide)
    have F_toBefore_b80 : Fld Z h80 b80 "com/example/fogline/fogline/rules/RecentMoves" "toBefore" "I" (.int (0 : Int32)) := D80 (Or.inl (hw _ (List.mem_of_getElem? (i := 45) rfl))) (ty := .int) (by decide)
    refine OutW.back st80 ?_
    show OutW _ _ _ _ _ _ _ (T80.setTop (mkF m 148 #[.val (.int p1), .val (.int p2), .val (.int p3), .val (.int p4), .val (.int p5), .val (.int p6), .val (.ref b1), .val (.ref b3), .val v6, .val v8, .val v10, .val (.int p2), .val (.int p3), .val (.int v12), .val (.int v16), .val (.int v20), .val (.int v24), .val (.int (3 : Int32)), .unset, .unset, .unset, .unset, .unset, .unset, .unset, .unset, .unset] [(.ref b80)]))
    refine OutW.back (fun t k => XS.dup X80.here hx rfl (hb hby at_148) rfl rfl k) ?_
    show OutW _ _ _ _ _ _ _ (T80.setTop (mkF m 149 #[.val (.int p1), .val (.int p2), .val (.int p3), .val (.int p4), .val (.int p5), .val (.int p6), .val (.ref b1), .val (.ref b3), .val v6, .val v8, .val v10, .val (.int p2), .val (.int p3), .val (.int v12), .val (.int v16), .val (.int v20), .val (.int v24), .val (.int (3 : Int32)), .unset, .unset, .unset, .unset, .unset, .unset, .unset, .unset, .unset] [(.ref b80), (.ref b80)]))
    obtain ⟨_, _, ⟨T81, L81, k81, n81⟩, -, X81, ⟨Lc81, hQ81, l81, y81, z81⟩, st81⟩ := X80.specialBack hx (y := (⟨"com/example/fogline/fogline/rules/RecentMoves", "<init>", "()V"⟩ : MethodName)) rfl hown (mvT hZ (hw _ (List.mem_of_getElem? (i := 20) rfl))) (mvT hZ (hw _ (List.mem_of_getElem? (i := 21) rfl))) (mvT hZ (hw _ (List.mem_of_getElem? (i := 22) rfl))) (by decide) (backOf (W := 1) (rm4 l Z a0 hw [] b80 h80 n0 Z80 E_b80) hZ (hw _ (List.mem_of_getElem? (i := 22) rfl)) (hw _ (List.mem_of_getElem? (i := 19) rfl)) (by decide) (by decide)) (g := (mkF m 149 #[.val (.int p1), .val (.int p2), .val (.int p3), .val (.int p4), .val (.int p5), .val (.int p6), .val (.ref b1), .val (.ref b3), .val v6, .val v8, .val v10, .val (.int p2), .val (.int p3), .val (.int v12), .val (.int v16), .val (.int v20), .val (.int v24), .val (.int (3 : Int32)), .unset, .unset, .unset, .unset, .unset, .unset, .unset, .unset, .unset] [(.ref b80), (.ref b80)])) rfl (by rw [hml]; rfl) (Steps.refl _) (a := b80) (argsL := []) (rest := [(.ref b80)]) (lenOf pd_2 rfl) rfl (by show 2 * 0 + _ ≤ _; exact Nat.le_of_eq rfl) (hb hby at_149) (fun _ _ => ⟨rfl, e80, (by decide : 3 + 0 ≤ _), (by decide : 14 + 0 ≤ _)⟩)
    dsimp only [Pt.U, Pt.locs, Pt.cells, Pt.slots] at X81 l81 y81 z81 st81 hQ81
    subst l81 y81 z81
    obtain ⟨rfl, Nq81, e81⟩ := hQ81
    have N81 := Fr.app N9 Nq81
    refine OutW.via st81 ?_
    show OutW _ _ _ _ _ _ _ (T81.setTop (mkF m 152 #[.val (.int p1), .val (.int p2), .val (.int p3), .val (.int p4), .val (.int p5), .val (.int p6), .val (.ref b1), .val (.ref b3), .val v6, .val v8, .val v10, .val (.int p2), .val (.int p3), .val (.int v12), .val (.int v16), .val (.int v20), .val (.int v24), .val (.int (3 : Int32)), .unset, .unset, .unset, .unset, .unset, .unset, .unset, .unset, .unset] [(.ref b80)]))
    refine OutW.back (fun t k => XS.astore X81.here hx rfl (hb hby at_152) rfl rfl (l' := #[.val (.int p1), .val (.int p2), .val (.int p3), .val (.int p4), .val (.int p5), .val (.int p6), .val (.ref b1), .val (.ref b3), .val v6, .val v8, .val v10, .val (.int p2), .val (.int p3), .val (.int v12), .val (.int v16), .val (.int v20), .val (.int v24), .val (.int (3 : Int32)), .val (.ref b80), .unset, .unset, .unset, .unset, .unset, .unset, .unset, .unset]) rfl k) ?_
    show OutW _ _ _ _ _ _ _ (T81.setTop (mkF m 154 #[.val (.int p1), .val (.int p2), .val (.int p3), .val (.int p4), .val (.int p5), .val (.int p6), .val (.ref b1), .val (.ref b3), .val v6, .val v8, .val v10, .val (.int p2), .val (.int p3), .val (.int v12), .val (.int v16), .val (.int v20), .val (.int v24), .val (.int (3 : Int32)), .val (.ref b80), .unset, .unset, .unset, .unset, .unset, .unset, .unset, .unset] []))
    refine OutW.back (fun t k => XS.iload X81.here hx rfl (hb hby at_154) rfl  k) ?_
    show OutW _ _ _ _ _ _ _ (T81.setTop (mkF m 156 #[.val (.int p1), .val (.int p2), .val (.int p3), .val (.int p4), .val (.int p5), .val (.int p6), .val (.ref b1), .val (.ref b3), .val v6, .val v8, .val v10, .val (.int p2), .val (.int p3), .val (.int v12), .val (.int v16), .val (.int v20), .val (.int v24), .val (.int (3 : Int32)), .val (.ref b80), .unset, .unset, .unset, .unset, .unset, .unset, .unset, .unset] [(.int (3 : Int32))]))
    refine OutW.back (fun t k => XS.iconst X81.here hx rfl (hb hby at_156) k) ?_
    show OutW _ _ _ _ _ _ _ (T81.setTop (mkF m 157 #[.val (.int p1), .val (.int p2), .val (.int p3), .val (.int p4), .val (.int p5), .val (.int p6), .val (.ref b1), .val (.ref b3), .val v6, .val v8, .val v10, .val (.int p2), .val (.int p3), .val (.int v12), .val (.int v16), .val (.int v20), .val (.int v24), .val (.int (3 : Int32)), .val (.ref b80), .unset, .unset, .unset, .unset, .unset, .unset, .unset, .unset] [(.int (1 : Int32)), (.int (3 : Int32))]))
    refine OutW.back (fun t k => XS.icmpNo X81.here hx rfl (hb hby at_157) rfl (flt (by decide : ¬ ((3 : Int32) < (1 : Int32)))).1 k) ?_
    show OutW _ _ _ _ _ _ _ (T81.setTop (mkF m 160 #[.val (.int p1), .val (.int p2), .val (.int p3), .val (.int p4), .val (.int p5), .val (.int p6), .val (.ref b1), .val (.ref b3), .val v6, .val v8, .val v10, .val (.int p2), .val (.int p3), .val (.int v12), .val (.int v16), .val (.int v20), .val (.int v24), .val (.int (3 : Int32)), .val (.ref b80), .unset, .unset, .unset, .unset, .unset, .unset, .unset, .unset] []))
    refine OutW.back (fun t k => XS.aload X81.here hx rfl (hb hby at_160) rfl rfl  k) ?_
    show OutW _ _ _ _ _ _ _ (T81.setTop (mkF m 162 #[.val (.int p1), .val (.int p2), .val (.int p3), .val (.int p4), .val (.int p5), .val (.int p6), .val (.ref b1), .val (.ref b3), .val v6, .val v8, .val v10, .val (.int p2), .val (.int p3), .val (.int v12), .val (.int v16), .val (.int v20), .val (.int v24), .val (.int (3 : Int32)), .val (.ref b80), .unset, .unset, .unset, .unset, .unset, .unset, .unset, .unset] [(.ref b80)]))
    refine OutW.back (fun t k => XS.aload X81.here hx rfl (hb hby at_162) rfl ir_v6  k) ?_
    show OutW _ _ _ _ _ _ _ (T81.setTop (mkF m 164 #[.val (.int p1), .val (.int p2), .val (.int p3), .val (.int p4), .val (.int p5), .val (.int p6), .val (.ref b1), .val (.ref b3), .val v6, .val v8, .val v10, .val (.int p2), .val (.int p3), .val (.int v12), .val (.int v16), .val (.int v20), .val (.int v24), .val (.int (3 : Int32)), .val (.ref b80), .unset, .unset, .unset, .unset, .unset, .unset, .unset, .unset] [v6, (.ref b80)]))
    refine OutW.back (fun t k => XS.iload X81.here hx rfl (hb hby at_164) rfl  k) ?_
    show OutW _ _ _ _ _ _ _ (T81.setTop (mkF m 166 #[.val (.int p1), .val (.int p2), .val (.int p3), .val (.int p4), .val (.int p5), .val (.int p6), .val (.ref b1), .val (.ref b3), .val v6, .val v8, .val v10, .val (.int p2), .val (.int p3), .val (.int v12), .val (.int v16), .val (.int v20), .val (.int v24), .val (.int (3 : Int32)), .val (.ref b80), .unset, .unset, .unset, .unset, .unset, .unset, .unset, .unset] [(.int p2), v6, (.ref b80)]))
    refine OutW.back (fun t k => XS.iload X81.here hx rfl (hb hby at_166) rfl  k) ?_
    show OutW _ _ _ _ _ _ _ (T81.setTop (mkF m 168 #[.val (.int p1), .val (.int p2), .val (.int p3), .val (.int p4), .val (.int p5), .val (.int p6), .val (.ref b1), .val (.ref b3), .val v6, .val v8, .val v10, .val (.int p2), .val (.int p3), .val (.int v12), .val (.int v16), .val (.int v20), .val (.int v24), .val (.int (3 : Int32)), .val (.ref b80), .unset, .unset, .unset, .unset, .unset, .unset, .unset, .unset] [(.int p3), (.int p2), v6, (.ref b80)]))
    obtain ⟨cq82, kq82, qa82, qb82, qc82⟩ := isOf hZ e81 E_b80
    obtain ⟨_, _, ⟨T82, L82, k82, n82⟩, -, X82, ⟨Lc82, hQ82, l82, y82, z82⟩, st82⟩ := X81.virtualBack hx (y := (⟨"com/example/fogline/fogline/rules/RecentMoves", "add", "(Lcom/example/fogline/fogline/rules/Piece;II)V"⟩ : MethodName)) (z := (⟨"com/example/fogline/fogline/rules/RecentMoves", "add", "(Lcom/example/fogline/fogline/rules/Piece;II)V"⟩ : MethodName)) hown (mvT hZ (hw _ (List.mem_of_getElem? (i := 31) rfl))) (mvT hZ (hw _ (List.mem_of_getElem? (i := 32) rfl))) (notFace_of_selects (args := #[]) (mvT hZ (hw _ (List.mem_of_getElem? (i := 34) rfl)))) (mvT hZ (hw _ (List.mem_of_getElem? (i := 34) rfl))) (mvT hZ (hw _ (List.mem_of_getElem? (i := 33) rfl))) (by decide) (backOf (W := 0) (rm6 l Z a0 hw [] b80 v6 p2 p3 .null .null (0 : Int32) (0 : Int32) (0 : Int32) (0 : Int32) h80 n0 Z80 E_b80 g_b80 ir_v6 F_lastPiece_b80 F_pieceBefore_b80 F_lastFrom_b80 F_fromBefore_b80 F_lastTo_b80 F_toBefore_b80 rfl) hZ (hw _ (List.mem_of_getElem? (i := 35) rfl)) (hw _ (List.mem_of_getElem? (i := 19) rfl)) (by decide) (by decide)) qa82 qc82 (g := (mkF m 168 #[.val (.int p1), .val (.int p2), .val (.int p3), .val (.int p4), .val (.int p5), .val (.int p6), .val (.ref b1), .val (.ref b3), .val v6, .val v8, .val v10, .val (.int p2), .val (.int p3), .val (.int v12), .val (.int v16), .val (.int v20), .val (.int v24), .val (.int (3 : Int32)), .val (.ref b80), .unset, .unset, .unset, .unset, .unset, .unset, .unset, .unset] [(.int p3), (.int p2), v6, (.ref b80)])) rfl (by rw [hml]; rfl) (Steps.refl _) (argsL := [v6, (.int p2), (.int p3)]) (rest := []) (lenOf pd_4 rfl) rfl (by show 2 * 0 + _ ≤ _; exact Nat.le_of_eq rfl) (hb hby at_168) (fun _ _ => ⟨rfl, e81, (by decide : 3 + 0 ≤ _), (by decide : 14 + 0 ≤ _)⟩)
    dsimp only [Pt.U, Pt.locs, Pt.cells, Pt.slots] at X82 l82 y82 z82 st82 hQ82
    subst l82 y82 z82
    obtain ⟨h82, eh82⟩ : ∃ z, z = T82.heap := ⟨_, rfl⟩
    rw [← eh82] at hQ82
    have e82 : T82.heap = h82 := eh82.symm
    obtain ⟨rfl, Nq82, Kq82, F_lastPiece_b80, F_pieceBefore_b80, F_lastFrom_b80, F_fromBefore_b80, F_lastTo_b80, F_toBefore_b80⟩ := hQ82
    have E_b1 := E_b1.keep Kq82
    have E_b3 := E_b3.keep Kq82
    have E_b80 := E_b80.keep Kq82
    have Z82 : n0 ≤ h82.size := Nat.le_trans Z80 Kq82.1
    have K82 := K80.trans Kq82 (allS (Or.inr sz_b80) all0)
    have N82 := Fr.app N81 Nq82
    refine OutW.via st82 ?_
    show OutW _ _ _ _ _ _ _ (T82.setTop (mkF m 171 #[.val (.int p1), .val (.int p2), .val (.int p3), .val (.int p4), .val (.int p5), .val (.int p6), .val (.ref b1), .val (.ref b3), .val v6, .val v8, .val v10, .val (.int p2), .val (.int p3), .val (.int v12), .val (.int v16), .val (.int v20), .val (.int v24), .val (.int (3 : Int32)), .val (.ref b80), .unset, .unset, .unset, .unset, .unset, .unset, .unset, .unset] []))
    refine OutW.back (fun t k => XS.iload X82.here hx rfl (hb hby at_171) rfl  k) ?_
    show OutW _ _ _ _ _ _ _ (T82.setTop (mkF m 173 #[.val (.int p1), .val (.int p2), .val (.int p3), .val (.int p4), .val (.int p5), .val (.int p6), .val (.ref b1), .val (.ref b3), .val v6, .val v8, .val v10, .val (.int p2), .val (.int p3), .val (.int v12), .val (.int v16), .val (.int v20), .val (.int v24), .val (.int (3 : Int32)), .val (.ref b80), .unset, .unset, .unset, .unset, .unset, .unset, .unset, .unset] [(.int (3 : Int32))]))
    refine OutW.back (fun t k => XS.iconst X82.here hx rfl (hb hby at_173) k) ?_
    show OutW _ _ _ _ _ _ _ (T82.setTop (mkF m 174 #[.val (.int p1), .val (.int p2), .val (.int p3), .val (.int p4), .val (.int p5), .val (.int p6), .val (.ref b1), .val (.ref b3), .val v6, .val v8, .val v10, .val (.int p2), .val (.int p3), .val (.int v12), .val (.int v16), .val (.int v20), .val (.int v24), .val (.int (3 : Int32)), .val (.ref b80), .unset, .unset, .unset, .unset, .unset, .unset, .unset, .unset] [(.int (2 : Int32)), (.int (3 : Int32))]))
    refine OutW.back (fun t k => XS.icmpNo X82.here hx rfl (hb hby at_174) rfl (flt (by decide : ¬ ((3 : Int32) < (2 : Int32)))).1 k) ?_
    show OutW _ _ _ _ _ _ _ (T82.setTop (mkF m 177 #[.val (.int p1), .val (.int p2), .val (.int p3), .val (.int p4), .val (.int p5), .val (.int p6), .val (.ref b1), .val (.ref b3), .val v6, .val v8, .val v10, .val (.int p2), .val (.int p3), .val (.int v12), .val (.int v16), .val (.int v20), .val (.int v24), .val (.int (3 : Int32)), .val (.ref b80), .unset, .unset, .unset, .unset, .unset, .unset, .unset, .unset] []))
    refine OutW.back (fun t k => XS.aload X82.here hx rfl (hb hby at_177) rfl rfl  k) ?_
    show OutW _ _ _ _ _ _ _ (T82.setTop (mkF m 179 #[.val (.int p1), .val (.int p2), .val (.int p3), .val (.int p4), .val (.int p5), .val (.int p6), .val (.ref b1), .val (.ref b3), .val v6, .val v8, .val v10, .val (.int p2), .val (.int p3), .val (.int v12), .val (.int v16), .val (.int v20), .val (.int v24), .val (.int (3 : Int32)), .val (.ref b80), .unset, .unset, .unset, .unset, .unset, .unset, .unset, .unset] [(.ref b80)]))
    refine OutW.back (fun t k => XS.aload X82.here hx rfl (hb hby at_179) rfl ir_v8  k) ?_
    show OutW _ _ _ _ _ _ _ (T82.setTop (mkF m 181 #[.val (.int p1), .val (.int p2), .val (.int p3), .val (.int p4), .val (.int p5), .val (.int p6), .val (.ref b1), .val (.ref b3), .val v6, .val v8, .val v10, .val (.int p2), .val (.int p3), .val (.int v12), .val (.int v16), .val (.int v20), .val (.int v24), .val (.int (3 : Int32)), .val (.ref b80), .unset, .unset, .unset, .unset, .unset, .unset, .unset, .unset] [v8, (.ref b80)]))
    refine OutW.back (fun t k => XS.iload X82.here hx rfl (hb hby at_181) rfl  k) ?_
    show OutW _ _ _ _ _ _ _ (T82.setTop (mkF m 183 #[.val (.int p1), .val (.int p2), .val (.int p3), .val (.int p4), .val (.int p5), .val (.int p6), .val (.ref b1), .val (.ref b3), .val v6, .val v8, .val v10, .val (.int p2), .val (.int p3), .val (.int v12), .val (.int v16), .val (.int v20), .val (.int v24), .val (.int (3 : Int32)), .val (.ref b80), .unset, .unset, .unset, .unset, .unset, .unset, .unset, .unset] [(.int v12), v8, (.ref b80)]))
    refine OutW.back (fun t k => XS.iload X82.here hx rfl (hb hby at_183) rfl  k) ?_
    show OutW _ _ _ _ _ _ _ (T82.setTop (mkF m 185 #[.val (.int p1), .val (.int p2), .val (.int p3), .val (.int p4), .val (.int p5), .val (.int p6), .val (.ref b1), .val (.ref b3), .val v6, .val v8, .val v10, .val (.int p2), .val (.int p3), .val (.int v12), .val (.int v16), .val (.int v20), .val (.int v24), .val (.int (3 : Int32)), .val (.ref b80), .unset, .unset, .unset, .unset, .unset, .unset, .unset, .unset] [(.int v16), (.int v12), v8, (.ref b80)]))
    obtain ⟨cq83, kq83, qa83, qb83, qc83⟩ := isOf hZ e82 E_b80
    obtain ⟨_, _, ⟨T83, L83, k83, n83⟩, -, X83, ⟨Lc83, hQ83, l83, y83, z83⟩, st83⟩ := X82.virtualBack hx (y := (⟨"com/example/fogline/fogline/rules/RecentMoves", "add", "(Lcom/example/fogline/fogline/rules/Piece;II)V"⟩ : MethodName)) (z := (⟨"com/example/fogline/fogline/rules/RecentMoves", "add", "(Lcom/example/fogline/fogline/rules/Piece;II)V"⟩ : MethodName)) hown (mvT hZ (hw _ (List.mem_of_getElem? (i := 31) rfl))) (mvT hZ (hw _ (List.mem_of_getElem? (i := 32) rfl))) (notFace_of_selects (args := #[]) (mvT hZ (hw _ (List.mem_of_getElem? (i := 34) rfl)))) (mvT hZ (hw _ (List.mem_of_getElem? (i := 34) rfl))) (mvT hZ (hw _ (List.mem_of_getElem? (i := 33) rfl))) (by decide) (backOf (W := 0) (rm6 l Z a0 hw [] b80 v8 v12 v16 v6 .null p2 (0 : Int32) p3 (0 : Int32) h82 n0 Z82 E_b80 g_b80 ir_v8 F_lastPiece_b80 F_pieceBefore_b80 F_lastFrom_b80 F_fromBefore_b80 F_lastTo_b80 F_toBefore_b80 ir_v6) hZ (hw _ (List.mem_of_getElem? (i := 35) rfl)) (hw _ (List.mem_of_getElem? (i := 19) rfl)) (by decide) (by decide)) qa83 qc83 (g := (mkF m 185 #[.val (.int p1), .val (.int p2), .val (.int p3), .val (.int p4), .val (.int p5), .val (.int p6), .val (.ref b1), .val (.ref b3), .val v6, .val v8, .val v10, .val (.int p2), .val (.int p3), .val (.int v12), .val (.int v16), .val (.int v20), .val (.int v24), .val (.int (3 : Int32)), .val (.ref b80), .unset, .unset, .unset, .unset, .unset, .unset, .unset, .unset] [(.int v16), (.int v12), v8, (.ref b80)])) rfl (by rw [hml]; rfl) (Steps.refl _) (argsL := [v8, (.int v12), (.int v16)]) (rest := []) (lenOf pd_4 rfl) rfl (by show 2 * 0 + _ ≤ _; exact Nat.le_of_eq rfl) (hb hby at_185) (fun _ _ => ⟨rfl, e82, (by decide : 3 + 0 ≤ _), (by decide : 14 + 0 ≤ _)⟩)
    dsimp only [Pt.U, Pt.locs, Pt.cells, Pt.slots] at X83 l83 y83 z83 st83 hQ83
    subst l83 y83 z83
    obtain ⟨h83, eh83⟩ : ∃ z, z = T83.heap := ⟨_, rfl⟩
    rw [← eh83] at hQ83
    have e83 : T83.heap = h83 := eh83.symm
    obtain ⟨rfl, Nq83, Kq83, F_lastPiece_b80, F_pieceBefore_b80, F_lastFrom_b80, F_fromBefore_b80, F_lastTo_b80, F_toBefore_b80⟩ := hQ83
    have E_b1 := E_b1.keep Kq83
    have E_b3 := E_b3.keep Kq83
    have E_b80 := E_b80.keep Kq83
    have Z83 : n0 ≤ h83.size := Nat.le_trans Z82 Kq83.1
    have K83 := K82.trans Kq83 (allS (Or.inr sz_b80) all0)
    have N83 := Fr.app N82 Nq83
    refine OutW.via st83 ?_
    show OutW _ _ _ _ _ _ _ (T83.setTop (mkF m 188 #[.val (.int p1), .val (.int p2), .val (.int p3), .val (.int p4), .val (.int p5), .val (.int p6), .val (.ref b1), .val (.ref b3), .val v6, .val v8, .val v10, .val (.int p2), .val (.int p3), .val (.int v12), .val (.int v16), .val (.int v20), .val (.int v24), .val (.int (3 : Int32)), .val (.ref b80), .unset, .unset, .unset, .unset, .unset, .unset, .unset, .unset] []))
    refine OutW.back (fun t k => XS.iload X83.here hx rfl (hb hby at_188) rfl  k) ?_
    show OutW _ _ _ _ _ _ _ (T83.setTop (mkF m 190 #[.val (.int p1), .val (.int p2), .val (.int p3), .val (.int p4), .val (.int p5), .val (.int p6), .val (.ref b1), .val (.ref b3), .val v6, .val v8, .val v10, .val (.int p2), .val (.int p3), .val (.int v12), .val (.int v16), .val (.int v20), .val (.int v24), .val (.int (3 : Int32)), .val (.ref b80), .unset, .unset, .unset, .unset, .unset, .unset, .unset, .unset] [(.int (3 : Int32))]))
    refine OutW.back (fun t k => XS.iconst X83.here hx rfl (hb hby at_190) k) ?_
    show OutW _ _ _ _ _ _ _ (T83.setTop (mkF m 191 #[.val (.int p1), .val (.int p2), .val (.int p3), .val (.int p4), .val (.int p5), .val (.int p6), .val (.ref b1), .val (.ref b3), .val v6, .val v8, .val v10, .val (.int p2), .val (.int p3), .val (.int v12), .val (.int v16), .val (.int v20), .val (.int v24), .val (.int (3 : Int32)), .val (.ref b80), .unset, .unset, .unset, .unset, .unset, .unset, .unset, .unset] [(.int (3 : Int32)), (.int (3 : Int32))]))
    refine OutW.back (fun t k => XS.icmpNo X83.here hx rfl (hb hby at_191) rfl (flt (by decide : ¬ ((3 : Int32) < (3 : Int32)))).1 k) ?_
    show OutW _ _ _ _ _ _ _ (T83.setTop (mkF m 194 #[.val (.int p1), .val (.int p2), .val (.int p3), .val (.int p4), .val (.int p5), .val (.int p6), .val (.ref b1), .val (.ref b3), .val v6, .val v8, .val v10, .val (.int p2), .val (.int p3), .val (.int v12), .val (.int v16), .val (.int v20), .val (.int v24), .val (.int (3 : Int32)), .val (.ref b80), .unset, .unset, .unset, .unset, .unset, .unset, .unset, .unset] []))
    refine OutW.back (fun t k => XS.aload X83.here hx rfl (hb hby at_194) rfl rfl  k) ?_
    show OutW _ _ _ _ _ _ _ (T83.setTop (mkF m 196 #[.val (.int p1), .val (.int p2), .val (.int p3), .val (.int p4), .val (.int p5), .val (.int p6), .val (.ref b1), .val (.ref b3), .val v6, .val v8, .val v10, .val (.int p2), .val (.int p3), .val (.int v12), .val (.int v16), .val (.int v20), .val (.int v24), .val (.int (3 : Int32)), .val (.ref b80), .unset, .unset, .unset, .unset, .unset, .unset, .unset, .unset] [(.ref b80)]))
    refine OutW.back (fun t k => XS.aload X83.here hx rfl (hb hby at_196) rfl ir_v10  k) ?_
    show OutW _ _ _ _ _ _ _ (T83.setTop (mkF m 198 #[.val (.int p1), .val (.int p2), .val (.int p3), .val (.int p4), .val (.int p5), .val (.int p6), .val (.ref b1), .val (.ref b3), .val v6, .val v8, .val v10, .val (.int p2), .val (.int p3), .val (.int v12), .val (.int v16), .val (.int v20), .val (.int v24), .val (.int (3 : Int32)), .val (.ref b80), .unset, .unset, .unset, .unset, .unset, .unset, .unset, .unset] [v10, (.ref b80)]))
    refine OutW.back (fun t k => XS.iload X83.here hx rfl (hb hby at_198) rfl  k) ?_
    show OutW _ _ _ _ _ _ _ (T83.setTop (mkF m 200 #[.val (.int p1), .val (.int p2), .val (.int p3), .val (.int p4), .val (.int p5), .val (.int p6), .val (.ref b1), .val (.ref b3), .val v6, .val v8, .val v10, .val (.int p2), .val (.int p3), .val (.int v12), .val (.int v16), .val (.int v20), .val (.int v24), .val (.int (3 : Int32)), .val (.ref b80), .unset, .unset, .unset, .unset, .unset, .unset, .unset, .unset] [(.int v20), v10, (.ref b80)]))
    refine OutW.back (fun t k => XS.iload X83.here hx rfl (hb hby at_200) rfl  k) ?_
    show OutW _ _ _ _ _ _ _ (T83.setTop (mkF m 202 #[.val (.int p1), .val (.int p2), .val (.int p3), .val (.int p4), .val (.int p5), .val (.int p6), .val (.ref b1), .val (.ref b3), .val v6, .val v8, .val v10, .val (.int p2), .val (.int p3), .val (.int v12), .val (.int v16), .val (.int v20), .val (.int v24), .val (.int (3 : Int32)), .val (.ref b80), .unset, .unset, .unset, .unset, .unset, .unset, .unset, .unset] [(.int v24), (.int v20), v10, (.ref b80)]))
    obtain ⟨cq84, kq84, qa84, qb84, qc84⟩ := isOf hZ e83 E_b80
    obtain ⟨_, _, ⟨T84, L84, k84, n84⟩, -, X84, ⟨Lc84, hQ84, l84, y84, z84⟩, st84⟩ := X83.virtualBack hx (y := (⟨"com/example/fogline/fogline/rules/RecentMoves", "add", "(Lcom/example/fogline/fogline/rules/Piece;II)V"⟩ : MethodName)) (z := (⟨"com/example/fogline/fogline/rules/RecentMoves", "add", "(Lcom/example/fogline/fogline/rules/Piece;II)V"⟩ : MethodName)) hown (mvT hZ (hw _ (List.mem_of_getElem? (i := 31) rfl))) (mvT hZ (hw _ (List.mem_of_getElem? (i := 32) rfl))) (notFace_of_selects (args := #[]) (mvT hZ (hw _ (List.mem_of_getElem? (i := 34) rfl)))) (mvT hZ (hw _ (List.mem_of_getElem? (i := 34) rfl))) (mvT hZ (hw _ (List.mem_of_getElem? (i := 33) rfl))) (by decide) (backOf (W := 0) (rm6 l Z a0 hw [] b80 v10 v20 v24 v8 v6 v12 p2 v16 p3 h83 n0 Z83 E_b80 g_b80 ir_v10 F_lastPiece_b80 F_pieceBefore_b80 F_lastFrom_b80 F_fromBefore_b80 F_lastTo_b80 F_toBefore_b80 ir_v8) hZ (hw _ (List.mem_of_getElem? (i := 35) rfl)) (hw _ (List.mem_of_getElem? (i := 19) rfl)) (by decide) (by decide)) qa84 qc84 (g := (mkF m 202 #[.val (.int p1), .val (.int p2), .val (.int p3), .val (.int p4), .val (.int p5), .val (.int p6), .val (.ref b1), .val (.ref b3), .val v6, .val v8, .val v10, .val (.int p2), .val (.int p3), .val (.int v12), .val (.int v16), .val (.int v20), .val (.int v24), .val (.int (3 : Int32)), .val (.ref b80), .unset, .unset, .unset, .unset, .unset, .unset, .unset, .unset] [(.int v24), (.int v20), v10, (.ref b80)])) rfl (by rw [hml]; rfl) (Steps.refl _) (argsL := [v10, (.int v20), (.int v24)]) (rest := []) (lenOf pd_4 rfl) rfl (by show 2 * 0 + _ ≤ _; exact Nat.le_of_eq rfl) (hb hby at_202) (fun _ _ => ⟨rfl, e83, (by decide : 3 + 0 ≤ _), (by decide : 14 + 0 ≤ _)⟩)
    dsimp only [Pt.U, Pt.locs, Pt.cells, Pt.slots] at X84 l84 y84 z84 st84 hQ84
    subst l84 y84 z84
    obtain ⟨h84, eh84⟩ : ∃ z, z = T84.heap := ⟨_, rfl⟩
    rw [← eh84] at hQ84
    have e84 : T84.heap = h84 := eh84.symm
    obtain ⟨rfl, Nq84, Kq84, F_lastPiece_b80, F_pieceBefore_b80, F_lastFrom_b80, F_fromBefore_b80, F_lastTo_b80, F_toBefore_b80⟩ := hQ84
    have E_b1 := E_b1.keep Kq84
    have E_b3 := E_b3.keep Kq84
    have E_b80 := E_b80.keep Kq84
    have Z84 : n0 ≤ h84.size := Nat.le_trans Z83 Kq84.1
    have K84 := K83.trans Kq84 (allS (Or.inr sz_b80) all0)
    have N84 := Fr.app N83 Nq84
    refine OutW.via st84 ?_
    show OutW _ _ _ _ _ _ _ (T84.setTop (mkF m 205 #[.val (.int p1), .val (.int p2), .val (.int p3), .val (.int p4), .val (.int p5), .val (.int p6), .val (.ref b1), .val (.ref b3), .val v6, .val v8, .val v10, .val (.int p2), .val (.int p3), .val (.int v12), .val (.int v16), .val (.int v20), .val (.int v24), .val (.int (3 : Int32)), .val (.ref b80), .unset, .unset, .unset, .unset, .unset, .unset, .unset, .unset] []))
    refine OutW.back (fun t k => XS.aload X84.here hx rfl (hb hby at_205) rfl rfl  k) ?_
    show OutW _ _ _ _ _ _ _ (T84.setTop (mkF m 207 #[.val (.int p1), .val (.int p2), .val (.int p3), .val (.int p4), .val (.int p5), .val (.int p6), .val (.ref b1), .val (.ref b3), .val v6, .val v8, .val v10, .val (.int p2), .val (.int p3), .val (.int v12), .val (.int v16), .val (.int v20), .val (.int v24), .val (.int (3 : Int32)), .val (.ref b80), .unset, .unset, .unset, .unset, .unset, .unset, .unset, .unset] [(.ref b80)]))
    obtain ⟨cq85, kq85, qa85, qb85, qc85⟩ := isOf hZ e84 E_b80
    obtain ⟨_, _, ⟨T85, L85, k85, n85⟩, -, X85, ⟨Lc85, hQ85, l85, y85, z85⟩, st85⟩ := X84.virtualBack hx (y := (⟨"com/example/fogline/fogline/rules/RecentMoves", "wentBack", "()Z"⟩ : MethodName)) (z := (⟨"com/example/fogline/fogline/rules/RecentMoves", "wentBack", "()Z"⟩ : MethodName)) hown (mvT hZ (hw _ (List.mem_of_getElem? (i := 24) rfl))) (mvT hZ (hw _ (List.mem_of_getElem? (i := 25) rfl))) (notFace_of_selects (args := #[]) (mvT hZ (hw _ (List.mem_of_getElem? (i := 27) rfl)))) (mvT hZ (hw _ (List.mem_of_getElem? (i := 27) rfl))) (mvT hZ (hw _ (List.mem_of_getElem? (i := 26) rfl))) (by decide) (backOf (W := 0) (rm5 l Z a0 hw [] b80 v10 v8 v20 v12 v24 v16 h84 n0 Z84 F_lastPiece_b80 F_pieceBefore_b80 F_lastFrom_b80 F_fromBefore_b80 F_lastTo_b80 F_toBefore_b80 ir_v10 ir_v8) hZ (hw _ (List.mem_of_getElem? (i := 28) rfl)) (hw _ (List.mem_of_getElem? (i := 19) rfl)) (by decide) (by decide)) qa85 qc85 (g := (mkF m 207 #[.val (.int p1), .val (.int p2), .val (.int p3), .val (.int p4), .val (.int p5), .val (.int p6), .val (.ref b1), .val (.ref b3), .val v6, .val v8, .val v10, .val (.int p2), .val (.int p3), .val (.int v12), .val (.int v16), .val (.int v20), .val (.int v24), .val (.int (3 : Int32)), .val (.ref b80), .unset, .unset, .unset, .unset, .unset, .unset, .unset, .unset] [(.ref b80)])) rfl (by rw [hml]; rfl) (Steps.refl _) (argsL := []) (rest := []) (lenOf pd_3 rfl) rfl (by show 2 * 0 + _ ≤ _; exact Nat.le_of_eq rfl) (hb hby at_207) (fun _ _ => ⟨rfl, e84, (by decide : 3 + 0 ≤ _), (by decide : 14 + 0 ≤ _)⟩)
    dsimp only [Pt.U, Pt.locs, Pt.cells, Pt.slots] at X85 l85 y85 z85 st85 hQ85
    subst l85 y85 z85
    obtain ⟨rfl, Nq85, e85⟩ := hQ85
    have N85 := Fr.app N84 Nq85
    refine OutW.via st85 ?_
    show OutW _ _ _ _ _ _ _ (T85.setTop (mkF m 210 #[.val (.int p1), .val (.int p2), .val (.int p3), .val (.int p4), .val (.int p5), .val (.int p6), .val (.ref b1), .val (.ref b3), .val v6, .val v8, .val v10, .val (.int p2), .val (.int p3), .val (.int v12), .val (.int v16), .val (.int v20), .val (.int v24), .val (.int (3 : Int32)), .val (.ref b80), .unset, .unset, .unset, .unset, .unset, .unset, .unset, .unset] [(.int (wentF v10 v8 v20 v12 v24 v16))]))
    generalize hv_v86 : (wentF v10 v8 v20 v12 v24 v16) = v86
    refine OutW.back (fun t k => XS.istore X85.here hx rfl (hb hby at_210) rfl (l' := #[.val (.int p1), .val (.int p2), .val (.int p3), .val (.int p4), .val (.int p5), .val (.int p6), .val (.ref b1), .val (.ref b3), .val v6, .val v8, .val v10, .val (.int p2), .val (.int p3), .val (.int v12), .val (.int v16), .val (.int v20), .val (.int v24), .val (.int (3 : Int32)), .val (.ref b80), .val (.int v86), .unset, .unset, .unset, .unset, .unset, .unset, .unset]) rfl k) ?_
    show OutW _ _ _ _ _ _ _ (T85.setTop (mkF m 212 #[.val (.int p1), .val (.int p2), .val (.int p3), .val (.int p4), .val (.int p5), .val (.int p6), .val (.ref b1), .val (.ref b3), .val v6, .val v8, .val v10, .val (.int p2), .val (.int p3), .val (.int v12), .val (.int v16), .val (.int v20), .val (.int v24), .val (.int (3 : Int32)), .val (.ref b80), .val (.int v86), .unset, .unset, .unset, .unset, .unset, .unset, .unset] []))
    refine OutW.back (fun t k => XS.aconstNull X85.here hx rfl (hb hby at_212) k) ?_
    show OutW _ _ _ _ _ _ _ (T85.setTop (mkF m 213 #[.val (.int p1), .val (.int p2), .val (.int p3), .val (.int p4), .val (.int p5), .val (.int p6), .val (.ref b1), .val (.ref b3), .val v6, .val v8, .val v10, .val (.int p2), .val (.int p3), .val (.int v12), .val (.int v16), .val (.int v20), .val (.int v24), .val (.int (3 : Int32)), .val (.ref b80), .val (.int v86), .unset, .unset, .unset, .unset, .unset, .unset, .unset] [.null]))
    refine OutW.back (fun t k => XS.astore X85.here hx rfl (hb hby at_213) rfl rfl (l' := #[.val (.int p1), .val (.int p2), .val (.int p3), .val (.int p4), .val (.int p5), .val (.int p6), .val (.ref b1), .val (.ref b3), .val v6, .val v8, .val v10, .val (.int p2), .val (.int p3), .val (.int v12), .val (.int v16), .val (.int v20), .val (.int v24), .val (.int (3 : Int32)), .val (.ref b80), .val (.int v86), .val .null, .unset, .unset, .unset, .unset, .unset, .unset]) rfl k) ?_
    show OutW _ _ _ _ _ _ _ (T85.setTop (mkF m 215 #[.val (.int p1), .val (.int p2), .val (.int p3), .val (.int p4), .val (.int p5), .val (.int p6), .val (.ref b1), .val (.ref b3), .val v6, .val v8, .val v10, .val (.int p2), .val (.int p3), .val (.int v12), .val (.int v16), .val (.int v20), .val (.int v24), .val (.int (3 : Int32)), .val (.ref b80), .val (.int v86), .val .null, .unset, .unset, .unset, .unset, .unset, .unset] []))
    refine OutW.back (fun t k => XS.aconstNull X85.here hx rfl (hb hby at_215) k) ?_
    show OutW _ _ _ _ _ _ _ (T85.setTop (mkF m 216 #[.val (.int p1), .val (.int p2), .val (.int p3), .val (.int p4), .val (.int p5), .val (.int p6), .val (.ref b1), .val (.ref b3), .val v6, .val v8, .val v10, .val (.int p2), .val (.int p3), .val (.int v12), .val (.int v16), .val (.int v20), .val (.int v24), .val (.int (3 : Int32)), .val (.ref b80), .val (.int v86), .val .null, .unset, .unset, .unset, .unset, .unset, .unset] [.null]))
    refine OutW.back (fun t k => XS.astore X85.here hx rfl (hb hby at_216) rfl rfl (l' := #[.val (.int p1), .val (.int p2), .val (.int p3), .val (.int p4), .val (.int p5), .val (.int p6), .val (.ref b1), .val (.ref b3), .val v6, .val v8, .val v10, .val (.int p2), .val (.int p3), .val (.int v12), .val (.int v16), .val (.int v20), .val (.int v24), .val (.int (3 : Int32)), .val (.ref b80), .val (.int v86), .val .null, .val .null, .unset, .unset, .unset, .unset, .unset]) rfl k) ?_
    show OutW _ _ _ _ _ _ _ (T85.setTop (mkF m 218 #[.val (.int p1), .val (.int p2), .val (.int p3), .val (.int p4), .val (.int p5), .val (.int p6), .val (.ref b1), .val (.ref b3), .val v6, .val v8, .val v10, .val (.int p2), .val (.int p3), .val (.int v12), .val (.int v16), .val (.int v20), .val (.int v24), .val (.int (3 : Int32)), .val (.ref b80), .val (.int v86), .val .null, .val .null, .unset, .unset, .unset, .unset, .unset] []))
    refine OutW.back (fun t k => XS.iconst X85.here hx rfl (hb hby at_218) k) ?_
    show OutW _ _ _ _ _ _ _ (T85.setTop (mkF m 219 #[.val (.int p1), .val (.int p2), .val (.int p3), .val (.int p4), .val (.int p5), .val (.int p6), .val (.ref b1), .val (.ref b3), .val v6, .val v8, .val v10, .val (.int p2), .val (.int p3), .val (.int v12), .val (.int v16), .val (.int v20), .val (.int v24), .val (.int (3 : Int32)), .val (.ref b80), .val (.int v86), .val .null, .val .null, .unset, .unset, .unset, .unset, .unset] [(.int (0 : Int32))]))
    refine OutW.back (fun t k => XS.istore X85.here hx rfl (hb hby at_219) rfl (l' := #[.val (.int p1), .val (.int p2), .val (.int p3), .val (.int p4), .val (.int p5), .val (.int p6), .val (.ref b1), .val (.ref b3), .val v6, .val v8, .val v10, .val (.int p2), .val (.int p3), .val (.int v12), .val (.int v16), .val (.int v20), .val (.int v24), .val (.int (3 : Int32)), .val (.ref b80), .val (.int v86), .val .null, .val .null, .val (.int (0 : Int32)), .unset, .unset, .unset, .unset]) rfl k) ?_
    show OutW _ _ _ _ _ _ _ (T85.setTop (mkF m 221 #[.val (.int p1), .val (.int p2), .val (.int p3), .val (.int p4), .val (.int p5), .val (.int p6), .val (.ref b1), .val (.ref b3), .val v6, .val v8, .val v10, .val (.int p2), .val (.int p3), .val (.int v12), .val (.int v16), .val (.int v20), .val (.int v24), .val (.int (3 : Int32)), .val (.ref b80), .val (.int v86), .val .null, .val .null, .val (.int (0 : Int32)), .unset, .unset, .unset, .unset] []))
    refine OutW.back (fun t k => XS.iconst X85.here hx rfl (hb hby at_221) k) ?_
    show OutW _ _ _ _ _ _ _ (T85.setTop (mkF m 222 #[.val (.int p1), .val (.int p2), .val (.int p3), .val (.int p4), .val (.int p5), .val (.int p6), .val (.ref b1), .val (.ref b3), .val v6, .val v8, .val v10, .val (.int p2), .val (.int p3), .val (.int v12), .val (.int v16), .val (.int v20), .val (.int v24), .val (.int (3 : Int32)), .val (.ref b80), .val (.int v86), .val .null, .val .null, .val (.int (0 : Int32)), .unset, .unset, .unset, .unset] [(.int (0 : Int32))]))
    refine OutW.back (fun t k => XS.istore X85.here hx rfl (hb hby at_222) rfl (l' := #[.val (.int p1), .val (.int p2), .val (.int p3), .val (.int p4), .val (.int p5), .val (.int p6), .val (.ref b1), .val (.ref b3), .val v6, .val v8, .val v10, .val (.int p2), .val (.int p3), .val (.int v12), .val (.int v16), .val (.int v20), .val (.int v24), .val (.int (3 : Int32)), .val (.ref b80), .val (.int v86), .val .null, .val .null, .val (.int (0 : Int32)), .val (.int (0 : Int32)), .unset, .unset, .unset]) rfl k) ?_
    show OutW _ _ _ _ _ _ _ (T85.setTop (mkF m 224 #[.val (.int p1), .val (.int p2), .val (.int p3), .val (.int p4), .val (.int p5), .val (.int p6), .val (.ref b1), .val (.ref b3), .val v6, .val v8, .val v10, .val (.int p2), .val (.int p3), .val (.int v12), .val (.int v16), .val (.int v20), .val (.int v24), .val (.int (3 : Int32)), .val (.ref b80), .val (.int v86), .val .null, .val .null, .val (.int (0 : Int32)), .val (.int (0 : Int32)), .unset, .unset, .unset] []))
    refine OutW.back (fun t k => XS.iconst X85.here hx rfl (hb hby at_224) k) ?_
    show OutW _ _ _ _ _ _ _ (T85.setTop (mkF m 225 #[.val (.int p1), .val (.int p2), .val (.int p3), .val (.int p4), .val (.int p5), .val (.int p6), .val (.ref b1), .val (.ref b3), .val v6, .val v8, .val v10, .val (.int p2), .val (.int p3), .val (.int v12), .val (.int v16), .val (.int v20), .val (.int v24), .val (.int (3 : Int32)), .val (.ref b80), .val (.int v86), .val .null, .val .null, .val (.int (0 : Int32)), .val (.int (0 : Int32)), .unset, .unset, .unset] [(.int (0 : Int32))]))
    refine OutW.back (fun t k => XS.istore X85.here hx rfl (hb hby at_225) rfl (l' := #[.val (.int p1), .val (.int p2), .val (.int p3), .val (.int p4), .val (.int p5), .val (.int p6), .val (.ref b1), .val (.ref b3), .val v6, .val v8, .val v10, .val (.int p2), .val (.int p3), .val (.int v12), .val (.int v16), .val (.int v20), .val (.int v24), .val (.int (3 : Int32)), .val (.ref b80), .val (.int v86), .val .null, .val .null, .val (.int (0 : Int32)), .val (.int (0 : Int32)), .val (.int (0 : Int32)), .unset, .unset]) rfl k) ?_
    show OutW _ _ _ _ _ _ _ (T85.setTop (mkF m 227 #[.val (.int p1), .val (.int p2), .val (.int p3), .val (.int p4), .val (.int p5), .val (.int p6), .val (.ref b1), .val (.ref b3), .val v6, .val v8, .val v10, .val (.int p2), .val (.int p3), .val (.int v12), .val (.int v16), .val (.int v20), .val (.int v24), .val (.int (3 : Int32)), .val (.ref b80), .val (.int v86), .val .null, .val .null, .val (.int (0 : Int32)), .val (.int (0 : Int32)), .val (.int (0 : Int32)), .unset, .unset] []))
    refine OutW.back (fun t k => XS.iconst X85.here hx rfl (hb hby at_227) k) ?_
    show OutW _ _ _ _ _ _ _ (T85.setTop (mkF m 228 #[.val (.int p1), .val (.int p2), .val (.int p3), .val (.int p4), .val (.int p5), .val (.int p6), .val (.ref b1), .val (.ref b3), .val v6, .val v8, .val v10, .val (.int p2), .val (.int p3), .val (.int v12), .val (.int v16), .val (.int v20), .val (.int v24), .val (.int (3 : Int32)), .val (.ref b80), .val (.int v86), .val .null, .val .null, .val (.int (0 : Int32)), .val (.int (0 : Int32)), .val (.int (0 : Int32)), .unset, .unset] [(.int (0 : Int32))]))
    refine OutW.back (fun t k => XS.istore X85.here hx rfl (hb hby at_228) rfl (l' := #[.val (.int p1), .val (.int p2), .val (.int p3), .val (.int p4), .val (.int p5), .val (.int p6), .val (.ref b1), .val (.ref b3), .val v6, .val v8, .val v10, .val (.int p2), .val (.int p3), .val (.int v12), .val (.int v16), .val (.int v20), .val (.int v24), .val (.int (3 : Int32)), .val (.ref b80), .val (.int v86), .val .null, .val .null, .val (.int (0 : Int32)), .val (.int (0 : Int32)), .val (.int (0 : Int32)), .val (.int (0 : Int32)), .unset]) rfl k) ?_
    show OutW _ _ _ _ _ _ _ (T85.setTop (mkF m 230 #[.val (.int p1), .val (.int p2), .val (.int p3), .val (.int p4), .val (.int p5), .val (.int p6), .val (.ref b1), .val (.ref b3), .val v6, .val v8, .val v10, .val (.int p2), .val (.int p3), .val (.int v12), .val (.int v16), .val (.int v20), .val (.int v24), .val (.int (3 : Int32)), .val (.ref b80), .val (.int v86), .val .null, .val .null, .val (.int (0 : Int32)), .val (.int (0 : Int32)), .val (.int (0 : Int32)), .val (.int (0 : Int32)), .unset] []))
    refine OutW.back (fun t k => XS.iload X85.here hx rfl (hb hby at_230) rfl  k) ?_
    show OutW _ _ _ _ _ _ _ (T85.setTop (mkF m 232 #[.val (.int p1), .val (.int p2), .val (.int p3), .val (.int p4), .val (.int p5), .val (.int p6), .val (.ref b1), .val (.ref b3), .val v6, .val v8, .val v10, .val (.int p2), .val (.int p3), .val (.int v12), .val (.int v16), .val (.int v20), .val (.int v24), .val (.int (3 : Int32)), .val (.ref b80), .val (.int v86), .val .null, .val .null, .val (.int (0 : Int32)), .val (.int (0 : Int32)), .val (.int (0 : Int32)), .val (.int (0 : Int32)), .unset] [(.int (3 : Int32))]))
    refine OutW.back (fun t k => XS.iconst X85.here hx rfl (hb hby at_232) k) ?_
    show OutW _ _ _ _ _ _ _ (T85.setTop (mkF m 233 #[.val (.int p1), .val (.int p2), .val (.int p3), .val (.int p4), .val (.int p5), .val (.int p6), .val (.ref b1), .val (.ref b3), .val v6, .val v8, .val v10, .val (.int p2), .val (.int p3), .val (.int v12), .val (.int v16), .val (.int v20), .val (.int v24), .val (.int (3 : Int32)), .val (.ref b80), .val (.int v86), .val .null, .val .null, .val (.int (0 : Int32)), .val (.int (0 : Int32)), .val (.int (0 : Int32)), .val (.int (0 : Int32)), .unset] [(.int (1 : Int32)), (.int (3 : Int32))]))
    refine OutW.back (fun t k => XS.icmpYes X85.here hx rfl (pc0 := 233) (pc' := 251) rfl (hb hby at_233) rfl (feq (by decide : ¬ ((3 : Int32) = (1 : Int32)))).2 (by decide) (by decide) k) ?_
    show OutW _ _ _ _ _ _ _ (T85.setTop (mkF m 251 #[.val (.int p1), .val (.int p2), .val (.int p3), .val (.int p4), .val (.int p5), .val (.int p6), .val (.ref b1), .val (.ref b3), .val v6, .val v8, .val v10, .val (.int p2), .val (.int p3), .val (.int v12), .val (.int v16), .val (.int v20), .val (.int v24), .val (.int (3 : Int32)), .val (.ref b80), .val (.int v86), .val .null, .val .null, .val (.int (0 : Int32)), .val (.int (0 : Int32)), .val (.int (0 : Int32)), .val (.int (0 : Int32)), .unset] []))
    refine OutW.back (fun t k => XS.iload X85.here hx rfl (hb hby at_251) rfl  k) ?_
    show OutW _ _ _ _ _ _ _ (T85.setTop (mkF m 253 #[.val (.int p1), .val (.int p2), .val (.int p3), .val (.int p4), .val (.int p5), .val (.int p6), .val (.ref b1), .val (.ref b3), .val v6, .val v8, .val v10, .val (.int p2), .val (.int p3), .val (.int v12), .val (.int v16), .val (.int v20), .val (.int v24), .val (.int (3 : Int32)), .val (.ref b80), .val (.int v86), .val .null, .val .null, .val (.int (0 : Int32)), .val (.int (0 : Int32)), .val (.int (0 : Int32)), .val (.int (0 : Int32)), .unset] [(.int (3 : Int32))]))
    refine OutW.back (fun t k => XS.iconst X85.here hx rfl (hb hby at_253) k) ?_
    show OutW _ _ _ _ _ _ _ (T85.setTop (mkF m 254 #[.val (.int p1), .val (.int p2), .val (.int p3), .val (.int p4), .val (.int p5), .val (.int p6), .val (.ref b1), .val (.ref b3), .val v6, .val v8, .val v10, .val (.int p2), .val (.int p3), .val (.int v12), .val (.int v16), .val (.int v20), .val (.int v24), .val (.int (3 : Int32)), .val (.ref b80), .val (.int v86), .val .null, .val .null, .val (.int (0 : Int32)), .val (.int (0 : Int32)), .val (.int (0 : Int32)), .val (.int (0 : Int32)), .unset] [(.int (2 : Int32)), (.int (3 : Int32))]))
    refine OutW.back (fun t k => XS.icmpYes X85.here hx rfl (pc0 := 254) (pc' := 284) rfl (hb hby at_254) rfl (feq (by decide : ¬ ((3 : Int32) = (2 : Int32)))).2 (by decide) (by decide) k) ?_
    show OutW _ _ _ _ _ _ _ (T85.setTop (mkF m 284 #[.val (.int p1), .val (.int p2), .val (.int p3), .val (.int p4), .val (.int p5), .val (.int p6), .val (.ref b1), .val (.ref b3), .val v6, .val v8, .val v10, .val (.int p2), .val (.int p3), .val (.int v12), .val (.int v16), .val (.int v20), .val (.int v24), .val (.int (3 : Int32)), .val (.ref b80), .val (.int v86), .val .null, .val .null, .val (.int (0 : Int32)), .val (.int (0 : Int32)), .val (.int (0 : Int32)), .val (.int (0 : Int32)), .unset] []))
    refine OutW.back (fun t k => XS.iload X85.here hx rfl (hb hby at_284) rfl  k) ?_
    show OutW _ _ _ _ _ _ _ (T85.setTop (mkF m 286 #[.val (.int p1), .val (.int p2), .val (.int p3), .val (.int p4), .val (.int p5), .val (.int p6), .val (.ref b1), .val (.ref b3), .val v6, .val v8, .val v10, .val (.int p2), .val (.int p3), .val (.int v12), .val (.int v16), .val (.int v20), .val (.int v24), .val (.int (3 : Int32)), .val (.ref b80), .val (.int v86), .val .null, .val .null, .val (.int (0 : Int32)), .val (.int (0 : Int32)), .val (.int (0 : Int32)), .val (.int (0 : Int32)), .unset] [(.int (3 : Int32))]))
    refine OutW.back (fun t k => XS.iconst X85.here hx rfl (hb hby at_286) k) ?_
    show OutW _ _ _ _ _ _ _ (T85.setTop (mkF m 287 #[.val (.int p1), .val (.int p2), .val (.int p3), .val (.int p4), .val (.int p5), .val (.int p6), .val (.ref b1), .val (.ref b3), .val v6, .val v8, .val v10, .val (.int p2), .val (.int p3), .val (.int v12), .val (.int v16), .val (.int v20), .val (.int v24), .val (.int (3 : Int32)), .val (.ref b80), .val (.int v86), .val .null, .val .null, .val (.int (0 : Int32)), .val (.int (0 : Int32)), .val (.int (0 : Int32)), .val (.int (0 : Int32)), .unset] [(.int (3 : Int32)), (.int (3 : Int32))]))
    refine OutW.back (fun t k => XS.icmpNo X85.here hx rfl (hb hby at_287) rfl (teq (by decide : (3 : Int32) = (3 : Int32))).2 k) ?_
    show OutW _ _ _ _ _ _ _ (T85.setTop (mkF m 290 #[.val (.int p1), .val (.int p2), .val (.int p3), .val (.int p4), .val (.int p5), .val (.int p6), .val (.ref b1), .val (.ref b3), .val v6, .val v8, .val v10, .val (.int p2), .val (.int p3), .val (.int v12), .val (.int v16), .val (.int v20), .val (.int v24), .val (.int (3 : Int32)), .val (.ref b80), .val (.int v86), .val .null, .val .null, .val (.int (0 : Int32)), .val (.int (0 : Int32)), .val (.int (0 : Int32)), .val (.int (0 : Int32)), .unset] []))
    refine OutW.back (fun t k => XS.aload X85.here hx rfl (hb hby at_290) rfl ir_v10  k) ?_
    show OutW _ _ _ _ _ _ _ (T85.setTop (mkF m 292 #[.val (.int p1), .val (.int p2), .val (.int p3), .val (.int p4), .val (.int p5), .val (.int p6), .val (.ref b1), .val (.ref b3), .val v6, .val v8, .val v10, .val (.int p2), .val (.int p3), .val (.int v12), .val (.int v16), .val (.int v20), .val (.int v24), .val (.int (3 : Int32)), .val (.ref b80), .val (.int v86), .val .null, .val .null, .val (.int (0 : Int32)), .val (.int (0 : Int32)), .val (.int (0 : Int32)), .val (.int (0 : Int32)), .unset] [v10]))
    refine OutW.back (fun t k => XS.astore X85.here hx rfl (hb hby at_292) rfl ir_v10 (l' := #[.val (.int p1), .val (.int p2), .val (.int p3), .val (.int p4), .val (.int p5), .val (.int p6), .val (.ref b1), .val (.ref b3), .val v6, .val v8, .val v10, .val (.int p2), .val (.int p3), .val (.int v12), .val (.int v16), .val (.int v20), .val (.int v24), .val (.int (3 : Int32)), .val (.ref b80), .val (.int v86), .val v10, .val .null, .val (.int (0 : Int32)), .val (.int (0 : Int32)), .val (.int (0 : Int32)), .val (.int (0 : Int32)), .unset]) (store1' (o := .val .null) rfl (One.val rfl) (cat_ref ir_v10) rfl) k) ?_
    show OutW _ _ _ _ _ _ _ (T85.setTop (mkF m 294 #[.val (.int p1), .val (.int p2), .val (.int p3), .val (.int p4), .val (.int p5), .val (.int p6), .val (.ref b1), .val (.ref b3), .val v6, .val v8, .val v10, .val (.int p2), .val (.int p3), .val (.int v12), .val (.int v16), .val (.int v20), .val (.int v24), .val (.int (3 : Int32)), .val (.ref b80), .val (.int v86), .val v10, .val .null, .val (.int (0 : Int32)), .val (.int (0 : Int32)), .val (.int (0 : Int32)), .val (.int (0 : Int32)), .unset] []))
    refine OutW.back (fun t k => XS.iload X85.here hx rfl (hb hby at_294) rfl  k) ?_
    show OutW _ _ _ _ _ _ _ (T85.setTop (mkF m 296 #[.val (.int p1), .val (.int p2), .val (.int p3), .val (.int p4), .val (.int p5), .val (.int p6), .val (.ref b1), .val (.ref b3), .val v6, .val v8, .val v10, .val (.int p2), .val (.int p3), .val (.int v12), .val (.int v16), .val (.int v20), .val (.int v24), .val (.int (3 : Int32)), .val (.ref b80), .val (.int v86), .val v10, .val .null, .val (.int (0 : Int32)), .val (.int (0 : Int32)), .val (.int (0 : Int32)), .val (.int (0 : Int32)), .unset] [(.int v20)]))
    refine OutW.back (fun t k => XS.istore X85.here hx rfl (hb hby at_296) rfl (l' := #[.val (.int p1), .val (.int p2), .val (.int p3), .val (.int p4), .val (.int p5), .val (.int p6), .val (.ref b1), .val (.ref b3), .val v6, .val v8, .val v10, .val (.int p2), .val (.int p3), .val (.int v12), .val (.int v16), .val (.int v20), .val (.int v24), .val (.int (3 : Int32)), .val (.ref b80), .val (.int v86), .val v10, .val .null, .val (.int v20), .val (.int (0 : Int32)), .val (.int (0 : Int32)), .val (.int (0 : Int32)), .unset]) rfl k) ?_
    show OutW _ _ _ _ _ _ _ (T85.setTop (mkF m 298 #[.val (.int p1), .val (.int p2), .val (.int p3), .val (.int p4), .val (.int p5), .val (.int p6), .val (.ref b1), .val (.ref b3), .val v6, .val v8, .val v10, .val (.int p2), .val (.int p3), .val (.int v12), .val (.int v16), .val (.int v20), .val (.int v24), .val (.int (3 : Int32)), .val (.ref b80), .val (.int v86), .val v10, .val .null, .val (.int v20), .val (.int (0 : Int32)), .val (.int (0 : Int32)), .val (.int (0 : Int32)), .unset] []))
    refine OutW.back (fun t k => XS.iload X85.here hx rfl (hb hby at_298) rfl  k) ?_
    show OutW _ _ _ _ _ _ _ (T85.setTop (mkF m 300 #[.val (.int p1), .val (.int p2), .val (.int p3), .val (.int p4), .val (.int p5), .val (.int p6), .val (.ref b1), .val (.ref b3), .val v6, .val v8, .val v10, .val (.int p2), .val (.int p3), .val (.int v12), .val (.int v16), .val (.int v20), .val (.int v24), .val (.int (3 : Int32)), .val (.ref b80), .val (.int v86), .val v10, .val .null, .val (.int v20), .val (.int (0 : Int32)), .val (.int (0 : Int32)), .val (.int (0 : Int32)), .unset] [(.int v24)]))
    refine OutW.back (fun t k => XS.istore X85.here hx rfl (hb hby at_300) rfl (l' := #[.val (.int p1), .val (.int p2), .val (.int p3), .val (.int p4), .val (.int p5), .val (.int p6), .val (.ref b1), .val (.ref b3), .val v6, .val v8, .val v10, .val (.int p2), .val (.int p3), .val (.int v12), .val (.int v16), .val (.int v20), .val (.int v24), .val (.int (3 : Int32)), .val (.ref b80), .val (.int v86), .val v10, .val .null, .val (.int v20), .val (.int v24), .val (.int (0 : Int32)), .val (.int (0 : Int32)), .unset]) rfl k) ?_
    show OutW _ _ _ _ _ _ _ (T85.setTop (mkF m 302 #[.val (.int p1), .val (.int p2), .val (.int p3), .val (.int p4), .val (.int p5), .val (.int p6), .val (.ref b1), .val (.ref b3), .val v6, .val v8, .val v10, .val (.int p2), .val (.int p3), .val (.int v12), .val (.int v16), .val (.int v20), .val (.int v24), .val (.int (3 : Int32)), .val (.ref b80), .val (.int v86), .val v10, .val .null, .val (.int v20), .val (.int v24), .val (.int (0 : Int32)), .val (.int (0 : Int32)), .unset] []))
    refine OutW.back (fun t k => XS.aload X85.here hx rfl (hb hby at_302) rfl ir_v8  k) ?_
    show OutW _ _ _ _ _ _ _ (T85.setTop (mkF m 304 #[.val (.int p1), .val (.int p2), .val (.int p3), .val (.int p4), .val (.int p5), .val (.int p6), .val (.ref b1), .val (.ref b3), .val v6, .val v8, .val v10, .val (.int p2), .val (.int p3), .val (.int v12), .val (.int v16), .val (.int v20), .val (.int v24), .val (.int (3 : Int32)), .val (.ref b80), .val (.int v86), .val v10, .val .null, .val (.int v20), .val (.int v24), .val (.int (0 : Int32)), .val (.int (0 : Int32)), .unset] [v8]))
    refine OutW.back (fun t k => XS.astore X85.here hx rfl (hb hby at_304) rfl ir_v8 (l' := #[.val (.int p1), .val (.int p2), .val (.int p3), .val (.int p4), .val (.int p5), .val (.int p6), .val (.ref b1), .val (.ref b3), .val v6, .val v8, .val v10, .val (.int p2), .val (.int p3), .val (.int v12), .val (.int v16), .val (.int v20), .val (.int v24), .val (.int (3 : Int32)), .val (.ref b80), .val (.int v86), .val v10, .val v8, .val (.int v20), .val (.int v24), .val (.int (0 : Int32)), .val (.int (0 : Int32)), .unset]) (store1' (o := .val .null) rfl (One.val rfl) (cat_ref ir_v8) rfl) k) ?_
    show OutW _ _ _ _ _ _ _ (T85.setTop (mkF m 306 #[.val (.int p1), .val (.int p2), .val (.int p3), .val (.int p4), .val (.int p5), .val (.int p6), .val (.ref b1), .val (.ref b3), .val v6, .val v8, .val v10, .val (.int p2), .val (.int p3), .val (.int v12), .val (.int v16), .val (.int v20), .val (.int v24), .val (.int (3 : Int32)), .val (.ref b80), .val (.int v86), .val v10, .val v8, .val (.int v20), .val (.int v24), .val (.int (0 : Int32)), .val (.int (0 : Int32)), .unset] []))
    refine OutW.back (fun t k => XS.iload X85.here hx rfl (hb hby at_306) rfl  k) ?_
    show OutW _ _ _ _ _ _ _ (T85.setTop (mkF m 308 #[.val (.int p1), .val (.int p2), .val (.int p3), .val (.int p4), .val (.int p5), .val (.int p6), .val (.ref b1), .val (.ref b3), .val v6, .val v8, .val v10, .val (.int p2), .val (.int p3), .val (.int v12), .val (.int v16), .val (.int v20), .val (.int v24), .val (.int (3 : Int32)), .val (.ref b80), .val (.int v86), .val v10, .val v8, .val (.int v20), .val (.int v24), .val (.int (0 : Int32)), .val (.int (0 : Int32)), .unset] [(.int v12)]))
    refine OutW.back (fun t k => XS.istore X85.here hx rfl (hb hby at_308) rfl (l' := #[.val (.int p1), .val (.int p2), .val (.int p3), .val (.int p4), .val (.int p5), .val (.int p6), .val (.ref b1), .val (.ref b3), .val v6, .val v8, .val v10, .val (.int p2), .val (.int p3), .val (.int v12), .val (.int v16), .val (.int v20), .val (.int v24), .val (.int (3 : Int32)), .val (.ref b80), .val (.int v86), .val v10, .val v8, .val (.int v20), .val (.int v24), .val (.int v12), .val (.int (0 : Int32)), .unset]) rfl k) ?_
    show OutW _ _ _ _ _ _ _ (T85.setTop (mkF m 310 #[.val (.int p1), .val (.int p2), .val (.int p3), .val (.int p4), .val (.int p5), .val (.int p6), .val (.ref b1), .val (.ref b3), .val v6, .val v8, .val v10, .val (.int p2), .val (.int p3), .val (.int v12), .val (.int v16), .val (.int v20), .val (.int v24), .val (.int (3 : Int32)), .val (.ref b80), .val (.int v86), .val v10, .val v8, .val (.int v20), .val (.int v24), .val (.int v12), .val (.int (0 : Int32)), .unset] []))
    refine OutW.back (fun t k => XS.iload X85.here hx rfl (hb hby at_310) rfl  k) ?_
    show OutW _ _ _ _ _ _ _ (T85.setTop (mkF m 312 #[.val (.int p1), .val (.int p2), .val (.int p3), .val (.int p4), .val (.int p5), .val (.int p6), .val (.ref b1), .val (.ref b3), .val v6, .val v8, .val v10, .val (.int p2), .val (.int p3), .val (.int v12), .val (.int v16), .val (.int v20), .val (.int v24), .val (.int (3 : Int32)), .val (.ref b80), .val (.int v86), .val v10, .val v8, .val (.int v20), .val (.int v24), .val (.int v12), .val (.int (0 : Int32)), .unset] [(.int v16)]))
    refine OutW.back (fun t k => XS.istore X85.here hx rfl (hb hby at_312) rfl (l' := #[.val (.int p1), .val (.int p2), .val (.int p3), .val (.int p4), .val (.int p5), .val (.int p6), .val (.ref b1), .val (.ref b3), .val v6, .val v8, .val v10, .val (.int p2), .val (.int p3), .val (.int v12), .val (.int v16), .val (.int v20), .val (.int v24), .val (.int (3 : Int32)), .val (.ref b80), .val (.int v86), .val v10, .val v8, .val (.int v20), .val (.int v24), .val (.int v12), .val (.int v16), .unset]) rfl k) ?_
    show OutW _ _ _ _ _ _ _ (T85.setTop (mkF m 314 #[.val (.int p1), .val (.int p2), .val (.int p3), .val (.int p4), .val (.int p5), .val (.int p6), .val (.ref b1), .val (.ref b3), .val v6, .val v8, .val v10, .val (.int p2), .val (.int p3), .val (.int v12), .val (.int v16), .val (.int v20), .val (.int v24), .val (.int (3 : Int32)), .val (.ref b80), .val (.int v86), .val v10, .val v8, .val (.int v20), .val (.int v24), .val (.int v12), .val (.int v16), .unset] []))
    refine OutW.back (fun t k => XS.aload X85.here hx rfl (hb hby at_314) rfl ir_v10  k) ?_
    show OutW _ _ _ _ _ _ _ (T85.setTop (mkF m 316 #[.val (.int p1), .val (.int p2), .val (.int p3), .val (.int p4), .val (.int p5), .val (.int p6), .val (.ref b1), .val (.ref b3), .val v6, .val v8, .val v10, .val (.int p2), .val (.int p3), .val (.int v12), .val (.int v16), .val (.int v20), .val (.int v24), .val (.int (3 : Int32)), .val (.ref b80), .val (.int v86), .val v10, .val v8, .val (.int v20), .val (.int v24), .val (.int v12), .val (.int v16), .unset] [v10]))
    obtain ⟨v92, hv_v92⟩ : ∃ z : Int32, z = (if (v10 : Value) = .null then (0 : Int32) else (if (v8 : Value) = v10 then (if v24 = v12 then (if v20 = v16 then (1 : Int32) else (0 : Int32)) else (0 : Int32)) else (0 : Int32))) := ⟨_, rfl⟩
    have j93 : ∀ t, Steps p.tables e below (T85.setTop (mkF m 345 #[.val (.int p1), .val (.int p2), .val (.int p3), .val (.int p4), .val (.int p5), .val (.int p6), .val (.ref b1), .val (.ref b3), .val v6, .val v8, .val v10, .val (.int p2), .val (.int p3), .val (.int v12), .val (.int v16), .val (.int v20), .val (.int v24), .val (.int (3 : Int32)), .val (.ref b80), .val (.int v86), .val v10, .val v8, .val (.int v20), .val (.int v24), .val (.int v12), .val (.int v16), .unset] [(.int v92)])) t → Steps p.tables e below (T85.setTop (mkF m 316 #[.val (.int p1), .val (.int p2), .val (.int p3), .val (.int p4), .val (.int p5), .val (.int p6), .val (.ref b1), .val (.ref b3), .val v6, .val v8, .val v10, .val (.int p2), .val (.int p3), .val (.int v12), .val (.int v16), .val (.int v20), .val (.int v24), .val (.int (3 : Int32)), .val (.ref b80), .val (.int v86), .val v10, .val v8, .val (.int v20), .val (.int v24), .val (.int v12), .val (.int v16), .unset] [v10])) t := by
      intro t k
      by_cases c316_94 : (v10 : Value) = .null
      · skip
        refine XS.ifnullYes X85.here hx rfl (pc0 := 316) (pc' := 344) rfl (hb hby at_316) (congrArg (fun z => (z :: [] : List Value)) c316_94) (by decide) (by decide) ?_
        show Steps p.tables e below (T85.setTop (mkF m 344 #[.val (.int p1), .val (.int p2), .val (.int p3), .val (.int p4), .val (.int p5), .val (.int p6), .val (.ref b1), .val (.ref b3), .val v6, .val v8, .val v10, .val (.int p2), .val (.int p3), .val (.int v12), .val (.int v16), .val (.int v20), .val (.int v24), .val (.int (3 : Int32)), .val (.ref b80), .val (.int v86), .val v10, .val v8, .val (.int v20), .val (.int v24), .val (.int v12), .val (.int v16), .unset] [])) t
        refine XS.iconst X85.here hx rfl (hb hby at_344) ?_
        show Steps p.tables e below (T85.setTop (mkF m 345 #[.val (.int p1), .val (.int p2), .val (.int p3), .val (.int p4), .val (.int p5), .val (.int p6), .val (.ref b1), .val (.ref b3), .val v6, .val v8, .val v10, .val (.int p2), .val (.int p3), .val (.int v12), .val (.int v16), .val (.int v20), .val (.int v24), .val (.int (3 : Int32)), .val (.ref b80), .val (.int v86), .val v10, .val v8, .val (.int v20), .val (.int v24), .val (.int v12), .val (.int v16), .unset] [(.int (0 : Int32))])) t
        have q_v92 : v92 = (0 : Int32) := by rw [hv_v92, if_pos c316_94]
        rw [q_v92] at k
        exact k
      · skip
        obtain ⟨o95, ho95⟩ := (ref_cases ir_v10).resolve_left c316_94
        refine XS.ifnullNo X85.here hx rfl (hb hby at_316) (congrArg (fun z => (z :: [] : List Value)) ho95) ?_
        show Steps p.tables e below (T85.setTop (mkF m 319 #[.val (.int p1), .val (.int p2), .val (.int p3), .val (.int p4), .val (.int p5), .val (.int p6), .val (.ref b1), .val (.ref b3), .val v6, .val v8, .val v10, .val (.int p2), .val (.int p3), .val (.int v12), .val (.int v16), .val (.int v20), .val (.int v24), .val (.int (3 : Int32)), .val (.ref b80), .val (.int v86), .val v10, .val v8, .val (.int v20), .val (.int v24), .val (.int v12), .val (.int v16), .unset] [])) t
        refine XS.aload X85.here hx rfl (hb hby at_319) rfl ir_v8  ?_
        show Steps p.tables e below (T85.setTop (mkF m 321 #[.val (.int p1), .val (.int p2), .val (.int p3), .val (.int p4), .val (.int p5), .val (.int p6), .val (.ref b1), .val (.ref b3), .val v6, .val v8, .val v10, .val (.int p2), .val (.int p3), .val (.int v12), .val (.int v16), .val (.int v20), .val (.int v24), .val (.int (3 : Int32)), .val (.ref b80), .val (.int v86), .val v10, .val v8, .val (.int v20), .val (.int v24), .val (.int v12), .val (.int v16), .unset] [v8])) t
        refine XS.aload X85.here hx rfl (hb hby at_321) rfl ir_v10  ?_
        show Steps p.tables e below (T85.setTop (mkF m 323 #[.val (.int p1), .val (.int p2), .val (.int p3), .val (.int p4), .val (.int p5), .val (.int p6), .val (.ref b1), .val (.ref b3), .val v6, .val v8, .val v10, .val (.int p2), .val (.int p3), .val (.int v12), .val (.int v16), .val (.int v20), .val (.int v24), .val (.int (3 : Int32)), .val (.ref b80), .val (.int v86), .val v10, .val v8, .val (.int v20), .val (.int v24), .val (.int v12), .val (.int v16), .unset] [v10, v8])) t
        by_cases c323_96 : (v8 : Value) = v10
        · skip
          refine Jvm.RoadKit.acmp (g := (mkF m 323 #[.val (.int p1), .val (.int p2), .val (.int p3), .val (.int p4), .val (.int p5), .val (.int p6), .val (.ref b1), .val (.ref b3), .val v6, .val v8, .val v10, .val (.int p2), .val (.int p3), .val (.int v12), .val (.int v16), .val (.int v20), .val (.int v24), .val (.int (3 : Int32)), .val (.ref b80), .val (.int v86), .val v10, .val v8, .val (.int v20), .val (.int v24), .val (.int v12), .val (.int v16), .unset] [v10, v8])) X85 hx rfl ir_v8 ir_v10 (pc0 := 323) (pc' := 326) (same := true) rfl (hb hby at_323) rfl (decide_eq_true c323_96) (by decide) (by decide) ?_
          show Steps p.tables e below (T85.setTop (mkF m 326 #[.val (.int p1), .val (.int p2), .val (.int p3), .val (.int p4), .val (.int p5), .val (.int p6), .val (.ref b1), .val (.ref b3), .val v6, .val v8, .val v10, .val (.int p2), .val (.int p3), .val (.int v12), .val (.int v16), .val (.int v20), .val (.int v24), .val (.int (3 : Int32)), .val (.ref b80), .val (.int v86), .val v10, .val v8, .val (.int v20), .val (.int v24), .val (.int v12), .val (.int v16), .unset] [])) t
          refine XS.iload X85.here hx rfl (hb hby at_326) rfl  ?_
          show Steps p.tables e below (T85.setTop (mkF m 328 #[.val (.int p1), .val (.int p2), .val (.int p3), .val (.int p4), .val (.int p5), .val (.int p6), .val (.ref b1), .val (.ref b3), .val v6, .val v8, .val v10, .val (.int p2), .val (.int p3), .val (.int v12), .val (.int v16), .val (.int v20), .val (.int v24), .val (.int (3 : Int32)), .val (.ref b80), .val (.int v86), .val v10, .val v8, .val (.int v20), .val (.int v24), .val (.int v12), .val (.int v16), .unset] [(.int v24)])) t
          refine XS.iload X85.here hx rfl (hb hby at_328) rfl  ?_
          show Steps p.tables e below (T85.setTop (mkF m 330 #[.val (.int p1), .val (.int p2), .val (.int p3), .val (.int p4), .val (.int p5), .val (.int p6), .val (.ref b1), .val (.ref b3), .val v6, .val v8, .val v10, .val (.int p2), .val (.int p3), .val (.int v12), .val (.int v16), .val (.int v20), .val (.int v24), .val (.int (3 : Int32)), .val (.ref b80), .val (.int v86), .val v10, .val v8, .val (.int v20), .val (.int v24), .val (.int v12), .val (.int v16), .unset] [(.int v12), (.int v24)])) t
          by_cases c330_97 : v24 = v12
          · skip
            refine XS.icmpNo X85.here hx rfl (hb hby at_330) rfl (teq c330_97).2 ?_
            show Steps p.tables e below (T85.setTop (mkF m 333 #[.val (.int p1), .val (.int p2), .val (.int p3), .val (.int p4), .val (.int p5), .val (.int p6), .val (.ref b1), .val (.ref b3), .val v6, .val v8, .val v10, .val (.int p2), .val (.int p3), .val (.int v12), .val (.int v16), .val (.int v20), .val (.int v24), .val (.int (3 : Int32)), .val (.ref b80), .val (.int v86), .val v10, .val v8, .val (.int v20), .val (.int v24), .val (.int v12), .val (.int v16), .unset] [])) t
            refine XS.iload X85.here hx rfl (hb hby at_333) rfl  ?_
            show Steps p.tables e below (T85.setTop (mkF m 335 #[.val (.int p1), .val (.int p2), .val (.int p3), .val (.int p4), .val (.int p5), .val (.int p6), .val (.ref b1), .val (.ref b3), .val v6, .val v8, .val v10, .val (.int p2), .val (.int p3), .val (.int v12), .val (.int v16), .val (.int v20), .val (.int v24), .val (.int (3 : Int32)), .val (.ref b80), .val (.int v86), .val v10, .val v8, .val (.int v20), .val (.int v24), .val (.int v12), .val (.int v16), .unset] [(.int v20)])) t
            refine XS.iload X85.here hx rfl (hb hby at_335) rfl  ?_
            show Steps p.tables e below (T85.setTop (mkF m 337 #[.val (.int p1), .val (.int p2), .val (.int p3), .val (.int p4), .val (.int p5), .val (.int p6), .val (.ref b1), .val (.ref b3), .val v6, .val v8, .val v10, .val (.int p2), .val (.int p3), .val (.int v12), .val (.int v16), .val (.int v20), .val (.int v24), .val (.int (3 : Int32)), .val (.ref b80), .val (.int v86), .val v10, .val v8, .val (.int v20), .val (.int v24), .val (.int v12), .val (.int v16), .unset] [(.int v16), (.int v20)])) t
            by_cases c337_98 : v20 = v16
            · skip
              refine XS.icmpNo X85.here hx rfl (hb hby at_337) rfl (teq c337_98).2 ?_
              show Steps p.tables e below (T85.setTop (mkF m 340 #[.val (.int p1), .val (.int p2), .val (.int p3), .val (.int p4), .val (.int p5), .val (.int p6), .val (.ref b1), .val (.ref b3), .val v6, .val v8, .val v10, .val (.int p2), .val (.int p3), .val (.int v12), .val (.int v16), .val (.int v20), .val (.int v24), .val (.int (3 : Int32)), .val (.ref b80), .val (.int v86), .val v10, .val v8, .val (.int v20), .val (.int v24), .val (.int v12), .val (.int v16), .unset] [])) t
              refine XS.iconst X85.here hx rfl (hb hby at_340) ?_
              show Steps p.tables e below (T85.setTop (mkF m 341 #[.val (.int p1), .val (.int p2), .val (.int p3), .val (.int p4), .val (.int p5), .val (.int p6), .val (.ref b1), .val (.ref b3), .val v6, .val v8, .val v10, .val (.int p2), .val (.int p3), .val (.int v12), .val (.int v16), .val (.int v20), .val (.int v24), .val (.int (3 : Int32)), .val (.ref b80), .val (.int v86), .val v10, .val v8, .val (.int v20), .val (.int v24), .val (.int v12), .val (.int v16), .unset] [(.int (1 : Int32))])) t
              refine XS.goto X85.here hx rfl (pc0 := 341) (pc' := 345) rfl (hb hby at_341) (by decide) (by decide) ?_
              show Steps p.tables e below (T85.setTop (mkF m 345 #[.val (.int p1), .val (.int p2), .val (.int p3), .val (.int p4), .val (.int p5), .val (.int p6), .val (.ref b1), .val (.ref b3), .val v6, .val v8, .val v10, .val (.int p2), .val (.int p3), .val (.int v12), .val (.int v16), .val (.int v20), .val (.int v24), .val (.int (3 : Int32)), .val (.ref b80), .val (.int v86), .val v10, .val v8, .val (.int v20), .val (.int v24), .val (.int v12), .val (.int v16), .unset] [(.int (1 : Int32))])) t
              have q_v92 : v92 = (1 : Int32) := by rw [hv_v92, if_neg c316_94, if_pos c323_96, if_pos c330_97, if_pos c337_98]
              rw [q_v92] at k
              exact k
            · skip
              refine XS.icmpYes X85.here hx rfl (pc0 := 337) (pc' := 344) rfl (hb hby at_337) rfl (feq c337_98).2 (by decide) (by decide) ?_
              show Steps p.tables e below (T85.setTop (mkF m 344 #[.val (.int p1), .val (.int p2), .val (.int p3), .val (.int p4), .val (.int p5), .val (.int p6), .val (.ref b1), .val (.ref b3), .val v6, .val v8, .val v10, .val (.int p2), .val (.int p3), .val (.int v12), .val (.int v16), .val (.int v20), .val (.int v24), .val (.int (3 : Int32)), .val (.ref b80), .val (.int v86), .val v10, .val v8, .val (.int v20), .val (.int v24), .val (.int v12), .val (.int v16), .unset] [])) t
              refine XS.iconst X85.here hx rfl (hb hby at_344) ?_
              show Steps p.tables e below (T85.setTop (mkF m 345 #[.val (.int p1), .val (.int p2), .val (.int p3), .val (.int p4), .val (.int p5), .val (.int p6), .val (.ref b1), .val (.ref b3), .val v6, .val v8, .val v10, .val (.int p2), .val (.int p3), .val (.int v12), .val (.int v16), .val (.int v20), .val (.int v24), .val (.int (3 : Int32)), .val (.ref b80), .val (.int v86), .val v10, .val v8, .val (.int v20), .val (.int v24), .val (.int v12), .val (.int v16), .unset] [(.int (0 : Int32))])) t
              have q_v92 : v92 = (0 : Int32) := by rw [hv_v92, if_neg c316_94, if_pos c323_96, if_pos c330_97, if_neg c337_98]
              rw [q_v92] at k
              exact k
          · skip
            refine XS.icmpYes X85.here hx rfl (pc0 := 330) (pc' := 344) rfl (hb hby at_330) rfl (feq c330_97).2 (by decide) (by decide) ?_
            show Steps p.tables e below (T85.setTop (mkF m 344 #[.val (.int p1), .val (.int p2), .val (.int p3), .val (.int p4), .val (.int p5), .val (.int p6), .val (.ref b1), .val (.ref b3), .val v6, .val v8, .val v10, .val (.int p2), .val (.int p3), .val (.int v12), .val (.int v16), .val (.int v20), .val (.int v24), .val (.int (3 : Int32)), .val (.ref b80), .val (.int v86), .val v10, .val v8, .val (.int v20), .val (.int v24), .val (.int v12), .val (.int v16), .unset] [])) t
            refine XS.iconst X85.here hx rfl (hb hby at_344) ?_
            show Steps p.tables e below (T85.setTop (mkF m 345 #[.val (.int p1), .val (.int p2), .val (.int p3), .val (.int p4), .val (.int p5), .val (.int p6), .val (.ref b1), .val (.ref b3), .val v6, .val v8, .val v10, .val (.int p2), .val (.int p3), .val (.int v12), .val (.int v16), .val (.int v20), .val (.int v24), .val (.int (3 : Int32)), .val (.ref b80), .val (.int v86), .val v10, .val v8, .val (.int v20), .val (.int v24), .val (.int v12), .val (.int v16), .unset] [(.int (0 : Int32))])) t
            have q_v92 : v92 = (0 : Int32) := by rw [hv_v92, if_neg c316_94, if_pos c323_96, if_neg c330_97]
            rw [q_v92] at k
            exact k
        · skip
          refine Jvm.RoadKit.acmp (g := (mkF m 323 #[.val (.int p1), .val (.int p2), .val (.int p3), .val (.int p4), .val (.int p5), .val (.int p6), .val (.ref b1), .val (.ref b3), .val v6, .val v8, .val v10, .val (.int p2), .val (.int p3), .val (.int v12), .val (.int v16), .val (.int v20), .val (.int v24), .val (.int (3 : Int32)), .val (.ref b80), .val (.int v86), .val v10, .val v8, .val (.int v20), .val (.int v24), .val (.int v12), .val (.int v16), .unset] [v10, v8])) X85 hx rfl ir_v8 ir_v10 (pc0 := 323) (pc' := 344) (same := false) rfl (hb hby at_323) rfl (decide_eq_false c323_96) (by decide) (by decide) ?_
          show Steps p.tables e below (T85.setTop (mkF m 344 #[.val (.int p1), .val (.int p2), .val (.int p3), .val (.int p4), .val (.int p5), .val (.int p6), .val (.ref b1), .val (.ref b3), .val v6, .val v8, .val v10, .val (.int p2), .val (.int p3), .val (.int v12), .val (.int v16), .val (.int v20), .val (.int v24), .val (.int (3 : Int32)), .val (.ref b80), .val (.int v86), .val v10, .val v8, .val (.int v20), .val (.int v24), .val (.int v12), .val (.int v16), .unset] [])) t
          refine XS.iconst X85.here hx rfl (hb hby at_344) ?_
          show Steps p.tables e below (T85.setTop (mkF m 345 #[.val (.int p1), .val (.int p2), .val (.int p3), .val (.int p4), .val (.int p5), .val (.int p6), .val (.ref b1), .val (.ref b3), .val v6, .val v8, .val v10, .val (.int p2), .val (.int p3), .val (.int v12), .val (.int v16), .val (.int v20), .val (.int v24), .val (.int (3 : Int32)), .val (.ref b80), .val (.int v86), .val v10, .val v8, .val (.int v20), .val (.int v24), .val (.int v12), .val (.int v16), .unset] [(.int (0 : Int32))])) t
          have q_v92 : v92 = (0 : Int32) := by rw [hv_v92, if_neg c316_94, if_neg c323_96]
          rw [q_v92] at k
          exact k
    refine OutW.back j93 ?_
    show OutW _ _ _ _ _ _ _ (T85.setTop (mkF m 345 #[.val (.int p1), .val (.int p2), .val (.int p3), .val (.int p4), .val (.int p5), .val (.int p6), .val (.ref b1), .val (.ref b3), .val v6, .val v8, .val v10, .val (.int p2), .val (.int p3), .val (.int v12), .val (.int v16), .val (.int v20), .val (.int v24), .val (.int (3 : Int32)), .val (.ref b80), .val (.int v86), .val v10, .val v8, .val (.int v20), .val (.int v24), .val (.int v12), .val (.int v16), .unset] [(.int v92)]))
    refine OutW.back (fun t k => XS.istore X85.here hx rfl (hb hby at_345) rfl (l' := #[.val (.int p1), .val (.int p2), .val (.int p3), .val (.int p4), .val (.int p5), .val (.int p6), .val (.ref b1), .val (.ref b3), .val v6, .val v8, .val v10, .val (.int p2), .val (.int p3), .val (.int v12), .val (.int v16), .val (.int v20), .val (.int v24), .val (.int (3 : Int32)), .val (.ref b80), .val (.int v86), .val v10, .val v8, .val (.int v20), .val (.int v24), .val (.int v12), .val (.int v16), .val (.int v92)]) rfl k) ?_
    show OutW _ _ _ _ _ _ _ (T85.setTop (mkF m 347 #[.val (.int p1), .val (.int p2), .val (.int p3), .val (.int p4), .val (.int p5), .val (.int p6), .val (.ref b1), .val (.ref b3), .val v6, .val v8, .val v10, .val (.int p2), .val (.int p3), .val (.int v12), .val (.int v16), .val (.int v20), .val (.int v24), .val (.int (3 : Int32)), .val (.ref b80), .val (.int v86), .val v10, .val v8, .val (.int v20), .val (.int v24), .val (.int v12), .val (.int v16), .val (.int v92)] []))
    refine OutW.back (fun t k => XS.iload X85.here hx rfl (hb hby at_347) rfl  k) ?_
    show OutW _ _ _ _ _ _ _ (T85.setTop (mkF m 349 #[.val (.int p1), .val (.int p2), .val (.int p3), .val (.int p4), .val (.int p5), .val (.int p6), .val (.ref b1), .val (.ref b3), .val v6, .val v8, .val v10, .val (.int p2), .val (.int p3), .val (.int v12), .val (.int v16), .val (.int v20), .val (.int v24), .val (.int (3 : Int32)), .val (.ref b80), .val (.int v86), .val v10, .val v8, .val (.int v20), .val (.int v24), .val (.int v12), .val (.int v16), .val (.int v92)] [(.int v86)]))
    refine OutW.back (fun t k => XS.iload X85.here hx rfl (hb hby at_349) rfl  k) ?_
    show OutW _ _ _ _ _ _ _ (T85.setTop (mkF m 351 #[.val (.int p1), .val (.int p2), .val (.int p3), .val (.int p4), .val (.int p5), .val (.int p6), .val (.ref b1), .val (.ref b3), .val v6, .val v8, .val v10, .val (.int p2), .val (.int p3), .val (.int v12), .val (.int v16), .val (.int v20), .val (.int v24), .val (.int (3 : Int32)), .val (.ref b80), .val (.int v86), .val v10, .val v8, .val (.int v20), .val (.int v24), .val (.int v12), .val (.int v16), .val (.int v92)] [(.int v92), (.int v86)]))
    obtain ⟨v100, hv_v100⟩ : ∃ z : Int32, z = (if v86 = v92 then (1 : Int32) else (0 : Int32)) := ⟨_, rfl⟩
    have j101 : ∀ t, Steps p.tables e below (T85.setTop (mkF m 359 #[.val (.int p1), .val (.int p2), .val (.int p3), .val (.int p4), .val (.int p5), .val (.int p6), .val (.ref b1), .val (.ref b3), .val v6, .val v8, .val v10, .val (.int p2), .val (.int p3), .val (.int v12), .val (.int v16), .val (.int v20), .val (.int v24), .val (.int (3 : Int32)), .val (.ref b80), .val (.int v86), .val v10, .val v8, .val (.int v20), .val (.int v24), .val (.int v12), .val (.int v16), .val (.int v92)] [(.int v100)])) t → Steps p.tables e below (T85.setTop (mkF m 351 #[.val (.int p1), .val (.int p2), .val (.int p3), .val (.int p4), .val (.int p5), .val (.int p6), .val (.ref b1), .val (.ref b3), .val v6, .val v8, .val v10, .val (.int p2), .val (.int p3), .val (.int v12), .val (.int v16), .val (.int v20), .val (.int v24), .val (.int (3 : Int32)), .val (.ref b80), .val (.int v86), .val v10, .val v8, .val (.int v20), .val (.int v24), .val (.int v12), .val (.int v16), .val (.int v92)] [(.int v92), (.int v86)])) t := by
      intro t k
      by_cases c351_102 : v86 = v92
      · skip
        refine XS.icmpNo X85.here hx rfl (hb hby at_351) rfl (teq c351_102).2 ?_
        show Steps p.tables e below (T85.setTop (mkF m 354 #[.val (.int p1), .val (.int p2), .val (.int p3), .val (.int p4), .val (.int p5), .val (.int p6), .val (.ref b1), .val (.ref b3), .val v6, .val v8, .val v10, .val (.int p2), .val (.int p3), .val (.int v12), .val (.int v16), .val (.int v20), .val (.int v24), .val (.int (3 : Int32)), .val (.ref b80), .val (.int v86), .val v10, .val v8, .val (.int v20), .val (.int v24), .val (.int v12), .val (.int v16), .val (.int v92)] [])) t
        refine XS.iconst X85.here hx rfl (hb hby at_354) ?_
        show Steps p.tables e below (T85.setTop (mkF m 355 #[.val (.int p1), .val (.int p2), .val (.int p3), .val (.int p4), .val (.int p5), .val (.int p6), .val (.ref b1), .val (.ref b3), .val v6, .val v8, .val v10, .val (.int p2), .val (.int p3), .val (.int v12), .val (.int v16), .val (.int v20), .val (.int v24), .val (.int (3 : Int32)), .val (.ref b80), .val (.int v86), .val v10, .val v8, .val (.int v20), .val (.int v24), .val (.int v12), .val (.int v16), .val (.int v92)] [(.int (1 : Int32))])) t
        refine XS.goto X85.here hx rfl (pc0 := 355) (pc' := 359) rfl (hb hby at_355) (by decide) (by decide) ?_
        show Steps p.tables e below (T85.setTop (mkF m 359 #[.val (.int p1), .val (.int p2), .val (.int p3), .val (.int p4), .val (.int p5), .val (.int p6), .val (.ref b1), .val (.ref b3), .val v6, .val v8, .val v10, .val (.int p2), .val (.int p3), .val (.int v12), .val (.int v16), .val (.int v20), .val (.int v24), .val (.int (3 : Int32)), .val (.ref b80), .val (.int v86), .val v10, .val v8, .val (.int v20), .val (.int v24), .val (.int v12), .val (.int v16), .val (.int v92)] [(.int (1 : Int32))])) t
        have q_v100 : v100 = (1 : Int32) := by rw [hv_v100, if_pos c351_102]
        rw [q_v100] at k
        exact k
      · skip
        refine XS.icmpYes X85.here hx rfl (pc0 := 351) (pc' := 358) rfl (hb hby at_351) rfl (feq c351_102).2 (by decide) (by decide) ?_
        show Steps p.tables e below (T85.setTop (mkF m 358 #[.val (.int p1), .val (.int p2), .val (.int p3), .val (.int p4), .val (.int p5), .val (.int p6), .val (.ref b1), .val (.ref b3), .val v6, .val v8, .val v10, .val (.int p2), .val (.int p3), .val (.int v12), .val (.int v16), .val (.int v20), .val (.int v24), .val (.int (3 : Int32)), .val (.ref b80), .val (.int v86), .val v10, .val v8, .val (.int v20), .val (.int v24), .val (.int v12), .val (.int v16), .val (.int v92)] [])) t
        refine XS.iconst X85.here hx rfl (hb hby at_358) ?_
        show Steps p.tables e below (T85.setTop (mkF m 359 #[.val (.int p1), .val (.int p2), .val (.int p3), .val (.int p4), .val (.int p5), .val (.int p6), .val (.ref b1), .val (.ref b3), .val v6, .val v8, .val v10, .val (.int p2), .val (.int p3), .val (.int v12), .val (.int v16), .val (.int v20), .val (.int v24), .val (.int (3 : Int32)), .val (.ref b80), .val (.int v86), .val v10, .val v8, .val (.int v20), .val (.int v24), .val (.int v12), .val (.int v16), .val (.int v92)] [(.int (0 : Int32))])) t
        have q_v100 : v100 = (0 : Int32) := by rw [hv_v100, if_neg c351_102]
        rw [q_v100] at k
        exact k
    refine OutW.back j101 ?_
    show OutW _ _ _ _ _ _ _ (T85.setTop (mkF m 359 #[.val (.int p1), .val (.int p2), .val (.int p3), .val (.int p4), .val (.int p5), .val (.int p6), .val (.ref b1), .val (.ref b3), .val v6, .val v8, .val v10, .val (.int p2), .val (.int p3), .val (.int v12), .val (.int v16), .val (.int v20), .val (.int v24), .val (.int (3 : Int32)), .val (.ref b80), .val (.int v86), .val v10, .val v8, .val (.int v20), .val (.int v24), .val (.int v12), .val (.int v16), .val (.int v92)] [(.int v100)]))
    refine OutW.retN X85 hx (t := .boolean) (z' := 1) Bd.returns (by simp) hlk (hb hby at_359) ?hz (by decide) (by decide) ?_
    case hz =>
      have hfin : v100 = (1 : Int32) := by
        have q1 : v86 = v92 := by rw [← hv_v86, hv_v92, own_went]
        rw [hv_v100, if_pos q1]
      rw [hfin]; rfl
    show Q0 Z p1 p2 p3 p4 p5 p6 h0 n0 _ T85.heap _
    rw [e85]
    exact ⟨rfl, N85⟩
set_option maxRecDepth 65536 in
set_option maxHeartbeats 40000000 in
theorem comes_1 {Post : Tables → Env → Array Value → State → Outcome → State → Prop} (hpost : ∀ tb e args s v u, (limb_1_1.after args s (.returned v) u = true ∧ limb_1_2.after args s (.returned v) u = true ∧ True) → FrameEnd s (.returned v) u (Jvm.fieldLocs frame_1_writes args s ++ Jvm.arrayLocs frame_1_arrays args s ++ Jvm.staticLocs frame_1_statics s) 16 128 → Post tb e args s (.returned v) u) :
    ArmFor flags0 classFile x code maxLocals ret World_1 tables_1 room_1 Calls_1 rest_1 Pre_1 Post := by
  intro l hfl _ _ p e ha hc hk s m args below hf hA hF happ hP
  obtain ⟨hcalls, hrest, hpre⟩ := hP
  obtain ⟨-, -, -, hnamed, -, -, -, hat⟩ := (Spec.applies_iff hf).mp happ
  obtain ⟨hg, hn⟩ := and_e (Cond.before_iff.mp (show (Jvm.Cond.and given_1 narrow_1).before args s = true from hpre))
  obtain ⟨hcount, hg0⟩ := and_e hg
  obtain ⟨ga0, hg1⟩ := and_e hg0
  obtain ⟨ga1, hg2⟩ := and_e hg1
  obtain ⟨ga2, hg3⟩ := and_e hg2
  obtain ⟨ga3, hg4⟩ := and_e hg3
  obtain ⟨ga4, hg5⟩ := and_e hg4
  have ga5 := hg5
  obtain ⟨w0, w1, w2, w3, w4, w5, rfl⟩ : ∃ w0 w1 w2 w3 w4 w5 : Value, args = #[w0, w1, w2, w3, w4, w5] := by
    have hs : args.size = 6 := by simpa [Cond.value, given_1] using hcount
    obtain ⟨L⟩ := args
    match L, hs with
    | [w0, w1, w2, w3, w4, w5], _ => exact ⟨w0, w1, w2, w3, w4, w5, rfl⟩
  have hw := fun d (hd : d ∈ tables_1) => atoms_spec (ws := Jvm.Cond.code x code maxLocals ret :: tables_1) hat d (List.mem_cons_of_mem _ hd)
  obtain ⟨i0, ei0⟩ := is_v ga0
  obtain rfl : w0 = (.int i0) := Option.some.inj ei0
  obtain ⟨i1, ei1⟩ := is_v ga1
  obtain rfl : w1 = (.int i1) := Option.some.inj ei1
  obtain ⟨i2, ei2⟩ := is_v ga2
  obtain rfl : w2 = (.int i2) := Option.some.inj ei2
  obtain ⟨i3, ei3⟩ := is_v ga3
  obtain rfl : w3 = (.int i3) := Option.some.inj ei3
  obtain ⟨i4, ei4⟩ := is_v ga4
  obtain rfl : w4 = (.int i4) := Option.some.inj ei4
  obtain ⟨i5, ei5⟩ := is_v ga5
  obtain rfl : w5 = (.int i5) := Option.some.inj ei5
  obtain ⟨n, o, h1, h2, h3, _, L, rfl, ⟨rfl, N⟩, hq⟩ := rm0 l s _ hw tables_1 i0 i1 i2 i3 i4 i5  s.heap s.heap.size (Nat.le_refl _)  p e ha hc hk s m _ below hf ((Spec.applies_iff_loose hf).mp happ).1 ⟨rfl, State.Warmed39.refl s, rfl⟩ trivial
  refine ⟨n, _, h1, h2, h3, hpost _ _ _ _ _ _ ⟨Cond.after_iff.mpr rfl, Cond.after_iff.mpr (eq_i res_at (Term.int_eval (1)) rfl), trivial⟩ ⟨hq.1, hq.2.1, (hq.2.2.sift fun y hy => Or.inr (N y hy)).mono (by decide) (by decide)⟩⟩
theorem main_1_1 : Claimed_1_1 := comes_1 fun _ _ _ _ _ _ h hF => ⟨h.1, hF⟩
theorem main_1_2 : Claimed_1_2 := comes_1 fun _ _ _ _ _ _ h hF => ⟨h.2.1, hF⟩
end Jvm.Pilot.@@N@@
namespace Jvm.Pilot.@@N@@
open Jvm Jvm.ClassFile Sem Op Lib Jvm.Free Jvm.Stand Jvm.Pilot.@@N@@.Jvm.D
/-! MADE BY PROGRAM (witnessworld.py) out of the Statement's table words and the real class files: 10 classes; the members and pool entries that the words name. The judged class is class 1, her method 2. -/
namespace start1
open Jvm.ClassFile
def u (s : String) : CpInfo := .utf8 (stringToUtf16 s)
/-- a pool by its gaps: so many unusable entries, then the entry; so many at the end -/
def gap : Nat → List CpInfo → List CpInfo
  | 0, r => r
  | n + 1, r => .unusable :: gap n r
def poolList (es : List (Nat × CpInfo)) (last : Nat) : List CpInfo := es.foldr (fun e r => gap e.1 (e.2 :: r)) (gap last [])
def pool (es : List (Nat × CpInfo)) (last : Nat) : Array CpInfo := ⟨poolList es last⟩
def fileOf (pool : Array CpInfo) (this : Nat) (attrs : Array Attribute := #[]) (ms : Array MethodInfo := #[]) (fl : Nat := 33) (sup : Nat := 0) (ifs : Array Nat := #[]) (fds : Array FieldInfo := #[]) : ClassFile where
  minorVersion := 0
  majorVersion := 65
  constantPool := pool
  accessFlags := fl
  thisClass := this
  superClass := sup
  interfaces := ifs
  fields := fds
  methods := ms
  attributes := attrs
def plain (name : String) (sup : Option ClassId) : Class where
  name := name
  kind := .ordinary
  loader := none
  accessFlags := 33
  super := sup
  interfaces := #[]
  cf := none
  fields := #[]
  methods := #[]
  instanceTypes := #[]
  staticTypes := #[]
  resolved := #[]
  callSites := []
  init := .initialized
  statics := none
  mirror := none

def pool0 : Array CpInfo := pool [(5, u "<init>"), (0, u "()V"), (1, .class_ 10), (1, u "java/lang/Object")] 113

def k0c0 : Code := { maxStack := 0, maxLocals := 1, code := object_method_1_code, exceptionTable := #[], attributes := #[] }
def k0m0 : Method := { name := "<init>", desc := "()V", sig := { parameters := [], returnType := none }, accessFlags := 1, code := some k0c0 }
/-- java/lang/Object -/
def k0 : Class := { plain "java/lang/Object" none with
  accessFlags := 33
  interfaces := #[]
  cf := some (fileOf pool0 8 #[] #[{ accessFlags := 1, nameIndex := 5, descriptorIndex := 6, attributes := #[] }] 33 0 #[] #[])
  fields := #[]
  methods := #[k0m0]
  instanceTypes := #[]
  staticTypes := #[]
  resolved := Array.replicate 124 none
  statics := none }

def pool1 : Array CpInfo := pool [(2, .class_ 4), (0, .nameAndType 5 6), (0, u "java/lang/Object"), (0, u "<init>"), (0, u "()V"), (0, .class_ 8), (0, u "com/example/fogline/fogline/rules/Piece"), (0, .methodref 7 10), (0, .nameAndType 5 11), (0, u "(Lcom/example/fogline/fogline/rules/Side;Lcom/example/fogline/fogline/rules/Rank;)V"), (0, .methodref 13 14), (0, .class_ 15), (0, .nameAndType 16 17), (0, u "com/example/fogline/fogline/rules/RecentMovesWentBackPinLaw"), (0, u "pick"), (0, u "(ILcom/example/fogline/fogline/rules/Piece;Lcom/example/fogline/fogline/rules/Piece;)Lcom/example/fogline/fogline/rules/Piece;"), (0, .class_ 19), (0, u "com/example/fogline/fogline/rules/RecentMoves"), (0, .methodref 18 3), (0, .methodref 18 22), (0, .nameAndType 23 24), (0, u "add"), (0, u "(Lcom/example/fogline/fogline/rules/Piece;II)V"), (0, .methodref 18 26), (0, .nameAndType 27 28), (0, u "wentBack"), (0, u "()Z"), (3, u "law"), (0, u "(IIIIII)Z")] 2

def k1m0 : Method := { name := "<init>", desc := "()V", sig := { parameters := [], returnType := none }, accessFlags := 1, code := none }
def k1c1 : Code := { maxStack := 2, maxLocals := 3, code := method_2_code, exceptionTable := #[], attributes := #[] }
def k1m1 : Method := { name := "pick", desc := "(ILcom/example/fogline/fogline/rules/Piece;Lcom/example/fogline/fogline/rules/Piece;)Lcom/example/fogline/fogline/rules/Piece;", sig := { parameters := [.int, (.object "com/example/fogline/fogline/rules/Piece"), (.object "com/example/fogline/fogline/rules/Piece")], returnType := some (.object "com/example/fogline/fogline/rules/Piece") }, accessFlags := 10, code := some k1c1 }
def k1c2 : Code := { maxStack := 4, maxLocals := 27, code := code, exceptionTable := #[], attributes := #[] }
def k1m2 : Method := { name := "law", desc := "(IIIIII)Z", sig := { parameters := [.int, .int, .int, .int, .int, .int], returnType := some .boolean }, accessFlags := 9, code := some k1c2 }
/-- com/example/fogline/fogline/rules/RecentMovesWentBackPinLaw -/
def k1 : Class := { plain "com/example/fogline/fogline/rules/RecentMovesWentBackPinLaw" (some 0) with
  accessFlags := 49
  interfaces := #[]
  cf := some (fileOf pool1 13 #[] #[{ accessFlags := 1, nameIndex := 5, descriptorIndex := 6, attributes := #[] }, { accessFlags := 10, nameIndex := 16, descriptorIndex := 17, attributes := #[] }, { accessFlags := 9, nameIndex := 32, descriptorIndex := 33, attributes := #[] }] 49 2 #[] #[])
  fields := #[]
  methods := #[k1m0, k1m1, k1m2]
  instanceTypes := #[]
  staticTypes := #[]
  resolved := Array.replicate 36 none
  statics := none }

def pool2 : Array CpInfo := pool [(1, .methodref 2 3), (0, .class_ 4), (0, .nameAndType 5 6), (0, u "java/lang/Object"), (0, u "<init>"), (0, u "()V"), (0, .fieldref 8 9), (0, .class_ 10), (0, .nameAndType 11 12), (0, u "com/example/fogline/fogline/rules/Piece"), (0, u "side"), (0, u "Lcom/example/fogline/fogline/rules/Side;"), (0, .fieldref 8 14), (0, .nameAndType 15 16), (0, u "rank"), (0, u "Lcom/example/fogline/fogline/rules/Rank;"), (2, u "moved"), (0, u "Z"), (2, u "rankShown"), (0, u "(Lcom/example/fogline/fogline/rules/Side;Lcom/example/fogline/fogline/rules/Rank;)V")] 11

def k2c0 : Code := { maxStack := 2, maxLocals := 3, code := prog_63_method_1_code, exceptionTable := #[], attributes := #[] }
def k2m0 : Method := { name := "<init>", desc := "(Lcom/example/fogline/fogline/rules/Side;Lcom/example/fogline/fogline/rules/Rank;)V", sig := { parameters := [(.object "com/example/fogline/fogline/rules/Side"), (.object "com/example/fogline/fogline/rules/Rank")], returnType := none }, accessFlags := 0, code := some k2c0 }
/-- com/example/fogline/fogline/rules/Piece -/
def k2 : Class := { plain "com/example/fogline/fogline/rules/Piece" (some 0) with
  accessFlags := 49
  interfaces := #[]
  cf := some (fileOf pool2 8 #[] #[{ accessFlags := 0, nameIndex := 5, descriptorIndex := 24, attributes := #[] }] 49 2 #[] #[{ accessFlags := 18, nameIndex := 11, descriptorIndex := 12, attributes := #[] }, { accessFlags := 18, nameIndex := 15, descriptorIndex := 16, attributes := #[] }, { accessFlags := 2, nameIndex := 19, descriptorIndex := 20, attributes := #[] }, { accessFlags := 2, nameIndex := 23, descriptorIndex := 20, attributes := #[] }])
  fields := #[{ name := "side", type := (.object "com/example/fogline/fogline/rules/Side"), accessFlags := 18, slot := 0, constantValue := 0 }, { name := "rank", type := (.object "com/example/fogline/fogline/rules/Rank"), accessFlags := 18, slot := 1, constantValue := 0 }, { name := "moved", type := .boolean, accessFlags := 2, slot := 2, constantValue := 0 }, { name := "rankShown", type := .boolean, accessFlags := 2, slot := 3, constantValue := 0 }]
  methods := #[k2m0]
  instanceTypes := #[(.object "com/example/fogline/fogline/rules/Side"), (.object "com/example/fogline/fogline/rules/Rank"), .boolean, .boolean]
  staticTypes := #[]
  resolved := Array.replicate 36 none
  statics := none }

def pool3 : Array CpInfo := pool [(1, .methodref 2 3), (0, .class_ 4), (0, .nameAndType 5 6), (0, u "java/lang/Object"), (0, u "<init>"), (0, u "()V"), (0, .fieldref 8 9), (0, .class_ 10), (0, .nameAndType 11 12), (0, u "com/example/fogline/fogline/rules/RecentMoves"), (0, u "lastPiece"), (0, u "Lcom/example/fogline/fogline/rules/Piece;"), (0, .fieldref 8 14), (0, .nameAndType 15 12), (0, u "pieceBefore"), (0, .fieldref 8 17), (0, .nameAndType 18 19), (0, u "lastFrom"), (0, u "I"), (0, .fieldref 8 21), (0, .nameAndType 22 19), (0, u "fromBefore"), (0, .fieldref 8 24), (0, .nameAndType 25 19), (0, u "lastTo"), (0, .fieldref 8 27), (0, .nameAndType 28 19), (0, u "toBefore"), (2, u "add"), (0, u "(Lcom/example/fogline/fogline/rules/Piece;II)V"), (1, u "wentBack"), (0, u "()Z")] 3

def k3c0 : Code := { maxStack := 1, maxLocals := 1, code := prog_65_method_1_code, exceptionTable := #[], attributes := #[] }
def k3m0 : Method := { name := "<init>", desc := "()V", sig := { parameters := [], returnType := none }, accessFlags := 0, code := some k3c0 }
def k3c1 : Code := { maxStack := 2, maxLocals := 4, code := prog_65_method_2_code, exceptionTable := #[], attributes := #[] }
def k3m1 : Method := { name := "add", desc := "(Lcom/example/fogline/fogline/rules/Piece;II)V", sig := { parameters := [(.object "com/example/fogline/fogline/rules/Piece"), .int, .int], returnType := none }, accessFlags := 0, code := some k3c1 }
def k3c2 : Code := { maxStack := 2, maxLocals := 1, code := prog_65_method_5_code, exceptionTable := #[], attributes := #[] }
def k3m2 : Method := { name := "wentBack", desc := "()Z", sig := { parameters := [], returnType := some .boolean }, accessFlags := 0, code := some k3c2 }
/-- com/example/fogline/fogline/rules/RecentMoves -/
def k3 : Class := { plain "com/example/fogline/fogline/rules/RecentMoves" (some 0) with
  accessFlags := 48
  interfaces := #[]
  cf := some (fileOf pool3 8 #[] #[{ accessFlags := 0, nameIndex := 5, descriptorIndex := 6, attributes := #[] }, { accessFlags := 0, nameIndex := 31, descriptorIndex := 32, attributes := #[] }, { accessFlags := 0, nameIndex := 34, descriptorIndex := 35, attributes := #[] }] 48 2 #[] #[{ accessFlags := 2, nameIndex := 11, descriptorIndex := 12, attributes := #[] }, { accessFlags := 2, nameIndex := 18, descriptorIndex := 19, attributes := #[] }, { accessFlags := 2, nameIndex := 25, descriptorIndex := 19, attributes := #[] }, { accessFlags := 2, nameIndex := 15, descriptorIndex := 12, attributes := #[] }, { accessFlags := 2, nameIndex := 22, descriptorIndex := 19, attributes := #[] }, { accessFlags := 2, nameIndex := 28, descriptorIndex := 19, attributes := #[] }])
  fields := #[{ name := "lastPiece", type := (.object "com/example/fogline/fogline/rules/Piece"), accessFlags := 2, slot := 0, constantValue := 0 }, { name := "lastFrom", type := .int, accessFlags := 2, slot := 1, constantValue := 0 }, { name := "lastTo", type := .int, accessFlags := 2, slot := 2, constantValue := 0 }, { name := "pieceBefore", type := (.object "com/example/fogline/fogline/rules/Piece"), accessFlags := 2, slot := 3, constantValue := 0 }, { name := "fromBefore", type := .int, accessFlags := 2, slot := 4, constantValue := 0 }, { name := "toBefore", type := .int, accessFlags := 2, slot := 5, constantValue := 0 }]
  methods := #[k3m0, k3m1, k3m2]
  instanceTypes := #[(.object "com/example/fogline/fogline/rules/Piece"), .int, .int, (.object "com/example/fogline/fogline/rules/Piece"), .int, .int]
  staticTypes := #[]
  resolved := Array.replicate 39 none
  statics := none }

def pool4 : Array CpInfo := pool [(1, u "java/lang/Cloneable"), (0, .class_ 1), (0, u "java/lang/Object"), (0, .class_ 3)] 3

/-- java/lang/Cloneable -/
def k4 : Class := { plain "java/lang/Cloneable" (some 0) with
  accessFlags := 1537
  interfaces := #[]
  cf := some (fileOf pool4 2 #[] #[] 1537 4 #[] #[])
  fields := #[]
  methods := #[]
  instanceTypes := #[]
  staticTypes := #[]
  resolved := Array.replicate 8 none
  statics := none }

def pool5 : Array CpInfo := pool [(1, u "java/io/Serializable"), (0, .class_ 1), (0, u "java/lang/Object"), (0, .class_ 3)] 3

/-- java/io/Serializable -/
def k5 : Class := { plain "java/io/Serializable" (some 0) with
  accessFlags := 1537
  interfaces := #[]
  cf := some (fileOf pool5 2 #[] #[] 1537 4 #[] #[])
  fields := #[]
  methods := #[]
  instanceTypes := #[]
  staticTypes := #[]
  resolved := Array.replicate 8 none
  statics := none }

/-- the primitive byte -/
def k6 : Class := { plain "byte" none with kind := .primitive 'B', accessFlags := 0x411 }
/-- [B -/
def k7 : Class := { plain "[B" (some 0) with kind := .array 6 .byte, interfaces := #[4, 5], accessFlags := 1041 }

/-- the primitive int -/
def k8 : Class := { plain "int" none with kind := .primitive 'I', accessFlags := 0x411 }
/-- [I -/
def k9 : Class := { plain "[I" (some 0) with kind := .array 8 .int, interfaces := #[4, 5], accessFlags := 1041 }

def heap : Heap := #[]
def classes : Array Class := #[k0, k1, k2, k3, k4, k5, k6, k7, k8, k9]
def interned : List (Array UInt16 × Addr) := []
def slotsUsed : Nat := 0
def theMethod : MethodId := ⟨1, 2⟩
def args0 : Array Value := #[.int 5, .int 6, .int 7, .int 8, .int 9, .int 10]
def aboutOver (below : List Frame) : State where
  vm := { classes := classes, interned := interned.toArray }
  heap := heap
  slotsUsed := slotsUsed
  threads := #[{ frames := .invoking theMethod args0 :: below }]
def below0 : List Frame := [.native { method := ⟨0, 0⟩, args := #[] }]
def about1 : State := aboutOver below0
def p0 : Program := .bare "" "" ""
def e0 : Env := launch0.env 0 0 0
theorem w_frames : about1.frames = Frame.invoking theMethod args0 :: below0 := rfl
set_option maxRecDepth 65536 in
theorem w_args : argsFit about1.vm theMethod args0 = true := by decide +kernel
set_option maxRecDepth 65536 in
theorem w_heap : heapFits about1 = true := by decide +kernel
set_option maxRecDepth 65536 in
theorem w_runnable : about1.curStatus? = some .runnable := by decide +kernel
set_option maxRecDepth 65536 in
theorem w_alone : about1.alone = true := by decide +kernel
set_option maxRecDepth 65536 in
theorem w_named : about1.methodNamed? x = some theMethod := by decide +kernel
set_option maxRecDepth 65536 in
theorem w_hears : about1.hears theMethod below0 = true := by decide +kernel
set_option maxRecDepth 65536 in
theorem w_ripe : about1.ripe theMethod args0 below0 = true := by decide +kernel
theorem w_running : about1.status = .running := rfl
set_option maxRecDepth 65536 in
theorem w_room : about1.hasRoom e0.platform room_1 = true :=
  launch0.hasRoom_least _ room_1 (by decide +kernel) (by decide +kernel) (by decide +kernel) (by decide +kernel) (by decide +kernel) (by decide +kernel)
theorem allAtoms_all (ts : List Jvm.Cond) (a : Array Jvm.Value) (st : Jvm.State) : (allAtoms ts).before a st = ts.all (fun c => c.before a st) := by
  induction ts with
  | nil => rfl
  | cons c t ih =>
    show (Jvm.Cond.and c (allAtoms t)).before a st = _
    rw [Jvm.Cond.before_and, ih, List.all_cons]
def words1 : List Jvm.Cond := Jvm.Cond.code x code maxLocals ret :: tables_1
/-- a 'code' word, met by the world's own term for the bytes: nothing is compared byte by byte -/
theorem code_word {y : MethodName} {bytes : ByteArray} {mx : Nat} {rt : Option FieldType} {a : Array Value} {s : State} {m : MethodId} {meth : Method} {c : Code} (h1 : s.methodNamed? y = some m) (h2 : s.vm.method? m = some meth) (h3 : meth.code = some c) (h4 : c.code = bytes)
    (h5 : (c.maxLocals == mx && c.exceptionTable.isEmpty && decide (c.maxStack ≤ mostOperands) && decide (meth.sig.returnType = rt) && !meth.locks && decide (parseMethodDescriptor y.desc = some meth.sig)) = true) : (Jvm.Cond.code y bytes mx rt).before a s = true := by
  simp only [Bool.and_eq_true, beq_iff_eq, Bool.not_eq_true', decide_eq_true_eq] at h5
  obtain ⟨⟨⟨⟨⟨g1, g2⟩, g3⟩, g4⟩, g5⟩, g6⟩ := h5
  simp [Cond.before, Cond.holds, Cond.value, h1, h2, h3, h4, g1, g2, g3, g4, g5, g6]
def isCode : Jvm.Cond → Bool
  | .code _ _ _ _ => true
  | _ => false
theorem all_split {L : List Jvm.Cond} {P : Jvm.Cond → Bool} (h1 : L.all (fun c => isCode c || P c) = true) (h2 : ∀ c ∈ L.filter isCode, P c = true) : L.all P = true := by
  refine List.all_eq_true.mpr fun c hc => ?_
  have h := List.all_eq_true.mp h1 c hc
  rcases Bool.eq_false_or_eq_true (isCode c) with hi | hi
  · exact h2 c (List.mem_filter.mpr ⟨hc, hi⟩)
  · simpa [hi] using h
set_option maxRecDepth 65536 in
theorem w_c0 : (Jvm.Cond.code x code maxLocals ret).before args0 about1 = true := code_word (m := ⟨1, 2⟩) (meth := k1m2) (c := k1c2) (by decide +kernel) rfl rfl rfl (by decide +kernel)
set_option maxRecDepth 65536 in
theorem w_c1 : (Jvm.Cond.code ({ cls := "com/example/fogline/fogline/rules/Piece", name := "<init>", desc := "(Lcom/example/fogline/fogline/rules/Side;Lcom/example/fogline/fogline/rules/Rank;)V" } : Jvm.MethodName) prog_63_method_1_code (3 : Nat) (Option.none : Option Jvm.ClassFile.FieldType)).before args0 about1 = true := code_word (m := ⟨2, 0⟩) (meth := k2m0) (c := k2c0) (by decide +kernel) rfl rfl rfl (by decide +kernel)
set_option maxRecDepth 65536 in
theorem w_c2 : (Jvm.Cond.code ({ cls := "java/lang/Object", name := "<init>", desc := "()V" } : Jvm.MethodName) object_method_1_code (1 : Nat) (Option.none : Option Jvm.ClassFile.FieldType)).before args0 about1 = true := code_word (m := ⟨0, 0⟩) (meth := k0m0) (c := k0c0) (by decide +kernel) rfl rfl rfl (by decide +kernel)
set_option maxRecDepth 65536 in
theorem w_c3 : (Jvm.Cond.code ({ cls := "com/example/fogline/fogline/rules/RecentMovesWentBackPinLaw", name := "pick", desc := "(ILcom/example/fogline/fogline/rules/Piece;Lcom/example/fogline/fogline/rules/Piece;)Lcom/example/fogline/fogline/rules/Piece;" } : Jvm.MethodName) method_2_code (3 : Nat) (Option.some (Jvm.ClassFile.FieldType.object "com/example/fogline/fogline/rules/Piece"))).before args0 about1 = true := code_word (m := ⟨1, 1⟩) (meth := k1m1) (c := k1c1) (by decide +kernel) rfl rfl rfl (by decide +kernel)
set_option maxRecDepth 65536 in
theorem w_c4 : (Jvm.Cond.code ({ cls := "com/example/fogline/fogline/rules/RecentMoves", name := "<init>", desc := "()V" } : Jvm.MethodName) prog_65_method_1_code (1 : Nat) (Option.none : Option Jvm.ClassFile.FieldType)).before args0 about1 = true := code_word (m := ⟨3, 0⟩) (meth := k3m0) (c := k3c0) (by decide +kernel) rfl rfl rfl (by decide +kernel)
set_option maxRecDepth 65536 in
theorem w_c5 : (Jvm.Cond.code ({ cls := "com/example/fogline/fogline/rules/RecentMoves", name := "wentBack", desc := "()Z" } : Jvm.MethodName) prog_65_method_5_code (1 : Nat) (Option.some Jvm.ClassFile.FieldType.boolean)).before args0 about1 = true := code_word (m := ⟨3, 2⟩) (meth := k3m2) (c := k3c2) (by decide +kernel) rfl rfl rfl (by decide +kernel)
set_option maxRecDepth 65536 in
theorem w_c6 : (Jvm.Cond.code ({ cls := "com/example/fogline/fogline/rules/RecentMoves", name := "add", desc := "(Lcom/example/fogline/fogline/rules/Piece;II)V" } : Jvm.MethodName) prog_65_method_2_code (4 : Nat) (Option.none : Option Jvm.ClassFile.FieldType)).before args0 about1 = true := code_word (m := ⟨3, 1⟩) (meth := k3m1) (c := k3c1) (by decide +kernel) rfl rfl rfl (by decide +kernel)
def codes1 : List Jvm.Cond := [Jvm.Cond.code x code maxLocals ret, Jvm.Cond.code ({ cls := "com/example/fogline/fogline/rules/Piece", name := "<init>", desc := "(Lcom/example/fogline/fogline/rules/Side;Lcom/example/fogline/fogline/rules/Rank;)V" } : Jvm.MethodName) prog_63_method_1_code (3 : Nat) (Option.none : Option Jvm.ClassFile.FieldType), Jvm.Cond.code ({ cls := "java/lang/Object", name := "<init>", desc := "()V" } : Jvm.MethodName) object_method_1_code (1 : Nat) (Option.none : Option Jvm.ClassFile.FieldType), Jvm.Cond.code ({ cls := "com/example/fogline/fogline/rules/RecentMovesWentBackPinLaw", name := "pick", desc := "(ILcom/example/fogline/fogline/rules/Piece;Lcom/example/fogline/fogline/rules/Piece;)Lcom/example/fogline/fogline/rules/Piece;" } : Jvm.MethodName) method_2_code (3 : Nat) (Option.some (Jvm.ClassFile.FieldType.object "com/example/fogline/fogline/rules/Piece")), Jvm.Cond.code ({ cls := "com/example/fogline/fogline/rules/RecentMoves", name := "<init>", desc := "()V" } : Jvm.MethodName) prog_65_method_1_code (1 : Nat) (Option.none : Option Jvm.ClassFile.FieldType), Jvm.Cond.code ({ cls := "com/example/fogline/fogline/rules/RecentMoves", name := "wentBack", desc := "()Z" } : Jvm.MethodName) prog_65_method_5_code (1 : Nat) (Option.some Jvm.ClassFile.FieldType.boolean), Jvm.Cond.code ({ cls := "com/example/fogline/fogline/rules/RecentMoves", name := "add", desc := "(Lcom/example/fogline/fogline/rules/Piece;II)V" } : Jvm.MethodName) prog_65_method_2_code (4 : Nat) (Option.none : Option Jvm.ClassFile.FieldType)]
set_option maxRecDepth 65536 in
theorem codes_eq : words1.filter isCode = codes1 := rfl
theorem w_codes : ∀ c ∈ words1.filter isCode, c.before args0 about1 = true := by
  rw [codes_eq]
  intro c hc
  simp only [codes1, List.mem_cons, List.not_mem_nil, or_false] at hc
  rcases hc with rfl | rfl | rfl | rfl | rfl | rfl | rfl
  · exact w_c0
  · exact w_c1
  · exact w_c2
  · exact w_c3
  · exact w_c4
  · exact w_c5
  · exact w_c6
set_option maxRecDepth 65536 in
theorem w_t1 : (words1.take 24).all (fun c => isCode c || c.before args0 about1) = true := by decide +kernel
set_option maxRecDepth 65536 in
theorem w_t2 : (words1.drop 24).all (fun c => isCode c || c.before args0 about1) = true := by decide +kernel
theorem w_tables : (allAtoms (Jvm.Cond.code x code maxLocals ret :: tables_1)).before args0 about1 = true := by
  rw [allAtoms_all]
  show words1.all (fun c => c.before args0 about1) = true
  refine all_split ?_ w_codes
  rw [← List.take_append_drop 24 words1, List.all_append, w_t1, w_t2]
  rfl
set_option maxRecDepth 65536 in
theorem w_case : (Jvm.Cond.and given_1 narrow_1).before args0 about1 = true := by decide +kernel
theorem w_applies : (headSpec (Jvm.Cond.code x code maxLocals ret :: tables_1) room_1).applies x e0.platform about1 = true :=
  (Spec.applies_iff w_frames).mpr ⟨w_running, w_runnable, w_alone, w_named, w_hears, w_ripe, w_room, w_tables⟩
theorem atStart : AtStart classFile x code maxLocals ret World_1 tables_1 room_1 Calls_1 rest_1 Pre_1 launch0 p0 e0 about1 theMethod args0 below0 :=
  ⟨lists_1, trivial, launch0.admits_env _ _ _, launch0.least_env, fairChoices_fair.cas, fairChoices_fair.clock, w_frames, w_args, w_heap, w_applies, trivial, trivial, w_case⟩
end start1
theorem witness_1 : WitnessClaimed_1 := ⟨start1.p0, start1.e0, start1.about1, start1.theMethod, start1.args0, start1.below0, start1.atStart⟩
end Jvm.Pilot.@@N@@
