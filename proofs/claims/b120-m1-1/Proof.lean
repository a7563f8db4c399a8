import JvmDerived
import JvmDerived.Pilot.@@N@@Statement
import JvmDerived.Pilot.@@N@@Code
set_option linter.unusedVariables false
set_option linter.unusedSimpArgs false
namespace Jvm.RoadKit
open Sem ClassFile Op Lib Jvm.Stand Jvm.Free Jvm.LawKit
section Own
variable {p : Program} {l : Launch} {e : Env} {R : Room} {s : State} {m : MethodId} {args : Array Value} {below : List Frame} {meth : Method} {c : Code} {T A B : State} {locs : List Loc} {cells slots K N : Nat} {Q : Option Value → Heap → List Loc → Prop}
/-- from A the walk comes to its end, and Q holds there -/
def OutW (p : Program) (e : Env) (below : List Frame) (s : State) (K N : Nat) (Q : Option Value → Heap → List Loc → Prop) (A : State) : Prop :=
  ∃ s₂ o, Steps p.tables e below A s₂ ∧ s₂.status = .running ∧ Ended s₂ below o ∧ ∃ v L, o = .returned v ∧ Q v s₂.heap L ∧ FrameEnd s o s₂ L K N
/-- a body that writes nothing: what it returns -/
def Qpure (h0 : Heap) (n0 : Nat) (r : Value) (v : Option Value) (h : Heap) (L : List Loc) : Prop := v = some r ∧ Fr n0 L ∧ h = h0
theorem OutW.back (h : ∀ t, Steps p.tables e below B t → Steps p.tables e below A t) (k : OutW p e below s K N Q B) : OutW p e below s K N Q A := by
  obtain ⟨t, o, h1, h2⟩ := k
  exact ⟨t, o, h t h1, h2⟩
theorem OutW.via (h : Steps p.tables e below A B) (k : OutW p e below s K N Q B) : OutW p e below s K N Q A := by
  obtain ⟨t, o, h1, h2⟩ := k
  exact ⟨t, o, h.trans h1, h2⟩
theorem OutW.retV (X : Stand p l e R s m args below meth c T locs cells slots) (hx : p.tables.exec = Jvm.exec) {pc : Nat} {Ls : Array Slot} (hret : meth.sig.returnType = none) (hlk : meth.locks = false) (hd : decode c.code pc = .ok (.return_, 1))
    (hK : cells ≤ K) (hN : slots ≤ N) (hq : Q none T.heap locs) : OutW p e below s K N Q (T.setTop (mkF m pc Ls [])) := by
  obtain ⟨fs, hr, hrun, hended, hW, hsame⟩ := X.leave (v := none) (fun _ => rfl) hlk
  exact ⟨_, _, X.returnOut hx hret hd hr, hrun, hended, _, _, rfl, hq, ⟨_, rfl⟩, hW, hsame.mono hK hN⟩
theorem OutW.retI (X : Stand p l e R s m args below meth c T locs cells slots) (hx : p.tables.exec = Jvm.exec) {pc : Nat} {Ls : Array Slot} {z : Int32} {rest : List Value} (hret : meth.sig.returnType = some .int) (hlk : meth.locks = false) (hd : decode c.code pc = .ok (.ireturn, 1))
    (hK : cells ≤ K) (hN : slots ≤ N) (hq : Q (some (.int z)) T.heap locs) : OutW p e below s K N Q (T.setTop (mkF m pc Ls (.int z :: rest))) := by
  obtain ⟨fs, hr, hrun, hended, hW, hsame⟩ := X.leave (v := some (.int z)) (fun h => by rw [hret] at h; cases h) hlk
  exact ⟨_, _, retOut X hx hret rfl (Or.inl ⟨rfl, Or.inl rfl, z, rfl⟩) hd hr, hrun, hended, _, _, rfl, hq, ⟨_, rfl⟩, hW, hsame.mono hK hN⟩
theorem OutW.retJ (X : Stand p l e R s m args below meth c T locs cells slots) (hx : p.tables.exec = Jvm.exec) {pc : Nat} {Ls : Array Slot} {z : Int64} {rest : List Value} (hret : meth.sig.returnType = some .long) (hlk : meth.locks = false) (hd : decode c.code pc = .ok (.lreturn, 1))
    (hK : cells ≤ K) (hN : slots ≤ N) (hq : Q (some (.long z)) T.heap locs) : OutW p e below s K N Q (T.setTop (mkF m pc Ls (.long z :: rest))) := by
  obtain ⟨fs, hr, hrun, hended, hW, hsame⟩ := X.leave (v := some (.long z)) (fun h => by rw [hret] at h; cases h) hlk
  exact ⟨_, _, retOut X hx hret rfl (Or.inr (Or.inl ⟨rfl, rfl, z, rfl⟩)) hd hr, hrun, hended, _, _, rfl, hq, ⟨_, rfl⟩, hW, hsame.mono hK hN⟩
theorem nar_ref {t : FieldType} {v : Value} (h : v.isRef = true) : narrow t v = v := by
  rcases ref_cases h with rfl | ⟨a, rfl⟩ <;> cases t <;> rfl
theorem cat_ref {v : Value} (h : v.isRef = true) : v.category = 1 := by
  rcases ref_cases h with rfl | ⟨a, rfl⟩ <;> rfl
theorem fit_ref {t : FieldType} {v : Value} (ht : refKind t = true) (h : v.isRef = true) : fits t v = true := by
  rcases ref_cases h with rfl | ⟨a, rfl⟩ <;> cases t <;> first | rfl | (simp [refKind] at ht)
theorem OutW.retA (X : Stand p l e R s m args below meth c T locs cells slots) (hx : p.tables.exec = Jvm.exec) {pc : Nat} {Ls : Array Slot} {w : Value} {t : FieldType} {rest : List Value} (hret : meth.sig.returnType = some t) (ht : t.isReference = true) (hw : w.isRef = true) (hlk : meth.locks = false) (hd : decode c.code pc = .ok (.areturn, 1))
    (hK : cells ≤ K) (hN : slots ≤ N) (hq : Q (some w) T.heap locs) : OutW p e below s K N Q (T.setTop (mkF m pc Ls (w :: rest))) := by
  obtain ⟨fs, hr, hrun, hended, hW, hsame⟩ := X.leave (v := some w) (fun h => by rw [hret] at h; cases h) hlk
  exact ⟨_, _, retOut X hx hret (nar_ref hw) (Or.inr (Or.inr (Or.inr (Or.inr ⟨rfl, ht, hw⟩)))) hd hr, hrun, hended, _, _, rfl, hq, ⟨_, rfl⟩, hW, hsame.mono hK hN⟩
theorem OutW.retN (X : Stand p l e R s m args below meth c T locs cells slots) (hx : p.tables.exec = Jvm.exec) {pc : Nat} {Ls : Array Slot} {z z' : Int32} {t : FieldType} {rest : List Value} (hret : meth.sig.returnType = some t) (ht : t = .boolean ∨ t = .byte ∨ t = .char ∨ t = .short) (hlk : meth.locks = false) (hd : decode c.code pc = .ok (.ireturn, 1)) (hz : nar t z = z')
    (hK : cells ≤ K) (hN : slots ≤ N) (hq : Q (some (.int z')) T.heap locs) : OutW p e below s K N Q (T.setTop (mkF m pc Ls (.int z :: rest))) := by
  subst hz
  obtain ⟨fs, hr, hrun, hended, hW, hsame⟩ := X.leave (v := some (.int (nar t z))) (fun h => by rw [hret] at h; cases h) hlk
  exact ⟨_, _, Jvm.RoadKit.retN X hx hret ht hd hr, hrun, hended, _, _, rfl, hq, ⟨_, rfl⟩, hW, hsame.mono hK hN⟩
theorem store1' {L L' : Array Slot} {i : Nat} {v : Value} {o : Slot} (hold : L[i]? = some o) (ho : One o) (hv : v.category = 1) (h : L.setIfInBounds i (.val v) = L') : storeLocals L i v = some L' := h ▸ XS.store1 hold ho hv
theorem own_lt_mono {x a b : Int32} (h : x < a) (q : a ≤ b) : x < b := by
  rw [Int32.lt_iff_toInt_lt] at *
  rw [Int32.le_iff_toInt_le] at q
  omega
theorem own_nlt_mono {x a b : Int32} (h : ¬ x < a) (q : b ≤ a) : ¬ x < b := by
  rw [Int32.lt_iff_toInt_lt] at *
  rw [Int32.le_iff_toInt_le] at q
  omega
/-- every element of the array's cell is an object of exactly that class -/
def Els (Z : State) (h : Heap) (cl : Cell) (C : String) : Prop := ∀ j : Int32, ¬ (j < 0 ∨ cl.slots.size ≤ j.toNatClampNeg) → ∃ y : Addr, cl.slots[j.toNatClampNeg]? = some (.ref y) ∧ Exa Z h y C
theorem own_Uext {Z : State} {h h' : Heap} {cl : Cell} {C : String} (U : Els Z h cl C) (E : Ext h h') : Els Z h' cl C := fun j hj => by
  obtain ⟨y, a, b⟩ := U j hj
  exact ⟨y, a, b.ext E⟩
theorem own_Uwr {Z : State} {h h' : Heap} {cl : Cell} {C : String} {a : Addr} {sl : Nat} {v : Value} (U : Els Z h cl C) (W : Wr h h' a sl v) : Els Z h' cl C := fun j hj => by
  obtain ⟨y, q, b⟩ := U j hj
  exact ⟨y, q, b.wr W⟩
theorem own_Ukeep {Z : State} {h h' : Heap} {cl : Cell} {C : String} {ws : List Addr} (U : Els Z h cl C) (K : Keep h h' ws) : Els Z h' cl C := fun j hj => by
  obtain ⟨y, a, b⟩ := U j hj
  exact ⟨y, a, b.keep K⟩
theorem own_Akeep {Z : State} {h h' : Heap} {a : Addr} {c : Cell} {ty : FieldType} {ws : List Addr} (A : Arr Z h a c ty) (K : Keep h h' ws) (q : a ∉ ws) : Arr Z h' a c ty := ⟨K.2.1 a c A.1 q, A.2⟩
theorem own_keepS {Z : State} {h h' : Heap} {C n d : String} {v : Value} {ws : List Addr} (F : Sta Z h C n d v) (K : Keep h h' ws) (q : ∀ x ∈ ws, ∃ C', Exa Z h x C') : Sta Z h' C n d v := by
  obtain ⟨cf, i, k, f, st, cell, h1, h2, h3, h4, h5, h6, h7⟩ := F
  have ne : st ∉ ws := fun hm => by
    obtain ⟨C', c', k', e1, -, -, e4, -⟩ := q st hm
    cases h5.symm.trans e1
    rw [h6] at e4; cases e4
  exact ⟨cf, i, k, f, st, cell, h1, h2, h3, h4, K.2.1 _ _ h5 ne, h6, h7⟩
end Own
end Jvm.RoadKit
namespace Jvm.Pilot.@@N@@
open Jvm Jvm.ClassFile Sem Op Lib Jvm.Free Jvm.Stand Jvm.LawKit Jvm.RoadKit Bundle Jvm.Pilot.@@N@@.Jvm.D
def highM (n : Int32) : Int64 := if n = 0 then 0 else if n < (64 : Int32) then (-1 : Int64) <<< (((64 : Int32) - n) &&& 0x3f).toInt64 else -1
theorem own_fin {n : Nat} (x : Int32) (h0 : 0 ≤ x.toInt) (h1 : x.toInt < n) : ∃ k : Fin n, x = Int32.ofInt ((k.1 : Nat) : Int) :=
  ⟨⟨x.toInt.toNat, by omega⟩, by
    have e : ((x.toInt.toNat : Nat) : Int) = x.toInt := by omega
    show x = Int32.ofInt ((x.toInt.toNat : Nat) : Int)
    rw [e, Int32.ofInt_toInt]⟩
set_option maxRecDepth 65536 in
theorem own_tab : ∀ a : Fin 129, ∀ b : Fin 64, decide (((((highM (Int32.ofInt ((a.1 : Nat) : Int))).toUInt64 >>> (((63 : Int32) - (Int32.ofInt ((b.1 : Nat) : Int))) &&& 0x3f).toInt64.toUInt64).toInt64) &&& (1 : Int64)) = 1) = decide ((Int32.ofInt ((b.1 : Nat) : Int)) < (Int32.ofInt ((a.1 : Nat) : Int))) := by decide +kernel
theorem own_plain (p1 p2 v1 v2 v7 v11 v15 : Int32) (v4 v5 : Int64) (h1 : ((p1 &&& (2147483647 : Int32)) % (129 : Int32)) = v1) (h2 : (p2 &&& (63 : Int32)) = v2) (h4 : (highM v1) = v4) (h5 : (((v4.toUInt64 >>> (((63 : Int32) - v2) &&& 0x3f).toInt64.toUInt64).toInt64) &&& (1 : Int64)) = v5)
    (h7 : v7 = (if v2 < v1 then (1 : Int32) else (0 : Int32))) (h11 : v11 = (if v5 = (1 : Int64) then (1 : Int32) else (0 : Int32))) (h15 : v15 = (if v11 = v7 then (1 : Int32) else (0 : Int32))) : v15 = 1 := by
  have m1 := c_and p1 (2147483647 : Int32) (by decide)
  have r1 := (c_irem (p1 &&& (2147483647 : Int32)) (129 : Int32) 129 (by decide)).1 m1.1
  rw [h1] at r1
  have m2 := c_and p2 (63 : Int32) (by decide)
  rw [h2] at m2
  have e63 : (63 : Int32).toInt = 63 := by decide
  obtain ⟨a, ea⟩ := own_fin (n := 129) v1 (by omega) (by omega)
  obtain ⟨b, eb⟩ := own_fin (n := 64) v2 (by omega) (by omega)
  have t := own_tab a b
  subst h4 h5
  rw [← ea, ← eb, decide_eq_decide] at t
  have e : v11 = v7 := by
    rw [h11, h7]
    by_cases q : v2 < v1
    · rw [if_pos q, if_pos (t.mpr q)]
    · rw [if_neg q, if_neg fun z => q (t.mp z)]
  rw [h15, if_pos e]
theorem d1_0 : decode prog_1_method_9_code 0 = .ok (.iload_n 0, 1) := by decide +kernel
theorem d1_1 : decode prog_1_method_9_code 1 = .ok (.ifCond .ne 8, 3) := by decide +kernel
theorem d1_4 : decode prog_1_method_9_code 4 = .ok (.lconst 0, 1) := by decide +kernel
theorem d1_5 : decode prog_1_method_9_code 5 = .ok (.lstore_n 1, 1) := by decide +kernel
theorem d1_6 : decode prog_1_method_9_code 6 = .ok (.goto 25, 3) := by decide +kernel
theorem d1_9 : decode prog_1_method_9_code 9 = .ok (.iload_n 0, 1) := by decide +kernel
theorem d1_10 : decode prog_1_method_9_code 10 = .ok (.bipush 64, 2) := by decide +kernel
theorem d1_12 : decode prog_1_method_9_code 12 = .ok (.if_icmp .ge 15, 3) := by decide +kernel
theorem d1_15 : decode prog_1_method_9_code 15 = .ok (.ldc2_w 112, 3) := by decide +kernel
theorem d1_18 : decode prog_1_method_9_code 18 = .ok (.bipush 64, 2) := by decide +kernel
theorem d1_20 : decode prog_1_method_9_code 20 = .ok (.iload_n 0, 1) := by decide +kernel
theorem d1_21 : decode prog_1_method_9_code 21 = .ok (.isub, 1) := by decide +kernel
theorem d1_22 : decode prog_1_method_9_code 22 = .ok (.lshl, 1) := by decide +kernel
theorem d1_23 : decode prog_1_method_9_code 23 = .ok (.lstore_n 1, 1) := by decide +kernel
theorem d1_24 : decode prog_1_method_9_code 24 = .ok (.goto 7, 3) := by decide +kernel
theorem d1_27 : decode prog_1_method_9_code 27 = .ok (.ldc2_w 112, 3) := by decide +kernel
theorem d1_30 : decode prog_1_method_9_code 30 = .ok (.lstore_n 1, 1) := by decide +kernel
theorem d1_31 : decode prog_1_method_9_code 31 = .ok (.lload_n 1, 1) := by decide +kernel
theorem d1_32 : decode prog_1_method_9_code 32 = .ok (.lreturn, 1) := by decide +kernel
theorem pn_1 : plainName "com/example/nearpath/nearpath/Address" = true := by first | (simp [plainName, overriddenIn]; done) | decide +kernel
theorem ef_1 (m : MethodId) (x0 : Int32) : entryFrame m #[(.int x0)] 3 = mkF m 0 #[.val (.int x0), .unset, .unset] [] := by first | (simp [entryFrame, mkF, argsToLocals, Value.category]; done) | rfl
def Q1 (Z : State) (p1 : Int32)  (h0 : Heap) (n0 : Nat) (v : Option Value) (h : Heap) (L : List Loc) : Prop := v = some (.long (highM p1)) ∧ Fr n0 L ∧ h = h0
set_option maxRecDepth 65536 in
set_option maxHeartbeats 40000000 in
theorem rm1 (l : Launch) (Z : State) (a0 : Array Value) (hw : ∀ d ∈ tables_1, d.before a0 Z = true) (ws : List Jvm.Cond) (p1 : Int32)  (h0 : Heap) (n0 : Nat) (Z0 : n0 ≤ h0.size) :
    MetFree l (⟨"com/example/nearpath/nearpath/Address", "highMask", "(I)J"⟩ : MethodName) (head1 (Jvm.Cond.code (⟨"com/example/nearpath/nearpath/Address", "highMask", "(I)J"⟩ : MethodName) prog_1_method_9_code 3 (some .long) :: ws) ({ frames := 0, cells := 0, slots := 0, locals := 0 } : Room)) (fun a U => a = #[(.int p1)] ∧ Z.Warmed39 U.vm ∧ U.heap = h0) (fun _ _ _ _ _ => True) (fun _ U o U' => ∃ v L, o = .returned v ∧ Q1 Z p1 h0 n0 v U'.heap L ∧ FrameEnd U o U' L ({ frames := 0, cells := 0, slots := 0, locals := 0 } : Room).cells ({ frames := 0, cells := 0, slots := 0, locals := 0 } : Room).slots) := by
  refine MetFree.of_bodySF (plainFor_of_name pn_1) hisR ?_
  intro p e s m args below meth c s₁ Bd hml0 hP hK
  obtain ⟨rfl, hZ, hh⟩ := hP
  have hx := Bd.exec
  have hby := Bd.bytes
  have hlk := Bd.notSynchronized
  have hml : c.maxLocals = 3 := hml0
  have hown : s.vm.findClass "com/example/nearpath/nearpath/Address" = some m.cls := findClass_of_methodNamed Bd.named
  have hnm := (name_of_methodNamed Bd.named Bd.method).1
  have X0 : Stand p l e ({ frames := 0, cells := 0, slots := 0, locals := 0 } : Room) s m #[(.int p1)] below meth c s₁ [] 0 0 := Stand.of_body Bd
  have e0 : s₁.heap = h0 := by rw [← hh, Bd.state]; rfl
  have N0 := Fr.nil n0
  have K0 : Keep h0 h0 [] := Keep.refl h0 _
  show OutW p e below s ({ frames := 0, cells := 0, slots := 0, locals := 0 } : Room).cells ({ frames := 0, cells := 0, slots := 0, locals := 0 } : Room).slots (Q1 Z p1 h0 n0) _
  refine OutW.back (fun t k => castTop (ef_1 m p1) k) ?_
  show OutW _ _ _ _ _ _ _ (s₁.setTop (mkF m 0 #[.val (.int p1), .unset, .unset] []))
  refine OutW.back (fun t k => XS.iloadN X0.here hx rfl (hb hby d1_0) rfl  k) ?_
  show OutW _ _ _ _ _ _ _ (s₁.setTop (mkF m 1 #[.val (.int p1), .unset, .unset] [(.int p1)]))
  by_cases c1_1 : p1 = (0 : Int32)
  · skip
    refine OutW.back (fun t k => XS.ifNo X0.here hx rfl (hb hby d1_1) rfl ((if0 _ _).trans (teq c1_1).2) k) ?_
    show OutW _ _ _ _ _ _ _ (s₁.setTop (mkF m 4 #[.val (.int p1), .unset, .unset] []))
    refine OutW.back (fun t k => XS.lconst X0.here hx rfl (hb hby d1_4) k) ?_
    show OutW _ _ _ _ _ _ _ (s₁.setTop (mkF m 5 #[.val (.int p1), .unset, .unset] [(.long (0 : Int64))]))
    refine OutW.back (fun t k => XS.lstoreN X0.here hx rfl (hb hby d1_5) rfl (l' := #[.val (.int p1), .val (.long (0 : Int64)), .second]) rfl k) ?_
    show OutW _ _ _ _ _ _ _ (s₁.setTop (mkF m 6 #[.val (.int p1), .val (.long (0 : Int64)), .second] []))
    refine OutW.back (fun t k => XS.goto X0.here hx rfl (pc0 := 6) (pc' := 31) rfl (hb hby d1_6) (by decide) (by decide) k) ?_
    show OutW _ _ _ _ _ _ _ (s₁.setTop (mkF m 31 #[.val (.int p1), .val (.long (0 : Int64)), .second] []))
    refine OutW.back (fun t k => XS.lloadN X0.here hx rfl (hb hby d1_31) rfl  k) ?_
    show OutW _ _ _ _ _ _ _ (s₁.setTop (mkF m 32 #[.val (.int p1), .val (.long (0 : Int64)), .second] [(.long (0 : Int64))]))
    refine OutW.retJ X0 hx Bd.returns hlk (hb hby d1_32) (by decide) (by decide) ?_
    show Q1 Z p1 h0 n0 _ s₁.heap _
    rw [e0]
    exact ⟨by rw [highM, if_pos c1_1], N0, rfl⟩
  · skip
    refine OutW.back (fun t k => XS.ifYes X0.here hx rfl (pc0 := 1) (pc' := 9) rfl (hb hby d1_1) rfl ((if0 _ _).trans (feq c1_1).2) (by decide) (by decide) k) ?_
    show OutW _ _ _ _ _ _ _ (s₁.setTop (mkF m 9 #[.val (.int p1), .unset, .unset] []))
    refine OutW.back (fun t k => XS.iloadN X0.here hx rfl (hb hby d1_9) rfl  k) ?_
    show OutW _ _ _ _ _ _ _ (s₁.setTop (mkF m 10 #[.val (.int p1), .unset, .unset] [(.int p1)]))
    refine OutW.back (fun t k => XS.bipush X0.here hx rfl (hb hby d1_10) k) ?_
    show OutW _ _ _ _ _ _ _ (s₁.setTop (mkF m 12 #[.val (.int p1), .unset, .unset] [(.int (64 : Int32)), (.int p1)]))
    by_cases c12_2 : p1 < (64 : Int32)
    · skip
      refine OutW.back (fun t k => XS.icmpNo X0.here hx rfl (hb hby d1_12) rfl (tlt c12_2).2.1 k) ?_
      show OutW _ _ _ _ _ _ _ (s₁.setTop (mkF m 15 #[.val (.int p1), .unset, .unset] []))
      refine OutW.back (X0.ldc2Long hx hown (mvT hZ (hw _ (List.mem_of_getElem? (i := 5) rfl))) (g := (mkF m 15 #[.val (.int p1), .unset, .unset] [])) rfl (hb hby d1_15)) ?_
      show OutW _ _ _ _ _ _ _ (s₁.setTop (mkF m 18 #[.val (.int p1), .unset, .unset] [(.long (-1 : Int64))]))
      refine OutW.back (fun t k => XS.bipush X0.here hx rfl (hb hby d1_18) k) ?_
      show OutW _ _ _ _ _ _ _ (s₁.setTop (mkF m 20 #[.val (.int p1), .unset, .unset] [(.int (64 : Int32)), (.long (-1 : Int64))]))
      refine OutW.back (fun t k => XS.iloadN X0.here hx rfl (hb hby d1_20) rfl  k) ?_
      show OutW _ _ _ _ _ _ _ (s₁.setTop (mkF m 21 #[.val (.int p1), .unset, .unset] [(.int p1), (.int (64 : Int32)), (.long (-1 : Int64))]))
      refine OutW.back (fun t k => XS.isub X0.here hx rfl (hb hby d1_21) rfl k) ?_
      show OutW _ _ _ _ _ _ _ (s₁.setTop (mkF m 22 #[.val (.int p1), .unset, .unset] [(.int ((64 : Int32) - p1)), (.long (-1 : Int64))]))
      refine OutW.back (fun t k => XS.lshl X0.here hx rfl (hb hby d1_22) rfl k) ?_
      show OutW _ _ _ _ _ _ _ (s₁.setTop (mkF m 23 #[.val (.int p1), .unset, .unset] [(.long ((-1 : Int64) <<< (((64 : Int32) - p1) &&& 0x3f).toInt64))]))
      refine OutW.back (fun t k => XS.lstoreN X0.here hx rfl (hb hby d1_23) rfl (l' := #[.val (.int p1), .val (.long ((-1 : Int64) <<< (((64 : Int32) - p1) &&& 0x3f).toInt64)), .second]) rfl k) ?_
      show OutW _ _ _ _ _ _ _ (s₁.setTop (mkF m 24 #[.val (.int p1), .val (.long ((-1 : Int64) <<< (((64 : Int32) - p1) &&& 0x3f).toInt64)), .second] []))
      refine OutW.back (fun t k => XS.goto X0.here hx rfl (pc0 := 24) (pc' := 31) rfl (hb hby d1_24) (by decide) (by decide) k) ?_
      show OutW _ _ _ _ _ _ _ (s₁.setTop (mkF m 31 #[.val (.int p1), .val (.long ((-1 : Int64) <<< (((64 : Int32) - p1) &&& 0x3f).toInt64)), .second] []))
      refine OutW.back (fun t k => XS.lloadN X0.here hx rfl (hb hby d1_31) rfl  k) ?_
      show OutW _ _ _ _ _ _ _ (s₁.setTop (mkF m 32 #[.val (.int p1), .val (.long ((-1 : Int64) <<< (((64 : Int32) - p1) &&& 0x3f).toInt64)), .second] [(.long ((-1 : Int64) <<< (((64 : Int32) - p1) &&& 0x3f).toInt64))]))
      refine OutW.retJ X0 hx Bd.returns hlk (hb hby d1_32) (by decide) (by decide) ?_
      show Q1 Z p1 h0 n0 _ s₁.heap _
      rw [e0]
      exact ⟨by rw [highM, if_neg c1_1, if_pos c12_2], N0, rfl⟩
    · skip
      refine OutW.back (fun t k => XS.icmpYes X0.here hx rfl (pc0 := 12) (pc' := 27) rfl (hb hby d1_12) rfl (flt c12_2).2.1 (by decide) (by decide) k) ?_
      show OutW _ _ _ _ _ _ _ (s₁.setTop (mkF m 27 #[.val (.int p1), .unset, .unset] []))
      refine OutW.back (X0.ldc2Long hx hown (mvT hZ (hw _ (List.mem_of_getElem? (i := 5) rfl))) (g := (mkF m 27 #[.val (.int p1), .unset, .unset] [])) rfl (hb hby d1_27)) ?_
      show OutW _ _ _ _ _ _ _ (s₁.setTop (mkF m 30 #[.val (.int p1), .unset, .unset] [(.long (-1 : Int64))]))
      refine OutW.back (fun t k => XS.lstoreN X0.here hx rfl (hb hby d1_30) rfl (l' := #[.val (.int p1), .val (.long (-1 : Int64)), .second]) rfl k) ?_
      show OutW _ _ _ _ _ _ _ (s₁.setTop (mkF m 31 #[.val (.int p1), .val (.long (-1 : Int64)), .second] []))
      refine OutW.back (fun t k => XS.lloadN X0.here hx rfl (hb hby d1_31) rfl  k) ?_
      show OutW _ _ _ _ _ _ _ (s₁.setTop (mkF m 32 #[.val (.int p1), .val (.long (-1 : Int64)), .second] [(.long (-1 : Int64))]))
      refine OutW.retJ X0 hx Bd.returns hlk (hb hby d1_32) (by decide) (by decide) ?_
      show Q1 Z p1 h0 n0 _ s₁.heap _
      rw [e0]
      exact ⟨by rw [highM, if_neg c1_1, if_neg c12_2], N0, rfl⟩
theorem pd_0 : parseMethodDescriptor "(I)J" = some ⟨[.int], some .long⟩ := by decide +kernel
theorem pn_0 : plainName "com/example/nearpath/nearpath/AddressHighMaskPinLaw" = true := by first | (simp [plainName, overriddenIn]; done) | decide +kernel
theorem ef_0 (m : MethodId) (x0 : Int32) (x1 : Int32) : entryFrame m #[(.int x0), (.int x1)] maxLocals = mkF m 0 #[.val (.int x0), .val (.int x1), .unset, .unset, .unset, .unset, .unset, .unset, .unset] [] := by first | (simp [entryFrame, mkF, argsToLocals, Value.category, maxLocals]; done) | rfl
def Q0 (Z : State) (p1 : Int32) (p2 : Int32)  (h0 : Heap) (n0 : Nat) (v : Option Value) (h : Heap) (L : List Loc) : Prop := v = some (.int 1) ∧ Fr n0 L
set_option maxRecDepth 65536 in
set_option maxHeartbeats 40000000 in
theorem rm0 (l : Launch) (Z : State) (a0 : Array Value) (hw : ∀ d ∈ tables_1, d.before a0 Z = true) (ws : List Jvm.Cond) (p1 : Int32) (p2 : Int32)  (h0 : Heap) (n0 : Nat) (Z0 : n0 ≤ h0.size) :
    MetFree l x (head1 (Jvm.Cond.code x code maxLocals ret :: ws) room_1) (fun a U => a = #[(.int p1), (.int p2)] ∧ Z.Warmed39 U.vm ∧ U.heap = h0) (fun _ _ _ _ _ => True) (fun _ U o U' => ∃ v L, o = .returned v ∧ Q0 Z p1 p2 h0 n0 v U'.heap L ∧ FrameEnd U o U' L room_1.cells room_1.slots) := by
  refine MetFree.of_bodySF (plainFor_of_name pn_0) hisR ?_
  intro p e s m args below meth c s₁ Bd hml0 hP hK
  obtain ⟨rfl, hZ, hh⟩ := hP
  have hx := Bd.exec
  have hby := Bd.bytes
  have hlk := Bd.notSynchronized
  have hml : c.maxLocals = 9 := hml0
  have hown : s.vm.findClass "com/example/nearpath/nearpath/AddressHighMaskPinLaw" = some m.cls := findClass_of_methodNamed Bd.named
  have hnm := (name_of_methodNamed Bd.named Bd.method).1
  have X0 : Stand p l e room_1 s m #[(.int p1), (.int p2)] below meth c s₁ [] 0 0 := Stand.of_body Bd
  have e0 : s₁.heap = h0 := by rw [← hh, Bd.state]; rfl
  have N0 := Fr.nil n0
  have K0 : Keep h0 h0 [] := Keep.refl h0 _
  show OutW p e below s room_1.cells room_1.slots (Q0 Z p1 p2 h0 n0) _
  refine OutW.back (fun t k => castTop (ef_0 m p1 p2) k) ?_
  show OutW _ _ _ _ _ _ _ (s₁.setTop (mkF m 0 #[.val (.int p1), .val (.int p2), .unset, .unset, .unset, .unset, .unset, .unset, .unset] []))
  refine OutW.back (fun t k => XS.iloadN X0.here hx rfl (hb hby at_0) rfl  k) ?_
  show OutW _ _ _ _ _ _ _ (s₁.setTop (mkF m 1 #[.val (.int p1), .val (.int p2), .unset, .unset, .unset, .unset, .unset, .unset, .unset] [(.int p1)]))
  refine OutW.back (X0.ldcInt hx hown (mvT hZ (hw _ (List.mem_of_getElem? (i := 0) rfl))) (g := (mkF m 1 #[.val (.int p1), .val (.int p2), .unset, .unset, .unset, .unset, .unset, .unset, .unset] [(.int p1)])) rfl (hb hby at_1)) ?_
  show OutW _ _ _ _ _ _ _ (s₁.setTop (mkF m 3 #[.val (.int p1), .val (.int p2), .unset, .unset, .unset, .unset, .unset, .unset, .unset] [(.int (2147483647 : Int32)), (.int p1)]))
  refine OutW.back (fun t k => XS.iand X0.here hx rfl (hb hby at_3) rfl k) ?_
  show OutW _ _ _ _ _ _ _ (s₁.setTop (mkF m 4 #[.val (.int p1), .val (.int p2), .unset, .unset, .unset, .unset, .unset, .unset, .unset] [(.int (p1 &&& (2147483647 : Int32)))]))
  refine OutW.back (fun t k => XS.sipush X0.here hx rfl (hb hby at_4) k) ?_
  show OutW _ _ _ _ _ _ _ (s₁.setTop (mkF m 7 #[.val (.int p1), .val (.int p2), .unset, .unset, .unset, .unset, .unset, .unset, .unset] [(.int (129 : Int32)), (.int (p1 &&& (2147483647 : Int32)))]))
  refine OutW.back (fun t k => iremM X0 hx rfl (hb hby at_7) rfl (by decide) k) ?_
  show OutW _ _ _ _ _ _ _ (s₁.setTop (mkF m 8 #[.val (.int p1), .val (.int p2), .unset, .unset, .unset, .unset, .unset, .unset, .unset] [(.int ((p1 &&& (2147483647 : Int32)) % (129 : Int32)))]))
  generalize hv_v1 : ((p1 &&& (2147483647 : Int32)) % (129 : Int32)) = v1
  refine OutW.back (fun t k => XS.istoreN X0.here hx rfl (hb hby at_8) rfl (l' := #[.val (.int p1), .val (.int p2), .val (.int v1), .unset, .unset, .unset, .unset, .unset, .unset]) rfl k) ?_
  show OutW _ _ _ _ _ _ _ (s₁.setTop (mkF m 9 #[.val (.int p1), .val (.int p2), .val (.int v1), .unset, .unset, .unset, .unset, .unset, .unset] []))
  refine OutW.back (fun t k => XS.iloadN X0.here hx rfl (hb hby at_9) rfl  k) ?_
  show OutW _ _ _ _ _ _ _ (s₁.setTop (mkF m 10 #[.val (.int p1), .val (.int p2), .val (.int v1), .unset, .unset, .unset, .unset, .unset, .unset] [(.int p2)]))
  refine OutW.back (fun t k => XS.bipush X0.here hx rfl (hb hby at_10) k) ?_
  show OutW _ _ _ _ _ _ _ (s₁.setTop (mkF m 12 #[.val (.int p1), .val (.int p2), .val (.int v1), .unset, .unset, .unset, .unset, .unset, .unset] [(.int (63 : Int32)), (.int p2)]))
  refine OutW.back (fun t k => XS.iand X0.here hx rfl (hb hby at_12) rfl k) ?_
  show OutW _ _ _ _ _ _ _ (s₁.setTop (mkF m 13 #[.val (.int p1), .val (.int p2), .val (.int v1), .unset, .unset, .unset, .unset, .unset, .unset] [(.int (p2 &&& (63 : Int32)))]))
  generalize hv_v2 : (p2 &&& (63 : Int32)) = v2
  refine OutW.back (fun t k => XS.istoreN X0.here hx rfl (hb hby at_13) rfl (l' := #[.val (.int p1), .val (.int p2), .val (.int v1), .val (.int v2), .unset, .unset, .unset, .unset, .unset]) rfl k) ?_
  show OutW _ _ _ _ _ _ _ (s₁.setTop (mkF m 14 #[.val (.int p1), .val (.int p2), .val (.int v1), .val (.int v2), .unset, .unset, .unset, .unset, .unset] []))
  refine OutW.back (fun t k => XS.iloadN X0.here hx rfl (hb hby at_14) rfl  k) ?_
  show OutW _ _ _ _ _ _ _ (s₁.setTop (mkF m 15 #[.val (.int p1), .val (.int p2), .val (.int v1), .val (.int v2), .unset, .unset, .unset, .unset, .unset] [(.int v1)]))
  obtain ⟨_, _, ⟨T3, L3, k3, n3⟩, -, X3, ⟨Lc3, hQ3, l3, y3, z3⟩, st3⟩ := Jvm.LawKit.callS X0 hx (y := (⟨"com/example/nearpath/nearpath/Address", "highMask", "(I)J"⟩ : MethodName)) hown (mvT hZ (hw _ (List.mem_of_getElem? (i := 1) rfl))) (mvT hZ (hw _ (List.mem_of_getElem? (i := 2) rfl))) (mvT hZ (hw _ (List.mem_of_getElem? (i := 3) rfl))) (mvT hZ (hw _ (List.mem_of_getElem? (i := 4) rfl))) (by decide) (backOf (W := 0) (rm1 l Z a0 hw [] v1 h0 n0 Z0) hZ (hw _ (List.mem_of_getElem? (i := 4) rfl)) (hw _ (List.mem_of_getElem? (i := 3) rfl)) (by decide) (by decide)) (g := (mkF m 15 #[.val (.int p1), .val (.int p2), .val (.int v1), .val (.int v2), .unset, .unset, .unset, .unset, .unset] [(.int v1)])) rfl (by rw [hml]; rfl) (argsL := [(.int v1)]) (rest := []) (lenOf pd_0 rfl) rfl (by show 2 * 0 + _ ≤ _; exact Nat.le_of_eq rfl) (hb hby at_15) (fun _ _ => ⟨rfl, e0, (by decide : 0 + 0 ≤ _), (by decide : 0 + 0 ≤ _)⟩)
  dsimp only [Pt.U, Pt.locs, Pt.cells, Pt.slots] at X3 l3 y3 z3 st3 hQ3
  subst l3 y3 z3
  obtain ⟨rfl, Nq3, e3⟩ := hQ3
  have N3 := Fr.app N0 Nq3
  refine OutW.back st3 ?_
  show OutW _ _ _ _ _ _ _ (T3.setTop (mkF m 18 #[.val (.int p1), .val (.int p2), .val (.int v1), .val (.int v2), .unset, .unset, .unset, .unset, .unset] [(.long (highM v1))]))
  generalize hv_v4 : (highM v1) = v4
  refine OutW.back (fun t k => XS.lstore X3.here hx rfl (hb hby at_18) rfl (l' := #[.val (.int p1), .val (.int p2), .val (.int v1), .val (.int v2), .val (.long v4), .second, .unset, .unset, .unset]) rfl k) ?_
  show OutW _ _ _ _ _ _ _ (T3.setTop (mkF m 20 #[.val (.int p1), .val (.int p2), .val (.int v1), .val (.int v2), .val (.long v4), .second, .unset, .unset, .unset] []))
  refine OutW.back (fun t k => XS.lload X3.here hx rfl (hb hby at_20) rfl  k) ?_
  show OutW _ _ _ _ _ _ _ (T3.setTop (mkF m 22 #[.val (.int p1), .val (.int p2), .val (.int v1), .val (.int v2), .val (.long v4), .second, .unset, .unset, .unset] [(.long v4)]))
  refine OutW.back (fun t k => XS.bipush X3.here hx rfl (hb hby at_22) k) ?_
  show OutW _ _ _ _ _ _ _ (T3.setTop (mkF m 24 #[.val (.int p1), .val (.int p2), .val (.int v1), .val (.int v2), .val (.long v4), .second, .unset, .unset, .unset] [(.int (63 : Int32)), (.long v4)]))
  refine OutW.back (fun t k => XS.iloadN X3.here hx rfl (hb hby at_24) rfl  k) ?_
  show OutW _ _ _ _ _ _ _ (T3.setTop (mkF m 25 #[.val (.int p1), .val (.int p2), .val (.int v1), .val (.int v2), .val (.long v4), .second, .unset, .unset, .unset] [(.int v2), (.int (63 : Int32)), (.long v4)]))
  refine OutW.back (fun t k => XS.isub X3.here hx rfl (hb hby at_25) rfl k) ?_
  show OutW _ _ _ _ _ _ _ (T3.setTop (mkF m 26 #[.val (.int p1), .val (.int p2), .val (.int v1), .val (.int v2), .val (.long v4), .second, .unset, .unset, .unset] [(.int ((63 : Int32) - v2)), (.long v4)]))
  refine OutW.back (fun t k => XS.lushr X3.here hx rfl (hb hby at_26) rfl k) ?_
  show OutW _ _ _ _ _ _ _ (T3.setTop (mkF m 27 #[.val (.int p1), .val (.int p2), .val (.int v1), .val (.int v2), .val (.long v4), .second, .unset, .unset, .unset] [(.long ((v4.toUInt64 >>> (((63 : Int32) - v2) &&& 0x3f).toInt64.toUInt64).toInt64))]))
  refine OutW.back (fun t k => XS.lconst X3.here hx rfl (hb hby at_27) k) ?_
  show OutW _ _ _ _ _ _ _ (T3.setTop (mkF m 28 #[.val (.int p1), .val (.int p2), .val (.int v1), .val (.int v2), .val (.long v4), .second, .unset, .unset, .unset] [(.long (1 : Int64)), (.long ((v4.toUInt64 >>> (((63 : Int32) - v2) &&& 0x3f).toInt64.toUInt64).toInt64))]))
  refine OutW.back (fun t k => XS.land X3.here hx rfl (hb hby at_28) rfl k) ?_
  show OutW _ _ _ _ _ _ _ (T3.setTop (mkF m 29 #[.val (.int p1), .val (.int p2), .val (.int v1), .val (.int v2), .val (.long v4), .second, .unset, .unset, .unset] [(.long (((v4.toUInt64 >>> (((63 : Int32) - v2) &&& 0x3f).toInt64.toUInt64).toInt64) &&& (1 : Int64)))]))
  generalize hv_v5 : (((v4.toUInt64 >>> (((63 : Int32) - v2) &&& 0x3f).toInt64.toUInt64).toInt64) &&& (1 : Int64)) = v5
  refine OutW.back (fun t k => XS.lstore X3.here hx rfl (hb hby at_29) rfl (l' := #[.val (.int p1), .val (.int p2), .val (.int v1), .val (.int v2), .val (.long v4), .second, .val (.long v5), .second, .unset]) rfl k) ?_
  show OutW _ _ _ _ _ _ _ (T3.setTop (mkF m 31 #[.val (.int p1), .val (.int p2), .val (.int v1), .val (.int v2), .val (.long v4), .second, .val (.long v5), .second, .unset] []))
  refine OutW.back (fun t k => XS.iloadN X3.here hx rfl (hb hby at_31) rfl  k) ?_
  show OutW _ _ _ _ _ _ _ (T3.setTop (mkF m 32 #[.val (.int p1), .val (.int p2), .val (.int v1), .val (.int v2), .val (.long v4), .second, .val (.long v5), .second, .unset] [(.int v2)]))
  refine OutW.back (fun t k => XS.iloadN X3.here hx rfl (hb hby at_32) rfl  k) ?_
  show OutW _ _ _ _ _ _ _ (T3.setTop (mkF m 33 #[.val (.int p1), .val (.int p2), .val (.int v1), .val (.int v2), .val (.long v4), .second, .val (.long v5), .second, .unset] [(.int v1), (.int v2)]))
  obtain ⟨v7, hv_v7⟩ : ∃ z : Int32, z = (if v2 < v1 then (1 : Int32) else (0 : Int32)) := ⟨_, rfl⟩
  have j8 : ∀ t, Steps p.tables e below (T3.setTop (mkF m 41 #[.val (.int p1), .val (.int p2), .val (.int v1), .val (.int v2), .val (.long v4), .second, .val (.long v5), .second, .unset] [(.int v7)])) t → Steps p.tables e below (T3.setTop (mkF m 33 #[.val (.int p1), .val (.int p2), .val (.int v1), .val (.int v2), .val (.long v4), .second, .val (.long v5), .second, .unset] [(.int v1), (.int v2)])) t := by
    intro t k
    by_cases c33_9 : v2 < v1
    · skip
      refine XS.icmpNo X3.here hx rfl (hb hby at_33) rfl (tlt c33_9).2.1 ?_
      show Steps p.tables e below (T3.setTop (mkF m 36 #[.val (.int p1), .val (.int p2), .val (.int v1), .val (.int v2), .val (.long v4), .second, .val (.long v5), .second, .unset] [])) t
      refine XS.iconst X3.here hx rfl (hb hby at_36) ?_
      show Steps p.tables e below (T3.setTop (mkF m 37 #[.val (.int p1), .val (.int p2), .val (.int v1), .val (.int v2), .val (.long v4), .second, .val (.long v5), .second, .unset] [(.int (1 : Int32))])) t
      refine XS.goto X3.here hx rfl (pc0 := 37) (pc' := 41) rfl (hb hby at_37) (by decide) (by decide) ?_
      show Steps p.tables e below (T3.setTop (mkF m 41 #[.val (.int p1), .val (.int p2), .val (.int v1), .val (.int v2), .val (.long v4), .second, .val (.long v5), .second, .unset] [(.int (1 : Int32))])) t
      have q_v7 : v7 = (1 : Int32) := by rw [hv_v7, if_pos c33_9]
      rw [q_v7] at k
      exact k
    · skip
      refine XS.icmpYes X3.here hx rfl (pc0 := 33) (pc' := 40) rfl (hb hby at_33) rfl (flt c33_9).2.1 (by decide) (by decide) ?_
      show Steps p.tables e below (T3.setTop (mkF m 40 #[.val (.int p1), .val (.int p2), .val (.int v1), .val (.int v2), .val (.long v4), .second, .val (.long v5), .second, .unset] [])) t
      refine XS.iconst X3.here hx rfl (hb hby at_40) ?_
      show Steps p.tables e below (T3.setTop (mkF m 41 #[.val (.int p1), .val (.int p2), .val (.int v1), .val (.int v2), .val (.long v4), .second, .val (.long v5), .second, .unset] [(.int (0 : Int32))])) t
      have q_v7 : v7 = (0 : Int32) := by rw [hv_v7, if_neg c33_9]
      rw [q_v7] at k
      exact k
  refine OutW.back j8 ?_
  show OutW _ _ _ _ _ _ _ (T3.setTop (mkF m 41 #[.val (.int p1), .val (.int p2), .val (.int v1), .val (.int v2), .val (.long v4), .second, .val (.long v5), .second, .unset] [(.int v7)]))
  refine OutW.back (fun t k => XS.istore X3.here hx rfl (hb hby at_41) rfl (l' := #[.val (.int p1), .val (.int p2), .val (.int v1), .val (.int v2), .val (.long v4), .second, .val (.long v5), .second, .val (.int v7)]) rfl k) ?_
  show OutW _ _ _ _ _ _ _ (T3.setTop (mkF m 43 #[.val (.int p1), .val (.int p2), .val (.int v1), .val (.int v2), .val (.long v4), .second, .val (.long v5), .second, .val (.int v7)] []))
  refine OutW.back (fun t k => XS.lload X3.here hx rfl (hb hby at_43) rfl  k) ?_
  show OutW _ _ _ _ _ _ _ (T3.setTop (mkF m 45 #[.val (.int p1), .val (.int p2), .val (.int v1), .val (.int v2), .val (.long v4), .second, .val (.long v5), .second, .val (.int v7)] [(.long v5)]))
  refine OutW.back (fun t k => XS.lconst X3.here hx rfl (hb hby at_45) k) ?_
  show OutW _ _ _ _ _ _ _ (T3.setTop (mkF m 46 #[.val (.int p1), .val (.int p2), .val (.int v1), .val (.int v2), .val (.long v4), .second, .val (.long v5), .second, .val (.int v7)] [(.long (1 : Int64)), (.long v5)]))
  refine OutW.back (fun t k => XS.lcmp X3.here hx rfl (hb hby at_46) rfl k) ?_
  show OutW _ _ _ _ _ _ _ (T3.setTop (mkF m 47 #[.val (.int p1), .val (.int p2), .val (.int v1), .val (.int v2), .val (.long v4), .second, .val (.long v5), .second, .val (.int v7)] [(.int (lcmpW v5 (1 : Int64)))]))
  obtain ⟨v11, hv_v11⟩ : ∃ z : Int32, z = (if v5 = (1 : Int64) then (1 : Int32) else (0 : Int32)) := ⟨_, rfl⟩
  have j12 : ∀ t, Steps p.tables e below (T3.setTop (mkF m 55 #[.val (.int p1), .val (.int p2), .val (.int v1), .val (.int v2), .val (.long v4), .second, .val (.long v5), .second, .val (.int v7)] [(.int v11)])) t → Steps p.tables e below (T3.setTop (mkF m 47 #[.val (.int p1), .val (.int p2), .val (.int v1), .val (.int v2), .val (.long v4), .second, .val (.long v5), .second, .val (.int v7)] [(.int (lcmpW v5 (1 : Int64)))])) t := by
    intro t k
    by_cases c47_13 : v5 = (1 : Int64)
    · skip
      refine XS.ifNo X3.here hx rfl (hb hby at_47) rfl ((if0 _ _).trans (teq ((lw_eq _ _).mpr c47_13)).2) ?_
      show Steps p.tables e below (T3.setTop (mkF m 50 #[.val (.int p1), .val (.int p2), .val (.int v1), .val (.int v2), .val (.long v4), .second, .val (.long v5), .second, .val (.int v7)] [])) t
      refine XS.iconst X3.here hx rfl (hb hby at_50) ?_
      show Steps p.tables e below (T3.setTop (mkF m 51 #[.val (.int p1), .val (.int p2), .val (.int v1), .val (.int v2), .val (.long v4), .second, .val (.long v5), .second, .val (.int v7)] [(.int (1 : Int32))])) t
      refine XS.goto X3.here hx rfl (pc0 := 51) (pc' := 55) rfl (hb hby at_51) (by decide) (by decide) ?_
      show Steps p.tables e below (T3.setTop (mkF m 55 #[.val (.int p1), .val (.int p2), .val (.int v1), .val (.int v2), .val (.long v4), .second, .val (.long v5), .second, .val (.int v7)] [(.int (1 : Int32))])) t
      have q_v11 : v11 = (1 : Int32) := by rw [hv_v11, if_pos c47_13]
      rw [q_v11] at k
      exact k
    · skip
      refine XS.ifYes X3.here hx rfl (pc0 := 47) (pc' := 54) rfl (hb hby at_47) rfl ((if0 _ _).trans (feq (fun q => c47_13 ((lw_eq _ _).mp q))).2) (by decide) (by decide) ?_
      show Steps p.tables e below (T3.setTop (mkF m 54 #[.val (.int p1), .val (.int p2), .val (.int v1), .val (.int v2), .val (.long v4), .second, .val (.long v5), .second, .val (.int v7)] [])) t
      refine XS.iconst X3.here hx rfl (hb hby at_54) ?_
      show Steps p.tables e below (T3.setTop (mkF m 55 #[.val (.int p1), .val (.int p2), .val (.int v1), .val (.int v2), .val (.long v4), .second, .val (.long v5), .second, .val (.int v7)] [(.int (0 : Int32))])) t
      have q_v11 : v11 = (0 : Int32) := by rw [hv_v11, if_neg c47_13]
      rw [q_v11] at k
      exact k
  refine OutW.back j12 ?_
  show OutW _ _ _ _ _ _ _ (T3.setTop (mkF m 55 #[.val (.int p1), .val (.int p2), .val (.int v1), .val (.int v2), .val (.long v4), .second, .val (.long v5), .second, .val (.int v7)] [(.int v11)]))
  refine OutW.back (fun t k => XS.iload X3.here hx rfl (hb hby at_55) rfl  k) ?_
  show OutW _ _ _ _ _ _ _ (T3.setTop (mkF m 57 #[.val (.int p1), .val (.int p2), .val (.int v1), .val (.int v2), .val (.long v4), .second, .val (.long v5), .second, .val (.int v7)] [(.int v7), (.int v11)]))
  obtain ⟨v15, hv_v15⟩ : ∃ z : Int32, z = (if v11 = v7 then (1 : Int32) else (0 : Int32)) := ⟨_, rfl⟩
  have j16 : ∀ t, Steps p.tables e below (T3.setTop (mkF m 65 #[.val (.int p1), .val (.int p2), .val (.int v1), .val (.int v2), .val (.long v4), .second, .val (.long v5), .second, .val (.int v7)] [(.int v15)])) t → Steps p.tables e below (T3.setTop (mkF m 57 #[.val (.int p1), .val (.int p2), .val (.int v1), .val (.int v2), .val (.long v4), .second, .val (.long v5), .second, .val (.int v7)] [(.int v7), (.int v11)])) t := by
    intro t k
    by_cases c57_17 : v11 = v7
    · skip
      refine XS.icmpNo X3.here hx rfl (hb hby at_57) rfl (teq c57_17).2 ?_
      show Steps p.tables e below (T3.setTop (mkF m 60 #[.val (.int p1), .val (.int p2), .val (.int v1), .val (.int v2), .val (.long v4), .second, .val (.long v5), .second, .val (.int v7)] [])) t
      refine XS.iconst X3.here hx rfl (hb hby at_60) ?_
      show Steps p.tables e below (T3.setTop (mkF m 61 #[.val (.int p1), .val (.int p2), .val (.int v1), .val (.int v2), .val (.long v4), .second, .val (.long v5), .second, .val (.int v7)] [(.int (1 : Int32))])) t
      refine XS.goto X3.here hx rfl (pc0 := 61) (pc' := 65) rfl (hb hby at_61) (by decide) (by decide) ?_
      show Steps p.tables e below (T3.setTop (mkF m 65 #[.val (.int p1), .val (.int p2), .val (.int v1), .val (.int v2), .val (.long v4), .second, .val (.long v5), .second, .val (.int v7)] [(.int (1 : Int32))])) t
      have q_v15 : v15 = (1 : Int32) := by rw [hv_v15, if_pos c57_17]
      rw [q_v15] at k
      exact k
    · skip
      refine XS.icmpYes X3.here hx rfl (pc0 := 57) (pc' := 64) rfl (hb hby at_57) rfl (feq c57_17).2 (by decide) (by decide) ?_
      show Steps p.tables e below (T3.setTop (mkF m 64 #[.val (.int p1), .val (.int p2), .val (.int v1), .val (.int v2), .val (.long v4), .second, .val (.long v5), .second, .val (.int v7)] [])) t
      refine XS.iconst X3.here hx rfl (hb hby at_64) ?_
      show Steps p.tables e below (T3.setTop (mkF m 65 #[.val (.int p1), .val (.int p2), .val (.int v1), .val (.int v2), .val (.long v4), .second, .val (.long v5), .second, .val (.int v7)] [(.int (0 : Int32))])) t
      have q_v15 : v15 = (0 : Int32) := by rw [hv_v15, if_neg c57_17]
      rw [q_v15] at k
      exact k
  refine OutW.back j16 ?_
  show OutW _ _ _ _ _ _ _ (T3.setTop (mkF m 65 #[.val (.int p1), .val (.int p2), .val (.int v1), .val (.int v2), .val (.long v4), .second, .val (.long v5), .second, .val (.int v7)] [(.int v15)]))
  refine OutW.retN X3 hx (t := .boolean) (z' := 1) Bd.returns (by simp) hlk (hb hby at_65) ?hz (by decide) (by decide) ?_
  case hz =>
    have hfin : v15 = (1 : Int32) := by
      exact own_plain p1 p2 _ _ _ _ _ _ _ hv_v1 hv_v2 hv_v4 hv_v5 hv_v7 hv_v11 hv_v15
    rw [hfin]; rfl
  show Q0 Z p1 p2 h0 n0 _ T3.heap _
  rw [e3]
  exact ⟨rfl, N3⟩
set_option maxRecDepth 65536 in
set_option maxHeartbeats 40000000 in
theorem comes_1 {Post : Tables → Env → Array Value → State → Outcome → State → Prop} (hpost : ∀ tb e args s v u, (limb_1_1.after args s (.returned v) u = true ∧ limb_1_2.after args s (.returned v) u = true ∧ True) → FrameEnd s (.returned v) u (Jvm.fieldLocs frame_1_writes args s ++ Jvm.arrayLocs frame_1_arrays args s ++ Jvm.staticLocs frame_1_statics s) 0 0 → Post tb e args s (.returned v) u) :
    ArmFor flags0 classFile x code maxLocals ret World_1 tables_1 room_1 Calls_1 rest_1 Pre_1 Post := by
  intro l hfl _ _ p e ha hc hk s m args below hf hA hF happ hP
  obtain ⟨hcalls, hrest, hpre⟩ := hP
  obtain ⟨-, -, -, hnamed, -, -, -, hat⟩ := (Spec.applies_iff hf).mp happ
  obtain ⟨hg, hn⟩ := and_e (Cond.before_iff.mp (show (Jvm.Cond.and given_1 narrow_1).before args s = true from hpre))
  obtain ⟨hcount, hg0⟩ := and_e hg
  obtain ⟨ga0, hg1⟩ := and_e hg0
  have ga1 := hg1
  obtain ⟨w0, w1, rfl⟩ : ∃ w0 w1 : Value, args = #[w0, w1] := by
    have hs : args.size = 2 := by simpa [Cond.value, given_1] using hcount
    obtain ⟨L⟩ := args
    match L, hs with
    | [w0, w1], _ => exact ⟨w0, w1, rfl⟩
  have hw := fun d (hd : d ∈ tables_1) => atoms_spec (ws := Jvm.Cond.code x code maxLocals ret :: tables_1) hat d (List.mem_cons_of_mem _ hd)
  obtain ⟨i0, ei0⟩ := is_v ga0
  obtain rfl : w0 = (.int i0) := Option.some.inj ei0
  obtain ⟨i1, ei1⟩ := is_v ga1
  obtain rfl : w1 = (.int i1) := Option.some.inj ei1
  obtain ⟨n, o, h1, h2, h3, _, L, rfl, ⟨rfl, N⟩, hq⟩ := rm0 l s _ hw tables_1 i0 i1  s.heap s.heap.size (Nat.le_refl _)  p e ha hc hk s m _ below hf ((Spec.applies_iff_loose hf).mp happ).1 ⟨rfl, State.Warmed39.refl s, rfl⟩ trivial
  refine ⟨n, _, h1, h2, h3, hpost _ _ _ _ _ _ ⟨Cond.after_iff.mpr rfl, Cond.after_iff.mpr (eq_i res_at (Term.int_eval (1)) rfl), trivial⟩ ⟨hq.1, hq.2.1, (hq.2.2.sift fun y hy => Or.inr (N y hy)).mono (by decide) (by decide)⟩⟩
theorem main_1_1 : Claimed_1_1 := comes_1 fun _ _ _ _ _ _ h hF => ⟨h.1, hF⟩
theorem main_1_2 : Claimed_1_2 := comes_1 fun _ _ _ _ _ _ h hF => ⟨h.2.1, hF⟩
end Jvm.Pilot.@@N@@
namespace Jvm.Pilot.@@N@@
open Jvm Jvm.ClassFile Sem Op Lib Jvm.Free Jvm.Stand Jvm.Pilot.@@N@@.Jvm.D
/-! MADE BY PROGRAM (witnessworld.py) out of the Statement's table words and the real class files: 11 classes; the members and pool entries that the words name. The judged class is class 1, her method 1. -/
namespace start1
open Jvm.ClassFile
def u (s : String) : CpInfo := .utf8 (stringToUtf16 s)
/-- a pool by its gaps: so many unusable entries, then the entry; so many at the end -/
def gap : Nat → List CpInfo → List CpInfo
  | 0, r => r
  | n + 1, r => .unusable :: gap n r
def poolList (es : List (Nat × CpInfo)) (last : Nat) : List CpInfo := es.foldr (fun e r => gap e.1 (e.2 :: r)) (gap last [])
def pool (es : List (Nat × CpInfo)) (last : Nat) : Array CpInfo := ⟨poolList es last⟩
def fileOf (pool : Array CpInfo) (this : Nat) (attrs : Array Attribute := #[]) (ms : Array MethodInfo := #[]) (fl : Nat := 33) (sup : Nat := 0) (ifs : Array Nat := #[]) (fds : Array FieldInfo := #[]) : ClassFile where
  minorVersion := 0
  majorVersion := 65
  constantPool := pool
  accessFlags := fl
  thisClass := this
  superClass := sup
  interfaces := ifs
  fields := fds
  methods := ms
  attributes := attrs
def plain (name : String) (sup : Option ClassId) : Class where
  name := name
  kind := .ordinary
  loader := none
  accessFlags := 33
  super := sup
  interfaces := #[]
  cf := none
  fields := #[]
  methods := #[]
  instanceTypes := #[]
  staticTypes := #[]
  resolved := #[]
  callSites := []
  init := .initialized
  statics := none
  mirror := none

def pool0 : Array CpInfo := pool [(5, u "<init>"), (0, u "()V"), (1, .class_ 10), (1, u "java/lang/Object")] 113

def k0m0 : Method := { name := "<init>", desc := "()V", sig := { parameters := [], returnType := none }, accessFlags := 1, code := none }
/-- java/lang/Object -/
def k0 : Class := { plain "java/lang/Object" none with
  accessFlags := 33
  interfaces := #[]
  cf := some (fileOf pool0 8 #[] #[{ accessFlags := 1, nameIndex := 5, descriptorIndex := 6, attributes := #[] }] 33 0 #[] #[])
  fields := #[]
  methods := #[k0m0]
  instanceTypes := #[]
  staticTypes := #[]
  resolved := Array.replicate 124 none
  statics := none }

def pool1 : Array CpInfo := pool [(2, .class_ 4), (1, u "java/lang/Object"), (0, u "<init>"), (0, u "()V"), (0, .integer 2147483647), (0, .methodref 9 10), (0, .class_ 11), (0, .nameAndType 12 13), (0, u "com/example/nearpath/nearpath/Address"), (0, u "highMask"), (0, u "(I)J"), (0, .class_ 15), (0, u "com/example/nearpath/nearpath/AddressHighMaskPinLaw"), (2, u "law"), (0, u "(II)Z")] 3

def k1m0 : Method := { name := "<init>", desc := "()V", sig := { parameters := [], returnType := none }, accessFlags := 1, code := none }
def k1c1 : Code := { maxStack := 4, maxLocals := 9, code := code, exceptionTable := #[], attributes := #[] }
def k1m1 : Method := { name := "law", desc := "(II)Z", sig := { parameters := [.int, .int], returnType := some .boolean }, accessFlags := 9, code := some k1c1 }
/-- com/example/nearpath/nearpath/AddressHighMaskPinLaw -/
def k1 : Class := { plain "com/example/nearpath/nearpath/AddressHighMaskPinLaw" (some 0) with
  accessFlags := 49
  interfaces := #[]
  cf := some (fileOf pool1 14 #[] #[{ accessFlags := 1, nameIndex := 5, descriptorIndex := 6, attributes := #[] }, { accessFlags := 9, nameIndex := 18, descriptorIndex := 19, attributes := #[] }] 49 2 #[] #[])
  fields := #[]
  methods := #[k1m0, k1m1]
  instanceTypes := #[]
  staticTypes := #[]
  resolved := Array.replicate 23 none
  statics := none }

def pool2 : Array CpInfo := pool [(2, .class_ 4), (1, u "java/lang/Object"), (0, u "<init>"), (0, u "()V"), (0, .class_ 8), (0, u "java/lang/Record")] 13

def k2m0 : Method := { name := "<init>", desc := "()V", sig := { parameters := [], returnType := none }, accessFlags := 4, code := none }
/-- java/lang/Record -/
def k2 : Class := { plain "java/lang/Record" (some 0) with
  accessFlags := 1057
  interfaces := #[]
  cf := some (fileOf pool2 7 #[] #[{ accessFlags := 4, nameIndex := 5, descriptorIndex := 6, attributes := #[] }] 1057 2 #[] #[])
  fields := #[]
  methods := #[k2m0]
  instanceTypes := #[]
  staticTypes := #[]
  resolved := Array.replicate 22 none
  statics := none }

def pool3 : Array CpInfo := pool [(1, .class_ 2), (0, u "java/lang/Comparable"), (0, .class_ 4), (0, u "java/lang/Object")] 7

/-- java/lang/Comparable -/
def k3 : Class := { plain "java/lang/Comparable" (some 0) with
  accessFlags := 1537
  interfaces := #[]
  cf := some (fileOf pool3 1 #[] #[] 1537 3 #[] #[])
  fields := #[]
  methods := #[]
  instanceTypes := #[]
  staticTypes := #[]
  resolved := Array.replicate 12 none
  statics := none }

def pool4 : Array CpInfo := pool [(2, .class_ 4), (1, u "java/lang/Record"), (3, .class_ 10), (1, u "com/example/nearpath/nearpath/Address"), (0, u "type"), (0, u "Lcom/example/nearpath/nearpath/AddressType;"), (2, u "high"), (0, u "J"), (2, u "low"), (87, u "highMask"), (0, u "(I)J"), (3, .long 18446744073709551615), (39, .class_ 153), (0, u "java/lang/Comparable"), (0, u "IPV4_OCTETS"), (0, u "I"), (2, u "IPV6_GROUPS"), (1, u "HEX_DIGITS_PER_GROUP"), (0, u "GAP"), (0, u "Ljava/lang/String;")] 39

def k4c0 : Code := { maxStack := 4, maxLocals := 3, code := prog_1_method_9_code, exceptionTable := #[], attributes := #[] }
def k4m0 : Method := { name := "highMask", desc := "(I)J", sig := { parameters := [.int], returnType := some .long }, accessFlags := 8, code := some k4c0 }
/-- com/example/nearpath/nearpath/Address -/
def k4 : Class := { plain "com/example/nearpath/nearpath/Address" (some 2) with
  accessFlags := 48
  interfaces := #[3]
  cf := some (fileOf pool4 8 #[] #[{ accessFlags := 8, nameIndex := 107, descriptorIndex := 108, attributes := #[] }] 48 2 #[152] #[{ accessFlags := 18, nameIndex := 11, descriptorIndex := 12, attributes := #[] }, { accessFlags := 18, nameIndex := 15, descriptorIndex := 16, attributes := #[] }, { accessFlags := 18, nameIndex := 19, descriptorIndex := 16, attributes := #[] }, { accessFlags := 26, nameIndex := 154, descriptorIndex := 155, attributes := #[] }, { accessFlags := 26, nameIndex := 158, descriptorIndex := 155, attributes := #[] }, { accessFlags := 26, nameIndex := 160, descriptorIndex := 155, attributes := #[] }, { accessFlags := 26, nameIndex := 161, descriptorIndex := 162, attributes := #[] }])
  fields := #[{ name := "type", type := (.object "com/example/nearpath/nearpath/AddressType"), accessFlags := 18, slot := 0, constantValue := 0 }, { name := "high", type := .long, accessFlags := 18, slot := 1, constantValue := 0 }, { name := "low", type := .long, accessFlags := 18, slot := 2, constantValue := 0 }, { name := "IPV4_OCTETS", type := .int, accessFlags := 26, slot := 0, constantValue := 0 }, { name := "IPV6_GROUPS", type := .int, accessFlags := 26, slot := 1, constantValue := 0 }, { name := "HEX_DIGITS_PER_GROUP", type := .int, accessFlags := 26, slot := 2, constantValue := 0 }, { name := "GAP", type := (.object "java/lang/String"), accessFlags := 26, slot := 3, constantValue := 0 }]
  methods := #[k4m0]
  instanceTypes := #[(.object "com/example/nearpath/nearpath/AddressType"), .long, .long]
  staticTypes := #[.int, .int, .int, (.object "java/lang/String")]
  resolved := Array.replicate 202 none
  statics := none }

def pool5 : Array CpInfo := pool [(1, u "java/lang/Cloneable"), (0, .class_ 1), (0, u "java/lang/Object"), (0, .class_ 3)] 3

/-- java/lang/Cloneable -/
def k5 : Class := { plain "java/lang/Cloneable" (some 0) with
  accessFlags := 1537
  interfaces := #[]
  cf := some (fileOf pool5 2 #[] #[] 1537 4 #[] #[])
  fields := #[]
  methods := #[]
  instanceTypes := #[]
  staticTypes := #[]
  resolved := Array.replicate 8 none
  statics := none }

def pool6 : Array CpInfo := pool [(1, u "java/io/Serializable"), (0, .class_ 1), (0, u "java/lang/Object"), (0, .class_ 3)] 3

/-- java/io/Serializable -/
def k6 : Class := { plain "java/io/Serializable" (some 0) with
  accessFlags := 1537
  interfaces := #[]
  cf := some (fileOf pool6 2 #[] #[] 1537 4 #[] #[])
  fields := #[]
  methods := #[]
  instanceTypes := #[]
  staticTypes := #[]
  resolved := Array.replicate 8 none
  statics := none }

/-- the primitive byte -/
def k7 : Class := { plain "byte" none with kind := .primitive 'B', accessFlags := 0x411 }
/-- [B -/
def k8 : Class := { plain "[B" (some 0) with kind := .array 7 .byte, interfaces := #[5, 6], accessFlags := 1041 }

/-- the primitive int -/
def k9 : Class := { plain "int" none with kind := .primitive 'I', accessFlags := 0x411 }
/-- [I -/
def k10 : Class := { plain "[I" (some 0) with kind := .array 9 .int, interfaces := #[5, 6], accessFlags := 1041 }

def heap : Heap := #[]
def classes : Array Class := #[k0, k1, k2, k3, k4, k5, k6, k7, k8, k9, k10]
def interned : List (Array UInt16 × Addr) := []
def slotsUsed : Nat := 0
def theMethod : MethodId := ⟨1, 1⟩
def args0 : Array Value := #[.int 5, .int 6]
def aboutOver (below : List Frame) : State where
  vm := { classes := classes, interned := interned.toArray }
  heap := heap
  slotsUsed := slotsUsed
  threads := #[{ frames := .invoking theMethod args0 :: below }]
def below0 : List Frame := [.native { method := ⟨0, 0⟩, args := #[] }]
def about1 : State := aboutOver below0
def p0 : Program := .bare "" "" ""
def e0 : Env := launch0.env 0 0 0
theorem w_frames : about1.frames = Frame.invoking theMethod args0 :: below0 := rfl
set_option maxRecDepth 65536 in
theorem w_args : argsFit about1.vm theMethod args0 = true := by decide +kernel
set_option maxRecDepth 65536 in
theorem w_heap : heapFits about1 = true := by decide +kernel
set_option maxRecDepth 65536 in
theorem w_runnable : about1.curStatus? = some .runnable := by decide +kernel
set_option maxRecDepth 65536 in
theorem w_alone : about1.alone = true := by decide +kernel
set_option maxRecDepth 65536 in
theorem w_named : about1.methodNamed? x = some theMethod := by decide +kernel
set_option maxRecDepth 65536 in
theorem w_hears : about1.hears theMethod below0 = true := by decide +kernel
set_option maxRecDepth 65536 in
theorem w_ripe : about1.ripe theMethod args0 below0 = true := by decide +kernel
theorem w_running : about1.status = .running := rfl
set_option maxRecDepth 65536 in
theorem w_room : about1.hasRoom e0.platform room_1 = true :=
  launch0.hasRoom_least _ room_1 (by decide +kernel) (by decide +kernel) (by decide +kernel) (by decide +kernel) (by decide +kernel) (by decide +kernel)
theorem allAtoms_all (ts : List Jvm.Cond) (a : Array Jvm.Value) (st : Jvm.State) : (allAtoms ts).before a st = ts.all (fun c => c.before a st) := by
  induction ts with
  | nil => rfl
  | cons c t ih =>
    show (Jvm.Cond.and c (allAtoms t)).before a st = _
    rw [Jvm.Cond.before_and, ih, List.all_cons]
def words1 : List Jvm.Cond := Jvm.Cond.code x code maxLocals ret :: tables_1
/-- a 'code' word, met by the world's own term for the bytes: nothing is compared byte by byte -/
theorem code_word {y : MethodName} {bytes : ByteArray} {mx : Nat} {rt : Option FieldType} {a : Array Value} {s : State} {m : MethodId} {meth : Method} {c : Code} (h1 : s.methodNamed? y = some m) (h2 : s.vm.method? m = some meth) (h3 : meth.code = some c) (h4 : c.code = bytes)
    (h5 : (c.maxLocals == mx && c.exceptionTable.isEmpty && decide (c.maxStack ≤ mostOperands) && decide (meth.sig.returnType = rt) && !meth.locks && decide (parseMethodDescriptor y.desc = some meth.sig)) = true) : (Jvm.Cond.code y bytes mx rt).before a s = true := by
  simp only [Bool.and_eq_true, beq_iff_eq, Bool.not_eq_true', decide_eq_true_eq] at h5
  obtain ⟨⟨⟨⟨⟨g1, g2⟩, g3⟩, g4⟩, g5⟩, g6⟩ := h5
  simp [Cond.before, Cond.holds, Cond.value, h1, h2, h3, h4, g1, g2, g3, g4, g5, g6]
def isCode : Jvm.Cond → Bool
  | .code _ _ _ _ => true
  | _ => false
theorem all_split {L : List Jvm.Cond} {P : Jvm.Cond → Bool} (h1 : L.all (fun c => isCode c || P c) = true) (h2 : ∀ c ∈ L.filter isCode, P c = true) : L.all P = true := by
  refine List.all_eq_true.mpr fun c hc => ?_
  have h := List.all_eq_true.mp h1 c hc
  rcases Bool.eq_false_or_eq_true (isCode c) with hi | hi
  · exact h2 c (List.mem_filter.mpr ⟨hc, hi⟩)
  · simpa [hi] using h
set_option maxRecDepth 65536 in
theorem w_c0 : (Jvm.Cond.code x code maxLocals ret).before args0 about1 = true := code_word (m := ⟨1, 1⟩) (meth := k1m1) (c := k1c1) (by decide +kernel) rfl rfl rfl (by decide +kernel)
set_option maxRecDepth 65536 in
theorem w_c1 : (Jvm.Cond.code ({ cls := "com/example/nearpath/nearpath/Address", name := "highMask", desc := "(I)J" } : Jvm.MethodName) prog_1_method_9_code (3 : Nat) (Option.some Jvm.ClassFile.FieldType.long)).before args0 about1 = true := code_word (m := ⟨4, 0⟩) (meth := k4m0) (c := k4c0) (by decide +kernel) rfl rfl rfl (by decide +kernel)
def codes1 : List Jvm.Cond := [Jvm.Cond.code x code maxLocals ret, Jvm.Cond.code ({ cls := "com/example/nearpath/nearpath/Address", name := "highMask", desc := "(I)J" } : Jvm.MethodName) prog_1_method_9_code (3 : Nat) (Option.some Jvm.ClassFile.FieldType.long)]
set_option maxRecDepth 65536 in
theorem codes_eq : words1.filter isCode = codes1 := rfl
theorem w_codes : ∀ c ∈ words1.filter isCode, c.before args0 about1 = true := by
  rw [codes_eq]
  intro c hc
  simp only [codes1, List.mem_cons, List.not_mem_nil, or_false] at hc
  rcases hc with rfl | rfl
  · exact w_c0
  · exact w_c1
set_option maxRecDepth 65536 in
theorem w_t1 : words1.all (fun c => isCode c || c.before args0 about1) = true := by decide +kernel
theorem w_tables : (allAtoms (Jvm.Cond.code x code maxLocals ret :: tables_1)).before args0 about1 = true := by
  rw [allAtoms_all]
  show words1.all (fun c => c.before args0 about1) = true
  refine all_split ?_ w_codes
  rw [w_t1]
set_option maxRecDepth 65536 in
theorem w_case : (Jvm.Cond.and given_1 narrow_1).before args0 about1 = true := by decide +kernel
theorem w_applies : (headSpec (Jvm.Cond.code x code maxLocals ret :: tables_1) room_1).applies x e0.platform about1 = true :=
  (Spec.applies_iff w_frames).mpr ⟨w_running, w_runnable, w_alone, w_named, w_hears, w_ripe, w_room, w_tables⟩
theorem atStart : AtStart classFile x code maxLocals ret World_1 tables_1 room_1 Calls_1 rest_1 Pre_1 launch0 p0 e0 about1 theMethod args0 below0 :=
  ⟨lists_1, trivial, launch0.admits_env _ _ _, launch0.least_env, fairChoices_fair.cas, fairChoices_fair.clock, w_frames, w_args, w_heap, w_applies, trivial, trivial, w_case⟩
end start1
theorem witness_1 : WitnessClaimed_1 := ⟨start1.p0, start1.e0, start1.about1, start1.theMethod, start1.args0, start1.below0, start1.atStart⟩
end Jvm.Pilot.@@N@@
