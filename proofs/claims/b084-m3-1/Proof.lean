import JvmDerived
import JvmDerived.Pilot.@@N@@Statement
import JvmDerived.Pilot.@@N@@Code
set_option linter.unusedVariables false
set_option linter.unusedSimpArgs false
namespace Jvm.RoadKit
open Sem ClassFile Op Lib Jvm.Stand Jvm.Free Jvm.LawKit
section Own
variable {p : Program} {l : Launch} {e : Env} {R : Room} {s : State} {m : MethodId} {args : Array Value} {below : List Frame} {meth : Method} {c : Code} {T A B : State} {locs : List Loc} {cells slots K N : Nat} {Q : Option Value → Heap → List Loc → Prop}
/-- from A the walk comes to its end, and Q holds there -/
def OutW (p : Program) (e : Env) (below : List Frame) (s : State) (K N : Nat) (Q : Option Value → Heap → List Loc → Prop) (A : State) : Prop :=
  ∃ s₂ o, Steps p.tables e below A s₂ ∧ s₂.status = .running ∧ Ended s₂ below o ∧ ∃ v L, o = .returned v ∧ Q v s₂.heap L ∧ FrameEnd s o s₂ L K N
/-- a body that writes nothing: what it returns -/
def Qpure (h0 : Heap) (n0 : Nat) (r : Value) (v : Option Value) (h : Heap) (L : List Loc) : Prop := v = some r ∧ Fr n0 L ∧ h = h0
theorem OutW.back (h : ∀ t, Steps p.tables e below B t → Steps p.tables e below A t) (k : OutW p e below s K N Q B) : OutW p e below s K N Q A := by
  obtain ⟨t, o, h1, h2⟩ := k
  exact ⟨t, o, h t h1, h2⟩
theorem OutW.via (h : Steps p.tables e below A B) (k : OutW p e below s K N Q B) : OutW p e below s K N Q A := by
  obtain ⟨t, o, h1, h2⟩ := k
  exact ⟨t, o, h.trans h1, h2⟩
theorem OutW.retV (X : Stand p l e R s m args below meth c T locs cells slots) (hx : p.tables.exec = Jvm.exec) {pc : Nat} {Ls : Array Slot} (hret : meth.sig.returnType = none) (hlk : meth.locks = false) (hd : decode c.code pc = .ok (.return_, 1))
    (hK : cells ≤ K) (hN : slots ≤ N) (hq : Q none T.heap locs) : OutW p e below s K N Q (T.setTop (mkF m pc Ls [])) := by
  obtain ⟨fs, hr, hrun, hended, hW, hsame⟩ := X.leave (v := none) (fun _ => rfl) hlk
  exact ⟨_, _, X.returnOut hx hret hd hr, hrun, hended, _, _, rfl, hq, ⟨_, rfl⟩, hW, hsame.mono hK hN⟩
theorem OutW.retI (X : Stand p l e R s m args below meth c T locs cells slots) (hx : p.tables.exec = Jvm.exec) {pc : Nat} {Ls : Array Slot} {z : Int32} {rest : List Value} (hret : meth.sig.returnType = some .int) (hlk : meth.locks = false) (hd : decode c.code pc = .ok (.ireturn, 1))
    (hK : cells ≤ K) (hN : slots ≤ N) (hq : Q (some (.int z)) T.heap locs) : OutW p e below s K N Q (T.setTop (mkF m pc Ls (.int z :: rest))) := by
  obtain ⟨fs, hr, hrun, hended, hW, hsame⟩ := X.leave (v := some (.int z)) (fun h => by rw [hret] at h; cases h) hlk
  exact ⟨_, _, retOut X hx hret rfl (Or.inl ⟨rfl, Or.inl rfl, z, rfl⟩) hd hr, hrun, hended, _, _, rfl, hq, ⟨_, rfl⟩, hW, hsame.mono hK hN⟩
theorem OutW.retJ (X : Stand p l e R s m args below meth c T locs cells slots) (hx : p.tables.exec = Jvm.exec) {pc : Nat} {Ls : Array Slot} {z : Int64} {rest : List Value} (hret : meth.sig.returnType = some .long) (hlk : meth.locks = false) (hd : decode c.code pc = .ok (.lreturn, 1))
    (hK : cells ≤ K) (hN : slots ≤ N) (hq : Q (some (.long z)) T.heap locs) : OutW p e below s K N Q (T.setTop (mkF m pc Ls (.long z :: rest))) := by
  obtain ⟨fs, hr, hrun, hended, hW, hsame⟩ := X.leave (v := some (.long z)) (fun h => by rw [hret] at h; cases h) hlk
  exact ⟨_, _, retOut X hx hret rfl (Or.inr (Or.inl ⟨rfl, rfl, z, rfl⟩)) hd hr, hrun, hended, _, _, rfl, hq, ⟨_, rfl⟩, hW, hsame.mono hK hN⟩
theorem nar_ref {t : FieldType} {v : Value} (h : v.isRef = true) : narrow t v = v := by
  rcases ref_cases h with rfl | ⟨a, rfl⟩ <;> cases t <;> rfl
theorem cat_ref {v : Value} (h : v.isRef = true) : v.category = 1 := by
  rcases ref_cases h with rfl | ⟨a, rfl⟩ <;> rfl
theorem fit_ref {t : FieldType} {v : Value} (ht : refKind t = true) (h : v.isRef = true) : fits t v = true := by
  rcases ref_cases h with rfl | ⟨a, rfl⟩ <;> cases t <;> first | rfl | (simp [refKind] at ht)
theorem OutW.retA (X : Stand p l e R s m args below meth c T locs cells slots) (hx : p.tables.exec = Jvm.exec) {pc : Nat} {Ls : Array Slot} {w : Value} {t : FieldType} {rest : List Value} (hret : meth.sig.returnType = some t) (ht : t.isReference = true) (hw : w.isRef = true) (hlk : meth.locks = false) (hd : decode c.code pc = .ok (.areturn, 1))
    (hK : cells ≤ K) (hN : slots ≤ N) (hq : Q (some w) T.heap locs) : OutW p e below s K N Q (T.setTop (mkF m pc Ls (w :: rest))) := by
  obtain ⟨fs, hr, hrun, hended, hW, hsame⟩ := X.leave (v := some w) (fun h => by rw [hret] at h; cases h) hlk
  exact ⟨_, _, retOut X hx hret (nar_ref hw) (Or.inr (Or.inr (Or.inr (Or.inr ⟨rfl, ht, hw⟩)))) hd hr, hrun, hended, _, _, rfl, hq, ⟨_, rfl⟩, hW, hsame.mono hK hN⟩
theorem OutW.retN (X : Stand p l e R s m args below meth c T locs cells slots) (hx : p.tables.exec = Jvm.exec) {pc : Nat} {Ls : Array Slot} {z z' : Int32} {t : FieldType} {rest : List Value} (hret : meth.sig.returnType = some t) (ht : t = .boolean ∨ t = .byte ∨ t = .char ∨ t = .short) (hlk : meth.locks = false) (hd : decode c.code pc = .ok (.ireturn, 1)) (hz : nar t z = z')
    (hK : cells ≤ K) (hN : slots ≤ N) (hq : Q (some (.int z')) T.heap locs) : OutW p e below s K N Q (T.setTop (mkF m pc Ls (.int z :: rest))) := by
  subst hz
  obtain ⟨fs, hr, hrun, hended, hW, hsame⟩ := X.leave (v := some (.int (nar t z))) (fun h => by rw [hret] at h; cases h) hlk
  exact ⟨_, _, Jvm.RoadKit.retN X hx hret ht hd hr, hrun, hended, _, _, rfl, hq, ⟨_, rfl⟩, hW, hsame.mono hK hN⟩
theorem store1' {L L' : Array Slot} {i : Nat} {v : Value} {o : Slot} (hold : L[i]? = some o) (ho : One o) (hv : v.category = 1) (h : L.setIfInBounds i (.val v) = L') : storeLocals L i v = some L' := h ▸ XS.store1 hold ho hv
theorem own_lt_mono {x a b : Int32} (h : x < a) (q : a ≤ b) : x < b := by
  rw [Int32.lt_iff_toInt_lt] at *
  rw [Int32.le_iff_toInt_le] at q
  omega
theorem own_nlt_mono {x a b : Int32} (h : ¬ x < a) (q : b ≤ a) : ¬ x < b := by
  rw [Int32.lt_iff_toInt_lt] at *
  rw [Int32.le_iff_toInt_le] at q
  omega
/-- every element of the array's cell is an object of exactly that class -/
def Els (Z : State) (h : Heap) (cl : Cell) (C : String) : Prop := ∀ j : Int32, ¬ (j < 0 ∨ cl.slots.size ≤ j.toNatClampNeg) → ∃ y : Addr, cl.slots[j.toNatClampNeg]? = some (.ref y) ∧ Exa Z h y C
theorem own_Uext {Z : State} {h h' : Heap} {cl : Cell} {C : String} (U : Els Z h cl C) (E : Ext h h') : Els Z h' cl C := fun j hj => by
  obtain ⟨y, a, b⟩ := U j hj
  exact ⟨y, a, b.ext E⟩
theorem own_Uwr {Z : State} {h h' : Heap} {cl : Cell} {C : String} {a : Addr} {sl : Nat} {v : Value} (U : Els Z h cl C) (W : Wr h h' a sl v) : Els Z h' cl C := fun j hj => by
  obtain ⟨y, q, b⟩ := U j hj
  exact ⟨y, q, b.wr W⟩
theorem own_Ukeep {Z : State} {h h' : Heap} {cl : Cell} {C : String} {ws : List Addr} (U : Els Z h cl C) (K : Keep h h' ws) : Els Z h' cl C := fun j hj => by
  obtain ⟨y, a, b⟩ := U j hj
  exact ⟨y, a, b.keep K⟩
theorem own_Akeep {Z : State} {h h' : Heap} {a : Addr} {c : Cell} {ty : FieldType} {ws : List Addr} (A : Arr Z h a c ty) (K : Keep h h' ws) (q : a ∉ ws) : Arr Z h' a c ty := ⟨K.2.1 a c A.1 q, A.2⟩
theorem own_keepS {Z : State} {h h' : Heap} {C n d : String} {v : Value} {ws : List Addr} (F : Sta Z h C n d v) (K : Keep h h' ws) (q : ∀ x ∈ ws, ∃ C', Exa Z h x C') : Sta Z h' C n d v := by
  obtain ⟨cf, i, k, f, st, cell, h1, h2, h3, h4, h5, h6, h7⟩ := F
  have ne : st ∉ ws := fun hm => by
    obtain ⟨C', c', k', e1, -, -, e4, -⟩ := q st hm
    cases h5.symm.trans e1
    rw [h6] at e4; cases e4
  exact ⟨cf, i, k, f, st, cell, h1, h2, h3, h4, K.2.1 _ _ h5 ne, h6, h7⟩
end Own
end Jvm.RoadKit
namespace Jvm.Pilot.@@N@@
open Jvm Jvm.ClassFile Sem Op Lib Jvm.Free Jvm.Stand Jvm.LawKit Jvm.RoadKit Bundle Jvm.Pilot.@@N@@.Jvm.D
theorem own_fldI {args : Array Value} {s : State} {t : Term} {x : Addr} {C n dd : String} {k : Int32} (ht : t.eval args s none [] s = some (.ref x)) (h : (Jvm.Cond.eq (.field t C n dd) (.int k)).value args s none s [] = some true) : Fld s s.heap x C n dd (.int k) := by
  simp only [Cond.value, fld_at ht, Term.int_eval] at h
  cases hf : s.fieldOf? x C n dd with
  | none => simp [hf] at h
  | some u =>
    cases u <;> simp [hf] at h
    subst h
    exact Fld.start hf
theorem own_fldR {args : Array Value} {s : State} {t t' : Term} {x y : Addr} {C n dd : String} (ht : t.eval args s none [] s = some (.ref x)) (ht' : t'.eval args s none [] s = some (.ref y)) (h : (Jvm.Cond.eq (.field t C n dd) t').value args s none s [] = some true) : Fld s s.heap x C n dd (.ref y) := by
  simp only [Cond.value, fld_at ht, ht'] at h
  cases hf : s.fieldOf? x C n dd with
  | none => simp [hf] at h
  | some u =>
    cases u <;> simp [hf] at h
    subst h
    exact Fld.start hf
theorem own_fldN {args : Array Value} {s : State} {t : Term} {x : Addr} {C n dd : String} (ht : t.eval args s none [] s = some (.ref x)) (h : (Jvm.Cond.eq (.field t C n dd) .null).value args s none s [] = some true) : Fld s s.heap x C n dd .null := by
  have q := null_v h
  rw [fld_at ht] at q
  exact Fld.start q
def namesR (a1 : Addr) (k_KILLS : Addr) (k_DIES : Addr) (k_BOTHDIE : Addr) : Int32 := (if a1 = k_KILLS then (1 : Int32) else (if a1 = k_DIES then (1 : Int32) else (if a1 = k_BOTHDIE then (1 : Int32) else (0 : Int32))))
theorem d1_0 : decode prog_61_method_4_code 0 = .ok (.aload_n 0, 1) := by decide +kernel
theorem d1_1 : decode prog_61_method_4_code 1 = .ok (.getstatic 7, 3) := by decide +kernel
theorem d1_4 : decode prog_61_method_4_code 4 = .ok (.if_acmp .eq 17, 3) := by decide +kernel
theorem d1_7 : decode prog_61_method_4_code 7 = .ok (.aload_n 0, 1) := by decide +kernel
theorem d1_8 : decode prog_61_method_4_code 8 = .ok (.getstatic 10, 3) := by decide +kernel
theorem d1_11 : decode prog_61_method_4_code 11 = .ok (.if_acmp .eq 10, 3) := by decide +kernel
theorem d1_14 : decode prog_61_method_4_code 14 = .ok (.aload_n 0, 1) := by decide +kernel
theorem d1_15 : decode prog_61_method_4_code 15 = .ok (.getstatic 13, 3) := by decide +kernel
theorem d1_18 : decode prog_61_method_4_code 18 = .ok (.if_acmp .ne 7, 3) := by decide +kernel
theorem d1_21 : decode prog_61_method_4_code 21 = .ok (.iconst 1, 1) := by decide +kernel
theorem d1_22 : decode prog_61_method_4_code 22 = .ok (.goto 4, 3) := by decide +kernel
theorem d1_25 : decode prog_61_method_4_code 25 = .ok (.iconst 0, 1) := by decide +kernel
theorem d1_26 : decode prog_61_method_4_code 26 = .ok (.ireturn, 1) := by decide +kernel
theorem pn_1 : plainName "com/example/fogline/fogline/rules/Outcome$Kind" = true := by first | (simp [plainName, overriddenIn]; done) | decide +kernel
theorem ef_1 (m : MethodId) (x0 : Addr) : entryFrame m #[(.ref x0)] 1 = mkF m 0 #[.val (.ref x0)] [] := by first | (simp [entryFrame, mkF, argsToLocals, Value.category]; done) | rfl
def Q1 (Z : State) (a1 : Addr) (k_KILLS : Addr) (k_DIES : Addr) (k_BOTHDIE : Addr) (h0 : Heap) (n0 : Nat) (v : Option Value) (h : Heap) (L : List Loc) : Prop := v = some (.int (namesR a1 k_KILLS k_DIES k_BOTHDIE)) ∧ Fr n0 L ∧ h = h0
set_option maxRecDepth 65536 in
set_option maxHeartbeats 40000000 in
theorem rm1 (l : Launch) (Z : State) (a0 : Array Value) (hw : ∀ d ∈ tables_1, d.before a0 Z = true) (ws : List Jvm.Cond) (a1 : Addr) (k_KILLS : Addr) (k_DIES : Addr) (k_BOTHDIE : Addr) (h0 : Heap) (n0 : Nat) (Z0 : n0 ≤ h0.size) (S_KILLS : Sta Z h0 "com/example/fogline/fogline/rules/Outcome$Kind" "KILLS" "Lcom/example/fogline/fogline/rules/Outcome$Kind;" (.ref k_KILLS)) (S_DIES : Sta Z h0 "com/example/fogline/fogline/rules/Outcome$Kind" "DIES" "Lcom/example/fogline/fogline/rules/Outcome$Kind;" (.ref k_DIES)) (S_BOTHDIE : Sta Z h0 "com/example/fogline/fogline/rules/Outcome$Kind" "BOTHDIE" "Lcom/example/fogline/fogline/rules/Outcome$Kind;" (.ref k_BOTHDIE)) :
    MetFree l (⟨"com/example/fogline/fogline/rules/Outcome$Kind", "namesRanks", "()Z"⟩ : MethodName) (head1 (Jvm.Cond.code (⟨"com/example/fogline/fogline/rules/Outcome$Kind", "namesRanks", "()Z"⟩ : MethodName) prog_61_method_4_code 1 (some .boolean) :: ws) ({ frames := 0, cells := 0, slots := 0, locals := 0 } : Room)) (fun a U => a = #[(.ref a1)] ∧ Z.Warmed39 U.vm ∧ U.heap = h0) (fun _ _ _ _ _ => True) (fun _ U o U' => ∃ v L, o = .returned v ∧ Q1 Z a1 k_KILLS k_DIES k_BOTHDIE h0 n0 v U'.heap L ∧ FrameEnd U o U' L ({ frames := 0, cells := 0, slots := 0, locals := 0 } : Room).cells ({ frames := 0, cells := 0, slots := 0, locals := 0 } : Room).slots) := by
  refine MetFree.of_bodySF (plainFor_of_name pn_1) hisR ?_
  intro p e s m args below meth c s₁ Bd hml0 hP hK
  obtain ⟨rfl, hZ, hh⟩ := hP
  have hx := Bd.exec
  have hby := Bd.bytes
  have hlk := Bd.notSynchronized
  have hml : c.maxLocals = 1 := hml0
  have hown : s.vm.findClass "com/example/fogline/fogline/rules/Outcome$Kind" = some m.cls := findClass_of_methodNamed Bd.named
  have hnm := (name_of_methodNamed Bd.named Bd.method).1
  have X0 : Stand p l e ({ frames := 0, cells := 0, slots := 0, locals := 0 } : Room) s m #[(.ref a1)] below meth c s₁ [] 0 0 := Stand.of_body Bd
  have e0 : s₁.heap = h0 := by rw [← hh, Bd.state]; rfl
  have N0 := Fr.nil n0
  have K0 : Keep h0 h0 [] := Keep.refl h0 _
  show OutW p e below s ({ frames := 0, cells := 0, slots := 0, locals := 0 } : Room).cells ({ frames := 0, cells := 0, slots := 0, locals := 0 } : Room).slots (Q1 Z a1 k_KILLS k_DIES k_BOTHDIE h0 n0) _
  refine OutW.back (fun t k => castTop (ef_1 m a1) k) ?_
  show OutW _ _ _ _ _ _ _ (s₁.setTop (mkF m 0 #[.val (.ref a1)] []))
  refine OutW.back (fun t k => XS.aloadN X0.here hx rfl (hb hby d1_0) rfl rfl  k) ?_
  show OutW _ _ _ _ _ _ _ (s₁.setTop (mkF m 1 #[.val (.ref a1)] [(.ref a1)]))
  obtain ⟨T1, X1, e1, st1⟩ := getS2 X0 hx hZ hown (host := "") (Or.inl (hw _ (List.mem_of_getElem? (i := 9) rfl))) Via.refl e0 S_KILLS (g := (mkF m 1 #[.val (.ref a1)] [(.ref a1)])) rfl (hb hby d1_1)
  refine OutW.back st1 ?_
  show OutW _ _ _ _ _ _ _ (T1.setTop (mkF m 4 #[.val (.ref a1)] [(.ref k_KILLS), (.ref a1)]))
  by_cases c4_2 : a1 = k_KILLS
  · skip
    refine OutW.back (fun t k => Jvm.RoadKit.acmp (g := (mkF m 4 #[.val (.ref a1)] [(.ref k_KILLS), (.ref a1)])) X1 hx rfl rfl rfl (pc0 := 4) (pc' := 21) (same := true) rfl (hb hby d1_4) rfl (decide_eq_true (congrArg Value.ref c4_2)) (by decide) (by decide) k) ?_
    show OutW _ _ _ _ _ _ _ (T1.setTop (mkF m 21 #[.val (.ref a1)] []))
    refine OutW.back (fun t k => XS.iconst X1.here hx rfl (hb hby d1_21) k) ?_
    show OutW _ _ _ _ _ _ _ (T1.setTop (mkF m 22 #[.val (.ref a1)] [(.int (1 : Int32))]))
    refine OutW.back (fun t k => XS.goto X1.here hx rfl (pc0 := 22) (pc' := 26) rfl (hb hby d1_22) (by decide) (by decide) k) ?_
    show OutW _ _ _ _ _ _ _ (T1.setTop (mkF m 26 #[.val (.ref a1)] [(.int (1 : Int32))]))
    refine OutW.retN X1 hx (t := .boolean) (z' := (1 : Int32)) Bd.returns (by simp) hlk (hb hby d1_26) ?hz (by decide) (by decide) ?_
    case hz =>
      rfl
    show Q1 Z a1 k_KILLS k_DIES k_BOTHDIE h0 n0 _ T1.heap _
    rw [e1]
    exact ⟨by rw [namesR, if_pos c4_2], N0, rfl⟩
  · skip
    refine OutW.back (fun t k => Jvm.RoadKit.acmp (g := (mkF m 4 #[.val (.ref a1)] [(.ref k_KILLS), (.ref a1)])) X1 hx rfl rfl rfl (pc0 := 4) (pc' := 7) (same := false) rfl (hb hby d1_4) rfl (decide_eq_false (fun q => c4_2 (Value.ref.inj q))) (by decide) (by decide) k) ?_
    show OutW _ _ _ _ _ _ _ (T1.setTop (mkF m 7 #[.val (.ref a1)] []))
    refine OutW.back (fun t k => XS.aloadN X1.here hx rfl (hb hby d1_7) rfl rfl  k) ?_
    show OutW _ _ _ _ _ _ _ (T1.setTop (mkF m 8 #[.val (.ref a1)] [(.ref a1)]))
    obtain ⟨T3, X3, e3, st3⟩ := getS2 X1 hx hZ hown (host := "") (Or.inl (hw _ (List.mem_of_getElem? (i := 11) rfl))) Via.refl e1 S_DIES (g := (mkF m 8 #[.val (.ref a1)] [(.ref a1)])) rfl (hb hby d1_8)
    refine OutW.back st3 ?_
    show OutW _ _ _ _ _ _ _ (T3.setTop (mkF m 11 #[.val (.ref a1)] [(.ref k_DIES), (.ref a1)]))
    by_cases c11_4 : a1 = k_DIES
    · skip
      refine OutW.back (fun t k => Jvm.RoadKit.acmp (g := (mkF m 11 #[.val (.ref a1)] [(.ref k_DIES), (.ref a1)])) X3 hx rfl rfl rfl (pc0 := 11) (pc' := 21) (same := true) rfl (hb hby d1_11) rfl (decide_eq_true (congrArg Value.ref c11_4)) (by decide) (by decide) k) ?_
      show OutW _ _ _ _ _ _ _ (T3.setTop (mkF m 21 #[.val (.ref a1)] []))
      refine OutW.back (fun t k => XS.iconst X3.here hx rfl (hb hby d1_21) k) ?_
      show OutW _ _ _ _ _ _ _ (T3.setTop (mkF m 22 #[.val (.ref a1)] [(.int (1 : Int32))]))
      refine OutW.back (fun t k => XS.goto X3.here hx rfl (pc0 := 22) (pc' := 26) rfl (hb hby d1_22) (by decide) (by decide) k) ?_
      show OutW _ _ _ _ _ _ _ (T3.setTop (mkF m 26 #[.val (.ref a1)] [(.int (1 : Int32))]))
      refine OutW.retN X3 hx (t := .boolean) (z' := (1 : Int32)) Bd.returns (by simp) hlk (hb hby d1_26) ?hz (by decide) (by decide) ?_
      case hz =>
        rfl
      show Q1 Z a1 k_KILLS k_DIES k_BOTHDIE h0 n0 _ T3.heap _
      rw [e3]
      exact ⟨by rw [namesR, if_neg c4_2, if_pos c11_4], N0, rfl⟩
    · skip
      refine OutW.back (fun t k => Jvm.RoadKit.acmp (g := (mkF m 11 #[.val (.ref a1)] [(.ref k_DIES), (.ref a1)])) X3 hx rfl rfl rfl (pc0 := 11) (pc' := 14) (same := false) rfl (hb hby d1_11) rfl (decide_eq_false (fun q => c11_4 (Value.ref.inj q))) (by decide) (by decide) k) ?_
      show OutW _ _ _ _ _ _ _ (T3.setTop (mkF m 14 #[.val (.ref a1)] []))
      refine OutW.back (fun t k => XS.aloadN X3.here hx rfl (hb hby d1_14) rfl rfl  k) ?_
      show OutW _ _ _ _ _ _ _ (T3.setTop (mkF m 15 #[.val (.ref a1)] [(.ref a1)]))
      obtain ⟨T5, X5, e5, st5⟩ := getS2 X3 hx hZ hown (host := "") (Or.inl (hw _ (List.mem_of_getElem? (i := 13) rfl))) Via.refl e3 S_BOTHDIE (g := (mkF m 15 #[.val (.ref a1)] [(.ref a1)])) rfl (hb hby d1_15)
      refine OutW.back st5 ?_
      show OutW _ _ _ _ _ _ _ (T5.setTop (mkF m 18 #[.val (.ref a1)] [(.ref k_BOTHDIE), (.ref a1)]))
      by_cases c18_6 : a1 = k_BOTHDIE
      · skip
        refine OutW.back (fun t k => Jvm.RoadKit.acmp (g := (mkF m 18 #[.val (.ref a1)] [(.ref k_BOTHDIE), (.ref a1)])) X5 hx rfl rfl rfl (pc0 := 18) (pc' := 21) (same := true) rfl (hb hby d1_18) rfl (decide_eq_true (congrArg Value.ref c18_6)) (by decide) (by decide) k) ?_
        show OutW _ _ _ _ _ _ _ (T5.setTop (mkF m 21 #[.val (.ref a1)] []))
        refine OutW.back (fun t k => XS.iconst X5.here hx rfl (hb hby d1_21) k) ?_
        show OutW _ _ _ _ _ _ _ (T5.setTop (mkF m 22 #[.val (.ref a1)] [(.int (1 : Int32))]))
        refine OutW.back (fun t k => XS.goto X5.here hx rfl (pc0 := 22) (pc' := 26) rfl (hb hby d1_22) (by decide) (by decide) k) ?_
        show OutW _ _ _ _ _ _ _ (T5.setTop (mkF m 26 #[.val (.ref a1)] [(.int (1 : Int32))]))
        refine OutW.retN X5 hx (t := .boolean) (z' := (1 : Int32)) Bd.returns (by simp) hlk (hb hby d1_26) ?hz (by decide) (by decide) ?_
        case hz =>
          rfl
        show Q1 Z a1 k_KILLS k_DIES k_BOTHDIE h0 n0 _ T5.heap _
        rw [e5]
        exact ⟨by rw [namesR, if_neg c4_2, if_neg c11_4, if_pos c18_6], N0, rfl⟩
      · skip
        refine OutW.back (fun t k => Jvm.RoadKit.acmp (g := (mkF m 18 #[.val (.ref a1)] [(.ref k_BOTHDIE), (.ref a1)])) X5 hx rfl rfl rfl (pc0 := 18) (pc' := 25) (same := false) rfl (hb hby d1_18) rfl (decide_eq_false (fun q => c18_6 (Value.ref.inj q))) (by decide) (by decide) k) ?_
        show OutW _ _ _ _ _ _ _ (T5.setTop (mkF m 25 #[.val (.ref a1)] []))
        refine OutW.back (fun t k => XS.iconst X5.here hx rfl (hb hby d1_25) k) ?_
        show OutW _ _ _ _ _ _ _ (T5.setTop (mkF m 26 #[.val (.ref a1)] [(.int (0 : Int32))]))
        refine OutW.retN X5 hx (t := .boolean) (z' := (0 : Int32)) Bd.returns (by simp) hlk (hb hby d1_26) ?hz (by decide) (by decide) ?_
        case hz =>
          rfl
        show Q1 Z a1 k_KILLS k_DIES k_BOTHDIE h0 n0 _ T5.heap _
        rw [e5]
        exact ⟨by rw [namesR, if_neg c4_2, if_neg c11_4, if_neg c18_6], N0, rfl⟩
theorem pd_0 : parseMethodDescriptor "()Z" = some ⟨[], some .boolean⟩ := by decide +kernel
theorem pn_0 : plainName "com/example/fogline/fogline/rules/KindNamesRanksPinLaw" = true := by first | (simp [plainName, overriddenIn]; done) | decide +kernel
theorem ef_0 (m : MethodId) (x0 : Int32) : entryFrame m #[(.int x0)] maxLocals = mkF m 0 #[.val (.int x0), .unset, .unset, .unset] [] := by first | (simp [entryFrame, mkF, argsToLocals, Value.category, maxLocals]; done) | rfl
def Q0 (Z : State) (p1 : Int32) (s_OK : Addr) (s_KILLS : Addr) (s_DIES : Addr) (s_BOTHDIE : Addr) (s_VICTORY_FLAG : Addr) (s_ILLEGAL : Addr) (h0 : Heap) (n0 : Nat) (v : Option Value) (h : Heap) (L : List Loc) : Prop := v = some (.int 1) ∧ Fr n0 L
set_option maxRecDepth 65536 in
set_option maxHeartbeats 40000000 in
theorem rm0 (l : Launch) (Z : State) (a0 : Array Value) (hw : ∀ d ∈ tables_1, d.before a0 Z = true) (ws : List Jvm.Cond) (p1 : Int32) (s_OK : Addr) (s_KILLS : Addr) (s_DIES : Addr) (s_BOTHDIE : Addr) (s_VICTORY_FLAG : Addr) (s_ILLEGAL : Addr) (h0 : Heap) (n0 : Nat) (Z0 : n0 ≤ h0.size) (S_OK : Sta Z h0 "com/example/fogline/fogline/rules/Outcome$Kind" "OK" "Lcom/example/fogline/fogline/rules/Outcome$Kind;" (.ref s_OK)) (S_KILLS : Sta Z h0 "com/example/fogline/fogline/rules/Outcome$Kind" "KILLS" "Lcom/example/fogline/fogline/rules/Outcome$Kind;" (.ref s_KILLS)) (S_DIES : Sta Z h0 "com/example/fogline/fogline/rules/Outcome$Kind" "DIES" "Lcom/example/fogline/fogline/rules/Outcome$Kind;" (.ref s_DIES)) (S_BOTHDIE : Sta Z h0 "com/example/fogline/fogline/rules/Outcome$Kind" "BOTHDIE" "Lcom/example/fogline/fogline/rules/Outcome$Kind;" (.ref s_BOTHDIE)) (S_VICTORY_FLAG : Sta Z h0 "com/example/fogline/fogline/rules/Outcome$Kind" "VICTORY_FLAG" "Lcom/example/fogline/fogline/rules/Outcome$Kind;" (.ref s_VICTORY_FLAG)) (S_ILLEGAL : Sta Z h0 "com/example/fogline/fogline/rules/Outcome$Kind" "ILLEGAL" "Lcom/example/fogline/fogline/rules/Outcome$Kind;" (.ref s_ILLEGAL)) (E_s_OK : Exa Z h0 s_OK "com/example/fogline/fogline/rules/Outcome$Kind") (E_s_KILLS : Exa Z h0 s_KILLS "com/example/fogline/fogline/rules/Outcome$Kind") (E_s_DIES : Exa Z h0 s_DIES "com/example/fogline/fogline/rules/Outcome$Kind") (E_s_BOTHDIE : Exa Z h0 s_BOTHDIE "com/example/fogline/fogline/rules/Outcome$Kind") (E_s_VICTORY_FLAG : Exa Z h0 s_VICTORY_FLAG "com/example/fogline/fogline/rules/Outcome$Kind") (E_s_ILLEGAL : Exa Z h0 s_ILLEGAL "com/example/fogline/fogline/rules/Outcome$Kind") (ne_s_OK_s_KILLS : s_OK ≠ s_KILLS) (ne_s_OK_s_DIES : s_OK ≠ s_DIES) (ne_s_OK_s_BOTHDIE : s_OK ≠ s_BOTHDIE) (ne_s_VICTORY_FLAG_s_KILLS : s_VICTORY_FLAG ≠ s_KILLS) (ne_s_VICTORY_FLAG_s_DIES : s_VICTORY_FLAG ≠ s_DIES) (ne_s_VICTORY_FLAG_s_BOTHDIE : s_VICTORY_FLAG ≠ s_BOTHDIE) (ne_s_ILLEGAL_s_KILLS : s_ILLEGAL ≠ s_KILLS) (ne_s_ILLEGAL_s_DIES : s_ILLEGAL ≠ s_DIES) (ne_s_ILLEGAL_s_BOTHDIE : s_ILLEGAL ≠ s_BOTHDIE) :
    MetFree l x (head1 (Jvm.Cond.code x code maxLocals ret :: ws) room_1) (fun a U => a = #[(.int p1)] ∧ Z.Warmed39 U.vm ∧ U.heap = h0) (fun _ _ _ _ _ => True) (fun _ U o U' => ∃ v L, o = .returned v ∧ Q0 Z p1 s_OK s_KILLS s_DIES s_BOTHDIE s_VICTORY_FLAG s_ILLEGAL h0 n0 v U'.heap L ∧ FrameEnd U o U' L room_1.cells room_1.slots) := by
  refine MetFree.of_bodySF (plainFor_of_name pn_0) hisR ?_
  intro p e s m args below meth c s₁ Bd hml0 hP hK
  obtain ⟨rfl, hZ, hh⟩ := hP
  have hx := Bd.exec
  have hby := Bd.bytes
  have hlk := Bd.notSynchronized
  have hml : c.maxLocals = 4 := hml0
  have hown : s.vm.findClass "com/example/fogline/fogline/rules/KindNamesRanksPinLaw" = some m.cls := findClass_of_methodNamed Bd.named
  have hnm := (name_of_methodNamed Bd.named Bd.method).1
  have X0 : Stand p l e room_1 s m #[(.int p1)] below meth c s₁ [] 0 0 := Stand.of_body Bd
  have e0 : s₁.heap = h0 := by rw [← hh, Bd.state]; rfl
  have N0 := Fr.nil n0
  have K0 : Keep h0 h0 [] := Keep.refl h0 _
  show OutW p e below s room_1.cells room_1.slots (Q0 Z p1 s_OK s_KILLS s_DIES s_BOTHDIE s_VICTORY_FLAG s_ILLEGAL h0 n0) _
  refine OutW.back (fun t k => castTop (ef_0 m p1) k) ?_
  show OutW _ _ _ _ _ _ _ (s₁.setTop (mkF m 0 #[.val (.int p1), .unset, .unset, .unset] []))
  refine OutW.back (fun t k => XS.iloadN X0.here hx rfl (hb hby at_0) rfl  k) ?_
  show OutW _ _ _ _ _ _ _ (s₁.setTop (mkF m 1 #[.val (.int p1), .unset, .unset, .unset] [(.int p1)]))
  refine OutW.back (X0.ldcInt hx hown (mvT hZ (hw _ (List.mem_of_getElem? (i := 0) rfl))) (g := (mkF m 1 #[.val (.int p1), .unset, .unset, .unset] [(.int p1)])) rfl (hb hby at_1)) ?_
  show OutW _ _ _ _ _ _ _ (s₁.setTop (mkF m 3 #[.val (.int p1), .unset, .unset, .unset] [(.int (2147483647 : Int32)), (.int p1)]))
  refine OutW.back (fun t k => XS.iand X0.here hx rfl (hb hby at_3) rfl k) ?_
  show OutW _ _ _ _ _ _ _ (s₁.setTop (mkF m 4 #[.val (.int p1), .unset, .unset, .unset] [(.int (p1 &&& (2147483647 : Int32)))]))
  refine OutW.back (fun t k => XS.bipush X0.here hx rfl (hb hby at_4) k) ?_
  show OutW _ _ _ _ _ _ _ (s₁.setTop (mkF m 6 #[.val (.int p1), .unset, .unset, .unset] [(.int (6 : Int32)), (.int (p1 &&& (2147483647 : Int32)))]))
  refine OutW.back (fun t k => iremM X0 hx rfl (hb hby at_6) rfl (by decide) k) ?_
  show OutW _ _ _ _ _ _ _ (s₁.setTop (mkF m 7 #[.val (.int p1), .unset, .unset, .unset] [(.int ((p1 &&& (2147483647 : Int32)) % (6 : Int32)))]))
  generalize hv_v1 : ((p1 &&& (2147483647 : Int32)) % (6 : Int32)) = v1
  refine OutW.back (fun t k => XS.istoreN X0.here hx rfl (hb hby at_7) rfl (l' := #[.val (.int p1), .val (.int v1), .unset, .unset]) rfl k) ?_
  show OutW _ _ _ _ _ _ _ (s₁.setTop (mkF m 8 #[.val (.int p1), .val (.int v1), .unset, .unset] []))
  refine OutW.back (fun t k => XS.iloadN X0.here hx rfl (hb hby at_8) rfl  k) ?_
  show OutW _ _ _ _ _ _ _ (s₁.setTop (mkF m 9 #[.val (.int p1), .val (.int v1), .unset, .unset] [(.int v1)]))
  by_cases c9_2 : v1 = (0 : Int32)
  · skip
    refine OutW.back (fun t k => XS.ifNo X0.here hx rfl (hb hby at_9) rfl ((if0 _ _).trans (teq c9_2).2) k) ?_
    show OutW _ _ _ _ _ _ _ (s₁.setTop (mkF m 12 #[.val (.int p1), .val (.int v1), .unset, .unset] []))
    obtain ⟨T3, X3, e3, st3⟩ := getS2 X0 hx hZ hown (host := "") (Or.inl (hw _ (List.mem_of_getElem? (i := 1) rfl))) Via.refl e0 S_OK (g := (mkF m 12 #[.val (.int p1), .val (.int v1), .unset, .unset] [])) rfl (hb hby at_12)
    refine OutW.back st3 ?_
    show OutW _ _ _ _ _ _ _ (T3.setTop (mkF m 15 #[.val (.int p1), .val (.int v1), .unset, .unset] [(.ref s_OK)]))
    refine OutW.back (fun t k => XS.astoreN X3.here hx rfl (hb hby at_15) rfl rfl (l' := #[.val (.int p1), .val (.int v1), .val (.ref s_OK), .unset]) rfl k) ?_
    show OutW _ _ _ _ _ _ _ (T3.setTop (mkF m 16 #[.val (.int p1), .val (.int v1), .val (.ref s_OK), .unset] []))
    refine OutW.back (fun t k => XS.iconst X3.here hx rfl (hb hby at_16) k) ?_
    show OutW _ _ _ _ _ _ _ (T3.setTop (mkF m 17 #[.val (.int p1), .val (.int v1), .val (.ref s_OK), .unset] [(.int (0 : Int32))]))
    refine OutW.back (fun t k => XS.istoreN X3.here hx rfl (hb hby at_17) rfl (l' := #[.val (.int p1), .val (.int v1), .val (.ref s_OK), .val (.int (0 : Int32))]) rfl k) ?_
    show OutW _ _ _ _ _ _ _ (T3.setTop (mkF m 18 #[.val (.int p1), .val (.int v1), .val (.ref s_OK), .val (.int (0 : Int32))] []))
    refine OutW.back (fun t k => XS.goto X3.here hx rfl (pc0 := 18) (pc' := 83) rfl (hb hby at_18) (by decide) (by decide) k) ?_
    show OutW _ _ _ _ _ _ _ (T3.setTop (mkF m 83 #[.val (.int p1), .val (.int v1), .val (.ref s_OK), .val (.int (0 : Int32))] []))
    refine OutW.back (fun t k => XS.aloadN X3.here hx rfl (hb hby at_83) rfl rfl  k) ?_
    show OutW _ _ _ _ _ _ _ (T3.setTop (mkF m 84 #[.val (.int p1), .val (.int v1), .val (.ref s_OK), .val (.int (0 : Int32))] [(.ref s_OK)]))
    obtain ⟨cq4, kq4, qa4, qb4, qc4⟩ := isOf hZ e3 E_s_OK
    obtain ⟨_, _, ⟨T4, L4, k4, n4⟩, -, X4, ⟨Lc4, hQ4, l4, y4, z4⟩, st4⟩ := X3.virtualBack hx (y := (⟨"com/example/fogline/fogline/rules/Outcome$Kind", "namesRanks", "()Z"⟩ : MethodName)) (z := (⟨"com/example/fogline/fogline/rules/Outcome$Kind", "namesRanks", "()Z"⟩ : MethodName)) hown (mvT hZ (hw _ (List.mem_of_getElem? (i := 4) rfl))) (mvT hZ (hw _ (List.mem_of_getElem? (i := 5) rfl))) (notFace_of_selects (args := #[]) (mvT hZ (hw _ (List.mem_of_getElem? (i := 7) rfl)))) (mvT hZ (hw _ (List.mem_of_getElem? (i := 7) rfl))) (mvT hZ (hw _ (List.mem_of_getElem? (i := 6) rfl))) (by decide) (backOf (W := 0) (rm1 l Z a0 hw [] s_OK s_KILLS s_DIES s_BOTHDIE h0 n0 Z0 S_KILLS S_DIES S_BOTHDIE) hZ (hw _ (List.mem_of_getElem? (i := 8) rfl)) (hw _ (List.mem_of_getElem? (i := 2) rfl)) (by decide) (by decide)) qa4 qc4 (g := (mkF m 84 #[.val (.int p1), .val (.int v1), .val (.ref s_OK), .val (.int (0 : Int32))] [(.ref s_OK)])) rfl (by rw [hml]; rfl) (Steps.refl _) (argsL := []) (rest := []) (lenOf pd_0 rfl) rfl (by show 2 * 0 + _ ≤ _; exact Nat.le_of_eq rfl) (hb hby at_84) (fun _ _ => ⟨rfl, e3, (by decide : 0 + 0 ≤ _), (by decide : 0 + 0 ≤ _)⟩)
    dsimp only [Pt.U, Pt.locs, Pt.cells, Pt.slots] at X4 l4 y4 z4 st4 hQ4
    subst l4 y4 z4
    obtain ⟨rfl, Nq4, e4⟩ := hQ4
    have N4 := Fr.app N0 Nq4
    refine OutW.via st4 ?_
    show OutW _ _ _ _ _ _ _ (T4.setTop (mkF m 87 #[.val (.int p1), .val (.int v1), .val (.ref s_OK), .val (.int (0 : Int32))] [(.int (namesR s_OK s_KILLS s_DIES s_BOTHDIE))]))
    refine OutW.back (fun t k => XS.iloadN X4.here hx rfl (hb hby at_87) rfl  k) ?_
    show OutW _ _ _ _ _ _ _ (T4.setTop (mkF m 88 #[.val (.int p1), .val (.int v1), .val (.ref s_OK), .val (.int (0 : Int32))] [(.int (0 : Int32)), (.int (namesR s_OK s_KILLS s_DIES s_BOTHDIE))]))
    obtain ⟨v6, hv_v6⟩ : ∃ z : Int32, z = (if (namesR s_OK s_KILLS s_DIES s_BOTHDIE) = (0 : Int32) then (1 : Int32) else (0 : Int32)) := ⟨_, rfl⟩
    have j7 : ∀ t, Steps p.tables e below (T4.setTop (mkF m 96 #[.val (.int p1), .val (.int v1), .val (.ref s_OK), .val (.int (0 : Int32))] [(.int v6)])) t → Steps p.tables e below (T4.setTop (mkF m 88 #[.val (.int p1), .val (.int v1), .val (.ref s_OK), .val (.int (0 : Int32))] [(.int (0 : Int32)), (.int (namesR s_OK s_KILLS s_DIES s_BOTHDIE))])) t := by
      intro t k
      by_cases c88_8 : (namesR s_OK s_KILLS s_DIES s_BOTHDIE) = (0 : Int32)
      · skip
        refine XS.icmpNo X4.here hx rfl (hb hby at_88) rfl (teq c88_8).2 ?_
        show Steps p.tables e below (T4.setTop (mkF m 91 #[.val (.int p1), .val (.int v1), .val (.ref s_OK), .val (.int (0 : Int32))] [])) t
        refine XS.iconst X4.here hx rfl (hb hby at_91) ?_
        show Steps p.tables e below (T4.setTop (mkF m 92 #[.val (.int p1), .val (.int v1), .val (.ref s_OK), .val (.int (0 : Int32))] [(.int (1 : Int32))])) t
        refine XS.goto X4.here hx rfl (pc0 := 92) (pc' := 96) rfl (hb hby at_92) (by decide) (by decide) ?_
        show Steps p.tables e below (T4.setTop (mkF m 96 #[.val (.int p1), .val (.int v1), .val (.ref s_OK), .val (.int (0 : Int32))] [(.int (1 : Int32))])) t
        have q_v6 : v6 = (1 : Int32) := by rw [hv_v6, if_pos c88_8]
        rw [q_v6] at k
        exact k
      · skip
        refine XS.icmpYes X4.here hx rfl (pc0 := 88) (pc' := 95) rfl (hb hby at_88) rfl (feq c88_8).2 (by decide) (by decide) ?_
        show Steps p.tables e below (T4.setTop (mkF m 95 #[.val (.int p1), .val (.int v1), .val (.ref s_OK), .val (.int (0 : Int32))] [])) t
        refine XS.iconst X4.here hx rfl (hb hby at_95) ?_
        show Steps p.tables e below (T4.setTop (mkF m 96 #[.val (.int p1), .val (.int v1), .val (.ref s_OK), .val (.int (0 : Int32))] [(.int (0 : Int32))])) t
        have q_v6 : v6 = (0 : Int32) := by rw [hv_v6, if_neg c88_8]
        rw [q_v6] at k
        exact k
    refine OutW.back j7 ?_
    show OutW _ _ _ _ _ _ _ (T4.setTop (mkF m 96 #[.val (.int p1), .val (.int v1), .val (.ref s_OK), .val (.int (0 : Int32))] [(.int v6)]))
    refine OutW.retN X4 hx (t := .boolean) (z' := 1) Bd.returns (by simp) hlk (hb hby at_96) ?hz (by decide) (by decide) ?_
    case hz =>
      have hfin : v6 = (1 : Int32) := by
        rw [hv_v6, namesR]
        simp [ne_s_OK_s_KILLS, ne_s_OK_s_DIES, ne_s_OK_s_BOTHDIE, ne_s_VICTORY_FLAG_s_KILLS, ne_s_VICTORY_FLAG_s_DIES, ne_s_VICTORY_FLAG_s_BOTHDIE, ne_s_ILLEGAL_s_KILLS, ne_s_ILLEGAL_s_DIES, ne_s_ILLEGAL_s_BOTHDIE]
      rw [hfin]; rfl
    show Q0 Z p1 s_OK s_KILLS s_DIES s_BOTHDIE s_VICTORY_FLAG s_ILLEGAL h0 n0 _ T4.heap _
    rw [e4]
    exact ⟨rfl, N4⟩
  · skip
    refine OutW.back (fun t k => XS.ifYes X0.here hx rfl (pc0 := 9) (pc' := 21) rfl (hb hby at_9) rfl ((if0 _ _).trans (feq c9_2).2) (by decide) (by decide) k) ?_
    show OutW _ _ _ _ _ _ _ (s₁.setTop (mkF m 21 #[.val (.int p1), .val (.int v1), .unset, .unset] []))
    refine OutW.back (fun t k => XS.iloadN X0.here hx rfl (hb hby at_21) rfl  k) ?_
    show OutW _ _ _ _ _ _ _ (s₁.setTop (mkF m 22 #[.val (.int p1), .val (.int v1), .unset, .unset] [(.int v1)]))
    refine OutW.back (fun t k => XS.iconst X0.here hx rfl (hb hby at_22) k) ?_
    show OutW _ _ _ _ _ _ _ (s₁.setTop (mkF m 23 #[.val (.int p1), .val (.int v1), .unset, .unset] [(.int (1 : Int32)), (.int v1)]))
    by_cases c23_9 : v1 = (1 : Int32)
    · skip
      refine OutW.back (fun t k => XS.icmpNo X0.here hx rfl (hb hby at_23) rfl (teq c23_9).2 k) ?_
      show OutW _ _ _ _ _ _ _ (s₁.setTop (mkF m 26 #[.val (.int p1), .val (.int v1), .unset, .unset] []))
      obtain ⟨T10, X10, e10, st10⟩ := getS2 X0 hx hZ hown (host := "") (Or.inl (hw _ (List.mem_of_getElem? (i := 17) rfl))) Via.refl e0 S_KILLS (g := (mkF m 26 #[.val (.int p1), .val (.int v1), .unset, .unset] [])) rfl (hb hby at_26)
      refine OutW.back st10 ?_
      show OutW _ _ _ _ _ _ _ (T10.setTop (mkF m 29 #[.val (.int p1), .val (.int v1), .unset, .unset] [(.ref s_KILLS)]))
      refine OutW.back (fun t k => XS.astoreN X10.here hx rfl (hb hby at_29) rfl rfl (l' := #[.val (.int p1), .val (.int v1), .val (.ref s_KILLS), .unset]) rfl k) ?_
      show OutW _ _ _ _ _ _ _ (T10.setTop (mkF m 30 #[.val (.int p1), .val (.int v1), .val (.ref s_KILLS), .unset] []))
      refine OutW.back (fun t k => XS.iconst X10.here hx rfl (hb hby at_30) k) ?_
      show OutW _ _ _ _ _ _ _ (T10.setTop (mkF m 31 #[.val (.int p1), .val (.int v1), .val (.ref s_KILLS), .unset] [(.int (1 : Int32))]))
      refine OutW.back (fun t k => XS.istoreN X10.here hx rfl (hb hby at_31) rfl (l' := #[.val (.int p1), .val (.int v1), .val (.ref s_KILLS), .val (.int (1 : Int32))]) rfl k) ?_
      show OutW _ _ _ _ _ _ _ (T10.setTop (mkF m 32 #[.val (.int p1), .val (.int v1), .val (.ref s_KILLS), .val (.int (1 : Int32))] []))
      refine OutW.back (fun t k => XS.goto X10.here hx rfl (pc0 := 32) (pc' := 83) rfl (hb hby at_32) (by decide) (by decide) k) ?_
      show OutW _ _ _ _ _ _ _ (T10.setTop (mkF m 83 #[.val (.int p1), .val (.int v1), .val (.ref s_KILLS), .val (.int (1 : Int32))] []))
      refine OutW.back (fun t k => XS.aloadN X10.here hx rfl (hb hby at_83) rfl rfl  k) ?_
      show OutW _ _ _ _ _ _ _ (T10.setTop (mkF m 84 #[.val (.int p1), .val (.int v1), .val (.ref s_KILLS), .val (.int (1 : Int32))] [(.ref s_KILLS)]))
      obtain ⟨cq11, kq11, qa11, qb11, qc11⟩ := isOf hZ e10 E_s_KILLS
      obtain ⟨_, _, ⟨T11, L11, k11, n11⟩, -, X11, ⟨Lc11, hQ11, l11, y11, z11⟩, st11⟩ := X10.virtualBack hx (y := (⟨"com/example/fogline/fogline/rules/Outcome$Kind", "namesRanks", "()Z"⟩ : MethodName)) (z := (⟨"com/example/fogline/fogline/rules/Outcome$Kind", "namesRanks", "()Z"⟩ : MethodName)) hown (mvT hZ (hw _ (List.mem_of_getElem? (i := 4) rfl))) (mvT hZ (hw _ (List.mem_of_getElem? (i := 5) rfl))) (notFace_of_selects (args := #[]) (mvT hZ (hw _ (List.mem_of_getElem? (i := 7) rfl)))) (mvT hZ (hw _ (List.mem_of_getElem? (i := 7) rfl))) (mvT hZ (hw _ (List.mem_of_getElem? (i := 6) rfl))) (by decide) (backOf (W := 0) (rm1 l Z a0 hw [] s_KILLS s_KILLS s_DIES s_BOTHDIE h0 n0 Z0 S_KILLS S_DIES S_BOTHDIE) hZ (hw _ (List.mem_of_getElem? (i := 8) rfl)) (hw _ (List.mem_of_getElem? (i := 2) rfl)) (by decide) (by decide)) qa11 qc11 (g := (mkF m 84 #[.val (.int p1), .val (.int v1), .val (.ref s_KILLS), .val (.int (1 : Int32))] [(.ref s_KILLS)])) rfl (by rw [hml]; rfl) (Steps.refl _) (argsL := []) (rest := []) (lenOf pd_0 rfl) rfl (by show 2 * 0 + _ ≤ _; exact Nat.le_of_eq rfl) (hb hby at_84) (fun _ _ => ⟨rfl, e10, (by decide : 0 + 0 ≤ _), (by decide : 0 + 0 ≤ _)⟩)
      dsimp only [Pt.U, Pt.locs, Pt.cells, Pt.slots] at X11 l11 y11 z11 st11 hQ11
      subst l11 y11 z11
      obtain ⟨rfl, Nq11, e11⟩ := hQ11
      have N11 := Fr.app N0 Nq11
      refine OutW.via st11 ?_
      show OutW _ _ _ _ _ _ _ (T11.setTop (mkF m 87 #[.val (.int p1), .val (.int v1), .val (.ref s_KILLS), .val (.int (1 : Int32))] [(.int (namesR s_KILLS s_KILLS s_DIES s_BOTHDIE))]))
      refine OutW.back (fun t k => XS.iloadN X11.here hx rfl (hb hby at_87) rfl  k) ?_
      show OutW _ _ _ _ _ _ _ (T11.setTop (mkF m 88 #[.val (.int p1), .val (.int v1), .val (.ref s_KILLS), .val (.int (1 : Int32))] [(.int (1 : Int32)), (.int (namesR s_KILLS s_KILLS s_DIES s_BOTHDIE))]))
      obtain ⟨v13, hv_v13⟩ : ∃ z : Int32, z = (if (namesR s_KILLS s_KILLS s_DIES s_BOTHDIE) = (1 : Int32) then (1 : Int32) else (0 : Int32)) := ⟨_, rfl⟩
      have j14 : ∀ t, Steps p.tables e below (T11.setTop (mkF m 96 #[.val (.int p1), .val (.int v1), .val (.ref s_KILLS), .val (.int (1 : Int32))] [(.int v13)])) t → Steps p.tables e below (T11.setTop (mkF m 88 #[.val (.int p1), .val (.int v1), .val (.ref s_KILLS), .val (.int (1 : Int32))] [(.int (1 : Int32)), (.int (namesR s_KILLS s_KILLS s_DIES s_BOTHDIE))])) t := by
        intro t k
        by_cases c88_15 : (namesR s_KILLS s_KILLS s_DIES s_BOTHDIE) = (1 : Int32)
        · skip
          refine XS.icmpNo X11.here hx rfl (hb hby at_88) rfl (teq c88_15).2 ?_
          show Steps p.tables e below (T11.setTop (mkF m 91 #[.val (.int p1), .val (.int v1), .val (.ref s_KILLS), .val (.int (1 : Int32))] [])) t
          refine XS.iconst X11.here hx rfl (hb hby at_91) ?_
          show Steps p.tables e below (T11.setTop (mkF m 92 #[.val (.int p1), .val (.int v1), .val (.ref s_KILLS), .val (.int (1 : Int32))] [(.int (1 : Int32))])) t
          refine XS.goto X11.here hx rfl (pc0 := 92) (pc' := 96) rfl (hb hby at_92) (by decide) (by decide) ?_
          show Steps p.tables e below (T11.setTop (mkF m 96 #[.val (.int p1), .val (.int v1), .val (.ref s_KILLS), .val (.int (1 : Int32))] [(.int (1 : Int32))])) t
          have q_v13 : v13 = (1 : Int32) := by rw [hv_v13, if_pos c88_15]
          rw [q_v13] at k
          exact k
        · skip
          refine XS.icmpYes X11.here hx rfl (pc0 := 88) (pc' := 95) rfl (hb hby at_88) rfl (feq c88_15).2 (by decide) (by decide) ?_
          show Steps p.tables e below (T11.setTop (mkF m 95 #[.val (.int p1), .val (.int v1), .val (.ref s_KILLS), .val (.int (1 : Int32))] [])) t
          refine XS.iconst X11.here hx rfl (hb hby at_95) ?_
          show Steps p.tables e below (T11.setTop (mkF m 96 #[.val (.int p1), .val (.int v1), .val (.ref s_KILLS), .val (.int (1 : Int32))] [(.int (0 : Int32))])) t
          have q_v13 : v13 = (0 : Int32) := by rw [hv_v13, if_neg c88_15]
          rw [q_v13] at k
          exact k
      refine OutW.back j14 ?_
      show OutW _ _ _ _ _ _ _ (T11.setTop (mkF m 96 #[.val (.int p1), .val (.int v1), .val (.ref s_KILLS), .val (.int (1 : Int32))] [(.int v13)]))
      refine OutW.retN X11 hx (t := .boolean) (z' := 1) Bd.returns (by simp) hlk (hb hby at_96) ?hz (by decide) (by decide) ?_
      case hz =>
        have hfin : v13 = (1 : Int32) := by
          rw [hv_v13, namesR]
          simp [ne_s_OK_s_KILLS, ne_s_OK_s_DIES, ne_s_OK_s_BOTHDIE, ne_s_VICTORY_FLAG_s_KILLS, ne_s_VICTORY_FLAG_s_DIES, ne_s_VICTORY_FLAG_s_BOTHDIE, ne_s_ILLEGAL_s_KILLS, ne_s_ILLEGAL_s_DIES, ne_s_ILLEGAL_s_BOTHDIE]
        rw [hfin]; rfl
      show Q0 Z p1 s_OK s_KILLS s_DIES s_BOTHDIE s_VICTORY_FLAG s_ILLEGAL h0 n0 _ T11.heap _
      rw [e11]
      exact ⟨rfl, N11⟩
    · skip
      refine OutW.back (fun t k => XS.icmpYes X0.here hx rfl (pc0 := 23) (pc' := 35) rfl (hb hby at_23) rfl (feq c23_9).2 (by decide) (by decide) k) ?_
      show OutW _ _ _ _ _ _ _ (s₁.setTop (mkF m 35 #[.val (.int p1), .val (.int v1), .unset, .unset] []))
      refine OutW.back (fun t k => XS.iloadN X0.here hx rfl (hb hby at_35) rfl  k) ?_
      show OutW _ _ _ _ _ _ _ (s₁.setTop (mkF m 36 #[.val (.int p1), .val (.int v1), .unset, .unset] [(.int v1)]))
      refine OutW.back (fun t k => XS.iconst X0.here hx rfl (hb hby at_36) k) ?_
      show OutW _ _ _ _ _ _ _ (s₁.setTop (mkF m 37 #[.val (.int p1), .val (.int v1), .unset, .unset] [(.int (2 : Int32)), (.int v1)]))
      by_cases c37_16 : v1 = (2 : Int32)
      · skip
        refine OutW.back (fun t k => XS.icmpNo X0.here hx rfl (hb hby at_37) rfl (teq c37_16).2 k) ?_
        show OutW _ _ _ _ _ _ _ (s₁.setTop (mkF m 40 #[.val (.int p1), .val (.int v1), .unset, .unset] []))
        obtain ⟨T17, X17, e17, st17⟩ := getS2 X0 hx hZ hown (host := "") (Or.inl (hw _ (List.mem_of_getElem? (i := 16) rfl))) Via.refl e0 S_DIES (g := (mkF m 40 #[.val (.int p1), .val (.int v1), .unset, .unset] [])) rfl (hb hby at_40)
        refine OutW.back st17 ?_
        show OutW _ _ _ _ _ _ _ (T17.setTop (mkF m 43 #[.val (.int p1), .val (.int v1), .unset, .unset] [(.ref s_DIES)]))
        refine OutW.back (fun t k => XS.astoreN X17.here hx rfl (hb hby at_43) rfl rfl (l' := #[.val (.int p1), .val (.int v1), .val (.ref s_DIES), .unset]) rfl k) ?_
        show OutW _ _ _ _ _ _ _ (T17.setTop (mkF m 44 #[.val (.int p1), .val (.int v1), .val (.ref s_DIES), .unset] []))
        refine OutW.back (fun t k => XS.iconst X17.here hx rfl (hb hby at_44) k) ?_
        show OutW _ _ _ _ _ _ _ (T17.setTop (mkF m 45 #[.val (.int p1), .val (.int v1), .val (.ref s_DIES), .unset] [(.int (1 : Int32))]))
        refine OutW.back (fun t k => XS.istoreN X17.here hx rfl (hb hby at_45) rfl (l' := #[.val (.int p1), .val (.int v1), .val (.ref s_DIES), .val (.int (1 : Int32))]) rfl k) ?_
        show OutW _ _ _ _ _ _ _ (T17.setTop (mkF m 46 #[.val (.int p1), .val (.int v1), .val (.ref s_DIES), .val (.int (1 : Int32))] []))
        refine OutW.back (fun t k => XS.goto X17.here hx rfl (pc0 := 46) (pc' := 83) rfl (hb hby at_46) (by decide) (by decide) k) ?_
        show OutW _ _ _ _ _ _ _ (T17.setTop (mkF m 83 #[.val (.int p1), .val (.int v1), .val (.ref s_DIES), .val (.int (1 : Int32))] []))
        refine OutW.back (fun t k => XS.aloadN X17.here hx rfl (hb hby at_83) rfl rfl  k) ?_
        show OutW _ _ _ _ _ _ _ (T17.setTop (mkF m 84 #[.val (.int p1), .val (.int v1), .val (.ref s_DIES), .val (.int (1 : Int32))] [(.ref s_DIES)]))
        obtain ⟨cq18, kq18, qa18, qb18, qc18⟩ := isOf hZ e17 E_s_DIES
        obtain ⟨_, _, ⟨T18, L18, k18, n18⟩, -, X18, ⟨Lc18, hQ18, l18, y18, z18⟩, st18⟩ := X17.virtualBack hx (y := (⟨"com/example/fogline/fogline/rules/Outcome$Kind", "namesRanks", "()Z"⟩ : MethodName)) (z := (⟨"com/example/fogline/fogline/rules/Outcome$Kind", "namesRanks", "()Z"⟩ : MethodName)) hown (mvT hZ (hw _ (List.mem_of_getElem? (i := 4) rfl))) (mvT hZ (hw _ (List.mem_of_getElem? (i := 5) rfl))) (notFace_of_selects (args := #[]) (mvT hZ (hw _ (List.mem_of_getElem? (i := 7) rfl)))) (mvT hZ (hw _ (List.mem_of_getElem? (i := 7) rfl))) (mvT hZ (hw _ (List.mem_of_getElem? (i := 6) rfl))) (by decide) (backOf (W := 0) (rm1 l Z a0 hw [] s_DIES s_KILLS s_DIES s_BOTHDIE h0 n0 Z0 S_KILLS S_DIES S_BOTHDIE) hZ (hw _ (List.mem_of_getElem? (i := 8) rfl)) (hw _ (List.mem_of_getElem? (i := 2) rfl)) (by decide) (by decide)) qa18 qc18 (g := (mkF m 84 #[.val (.int p1), .val (.int v1), .val (.ref s_DIES), .val (.int (1 : Int32))] [(.ref s_DIES)])) rfl (by rw [hml]; rfl) (Steps.refl _) (argsL := []) (rest := []) (lenOf pd_0 rfl) rfl (by show 2 * 0 + _ ≤ _; exact Nat.le_of_eq rfl) (hb hby at_84) (fun _ _ => ⟨rfl, e17, (by decide : 0 + 0 ≤ _), (by decide : 0 + 0 ≤ _)⟩)
        dsimp only [Pt.U, Pt.locs, Pt.cells, Pt.slots] at X18 l18 y18 z18 st18 hQ18
        subst l18 y18 z18
        obtain ⟨rfl, Nq18, e18⟩ := hQ18
        have N18 := Fr.app N0 Nq18
        refine OutW.via st18 ?_
        show OutW _ _ _ _ _ _ _ (T18.setTop (mkF m 87 #[.val (.int p1), .val (.int v1), .val (.ref s_DIES), .val (.int (1 : Int32))] [(.int (namesR s_DIES s_KILLS s_DIES s_BOTHDIE))]))
        refine OutW.back (fun t k => XS.iloadN X18.here hx rfl (hb hby at_87) rfl  k) ?_
        show OutW _ _ _ _ _ _ _ (T18.setTop (mkF m 88 #[.val (.int p1), .val (.int v1), .val (.ref s_DIES), .val (.int (1 : Int32))] [(.int (1 : Int32)), (.int (namesR s_DIES s_KILLS s_DIES s_BOTHDIE))]))
        obtain ⟨v20, hv_v20⟩ : ∃ z : Int32, z = (if (namesR s_DIES s_KILLS s_DIES s_BOTHDIE) = (1 : Int32) then (1 : Int32) else (0 : Int32)) := ⟨_, rfl⟩
        have j21 : ∀ t, Steps p.tables e below (T18.setTop (mkF m 96 #[.val (.int p1), .val (.int v1), .val (.ref s_DIES), .val (.int (1 : Int32))] [(.int v20)])) t → Steps p.tables e below (T18.setTop (mkF m 88 #[.val (.int p1), .val (.int v1), .val (.ref s_DIES), .val (.int (1 : Int32))] [(.int (1 : Int32)), (.int (namesR s_DIES s_KILLS s_DIES s_BOTHDIE))])) t := by
          intro t k
          by_cases c88_22 : (namesR s_DIES s_KILLS s_DIES s_BOTHDIE) = (1 : Int32)
          · skip
            refine XS.icmpNo X18.here hx rfl (hb hby at_88) rfl (teq c88_22).2 ?_
            show Steps p.tables e below (T18.setTop (mkF m 91 #[.val (.int p1), .val (.int v1), .val (.ref s_DIES), .val (.int (1 : Int32))] [])) t
            refine XS.iconst X18.here hx rfl (hb hby at_91) ?_
            show Steps p.tables e below (T18.setTop (mkF m 92 #[.val (.int p1), .val (.int v1), .val (.ref s_DIES), .val (.int (1 : Int32))] [(.int (1 : Int32))])) t
            refine XS.goto X18.here hx rfl (pc0 := 92) (pc' := 96) rfl (hb hby at_92) (by decide) (by decide) ?_
            show Steps p.tables e below (T18.setTop (mkF m 96 #[.val (.int p1), .val (.int v1), .val (.ref s_DIES), .val (.int (1 : Int32))] [(.int (1 : Int32))])) t
            have q_v20 : v20 = (1 : Int32) := by rw [hv_v20, if_pos c88_22]
            rw [q_v20] at k
            exact k
          · skip
            refine XS.icmpYes X18.here hx rfl (pc0 := 88) (pc' := 95) rfl (hb hby at_88) rfl (feq c88_22).2 (by decide) (by decide) ?_
            show Steps p.tables e below (T18.setTop (mkF m 95 #[.val (.int p1), .val (.int v1), .val (.ref s_DIES), .val (.int (1 : Int32))] [])) t
            refine XS.iconst X18.here hx rfl (hb hby at_95) ?_
            show Steps p.tables e below (T18.setTop (mkF m 96 #[.val (.int p1), .val (.int v1), .val (.ref s_DIES), .val (.int (1 : Int32))] [(.int (0 : Int32))])) t
            have q_v20 : v20 = (0 : Int32) := by rw [hv_v20, if_neg c88_22]
            rw [q_v20] at k
            exact k
        refine OutW.back j21 ?_
        show OutW _ _ _ _ _ _ _ (T18.setTop (mkF m 96 #[.val (.int p1), .val (.int v1), .val (.ref s_DIES), .val (.int (1 : Int32))] [(.int v20)]))
        refine OutW.retN X18 hx (t := .boolean) (z' := 1) Bd.returns (by simp) hlk (hb hby at_96) ?hz (by decide) (by decide) ?_
        case hz =>
          have hfin : v20 = (1 : Int32) := by
            rw [hv_v20, namesR]
            simp [ne_s_OK_s_KILLS, ne_s_OK_s_DIES, ne_s_OK_s_BOTHDIE, ne_s_VICTORY_FLAG_s_KILLS, ne_s_VICTORY_FLAG_s_DIES, ne_s_VICTORY_FLAG_s_BOTHDIE, ne_s_ILLEGAL_s_KILLS, ne_s_ILLEGAL_s_DIES, ne_s_ILLEGAL_s_BOTHDIE]
          rw [hfin]; rfl
        show Q0 Z p1 s_OK s_KILLS s_DIES s_BOTHDIE s_VICTORY_FLAG s_ILLEGAL h0 n0 _ T18.heap _
        rw [e18]
        exact ⟨rfl, N18⟩
      · skip
        refine OutW.back (fun t k => XS.icmpYes X0.here hx rfl (pc0 := 37) (pc' := 49) rfl (hb hby at_37) rfl (feq c37_16).2 (by decide) (by decide) k) ?_
        show OutW _ _ _ _ _ _ _ (s₁.setTop (mkF m 49 #[.val (.int p1), .val (.int v1), .unset, .unset] []))
        refine OutW.back (fun t k => XS.iloadN X0.here hx rfl (hb hby at_49) rfl  k) ?_
        show OutW _ _ _ _ _ _ _ (s₁.setTop (mkF m 50 #[.val (.int p1), .val (.int v1), .unset, .unset] [(.int v1)]))
        refine OutW.back (fun t k => XS.iconst X0.here hx rfl (hb hby at_50) k) ?_
        show OutW _ _ _ _ _ _ _ (s₁.setTop (mkF m 51 #[.val (.int p1), .val (.int v1), .unset, .unset] [(.int (3 : Int32)), (.int v1)]))
        by_cases c51_23 : v1 = (3 : Int32)
        · skip
          refine OutW.back (fun t k => XS.icmpNo X0.here hx rfl (hb hby at_51) rfl (teq c51_23).2 k) ?_
          show OutW _ _ _ _ _ _ _ (s₁.setTop (mkF m 54 #[.val (.int p1), .val (.int v1), .unset, .unset] []))
          obtain ⟨T24, X24, e24, st24⟩ := getS2 X0 hx hZ hown (host := "") (Or.inl (hw _ (List.mem_of_getElem? (i := 15) rfl))) Via.refl e0 S_BOTHDIE (g := (mkF m 54 #[.val (.int p1), .val (.int v1), .unset, .unset] [])) rfl (hb hby at_54)
          refine OutW.back st24 ?_
          show OutW _ _ _ _ _ _ _ (T24.setTop (mkF m 57 #[.val (.int p1), .val (.int v1), .unset, .unset] [(.ref s_BOTHDIE)]))
          refine OutW.back (fun t k => XS.astoreN X24.here hx rfl (hb hby at_57) rfl rfl (l' := #[.val (.int p1), .val (.int v1), .val (.ref s_BOTHDIE), .unset]) rfl k) ?_
          show OutW _ _ _ _ _ _ _ (T24.setTop (mkF m 58 #[.val (.int p1), .val (.int v1), .val (.ref s_BOTHDIE), .unset] []))
          refine OutW.back (fun t k => XS.iconst X24.here hx rfl (hb hby at_58) k) ?_
          show OutW _ _ _ _ _ _ _ (T24.setTop (mkF m 59 #[.val (.int p1), .val (.int v1), .val (.ref s_BOTHDIE), .unset] [(.int (1 : Int32))]))
          refine OutW.back (fun t k => XS.istoreN X24.here hx rfl (hb hby at_59) rfl (l' := #[.val (.int p1), .val (.int v1), .val (.ref s_BOTHDIE), .val (.int (1 : Int32))]) rfl k) ?_
          show OutW _ _ _ _ _ _ _ (T24.setTop (mkF m 60 #[.val (.int p1), .val (.int v1), .val (.ref s_BOTHDIE), .val (.int (1 : Int32))] []))
          refine OutW.back (fun t k => XS.goto X24.here hx rfl (pc0 := 60) (pc' := 83) rfl (hb hby at_60) (by decide) (by decide) k) ?_
          show OutW _ _ _ _ _ _ _ (T24.setTop (mkF m 83 #[.val (.int p1), .val (.int v1), .val (.ref s_BOTHDIE), .val (.int (1 : Int32))] []))
          refine OutW.back (fun t k => XS.aloadN X24.here hx rfl (hb hby at_83) rfl rfl  k) ?_
          show OutW _ _ _ _ _ _ _ (T24.setTop (mkF m 84 #[.val (.int p1), .val (.int v1), .val (.ref s_BOTHDIE), .val (.int (1 : Int32))] [(.ref s_BOTHDIE)]))
          obtain ⟨cq25, kq25, qa25, qb25, qc25⟩ := isOf hZ e24 E_s_BOTHDIE
          obtain ⟨_, _, ⟨T25, L25, k25, n25⟩, -, X25, ⟨Lc25, hQ25, l25, y25, z25⟩, st25⟩ := X24.virtualBack hx (y := (⟨"com/example/fogline/fogline/rules/Outcome$Kind", "namesRanks", "()Z"⟩ : MethodName)) (z := (⟨"com/example/fogline/fogline/rules/Outcome$Kind", "namesRanks", "()Z"⟩ : MethodName)) hown (mvT hZ (hw _ (List.mem_of_getElem? (i := 4) rfl))) (mvT hZ (hw _ (List.mem_of_getElem? (i := 5) rfl))) (notFace_of_selects (args := #[]) (mvT hZ (hw _ (List.mem_of_getElem? (i := 7) rfl)))) (mvT hZ (hw _ (List.mem_of_getElem? (i := 7) rfl))) (mvT hZ (hw _ (List.mem_of_getElem? (i := 6) rfl))) (by decide) (backOf (W := 0) (rm1 l Z a0 hw [] s_BOTHDIE s_KILLS s_DIES s_BOTHDIE h0 n0 Z0 S_KILLS S_DIES S_BOTHDIE) hZ (hw _ (List.mem_of_getElem? (i := 8) rfl)) (hw _ (List.mem_of_getElem? (i := 2) rfl)) (by decide) (by decide)) qa25 qc25 (g := (mkF m 84 #[.val (.int p1), .val (.int v1), .val (.ref s_BOTHDIE), .val (.int (1 : Int32))] [(.ref s_BOTHDIE)])) rfl (by rw [hml]; rfl) (Steps.refl _) (argsL := []) (rest := []) (lenOf pd_0 rfl) rfl (by show 2 * 0 + _ ≤ _; exact Nat.le_of_eq rfl) (hb hby at_84) (fun _ _ => ⟨rfl, e24, (by decide : 0 + 0 ≤ _), (by decide : 0 + 0 ≤ _)⟩)
          dsimp only [Pt.U, Pt.locs, Pt.cells, Pt.slots] at X25 l25 y25 z25 st25 hQ25
          subst l25 y25 z25
          obtain ⟨rfl, Nq25, e25⟩ := hQ25
          have N25 := Fr.app N0 Nq25
          refine OutW.via st25 ?_
          show OutW _ _ _ _ _ _ _ (T25.setTop (mkF m 87 #[.val (.int p1), .val (.int v1), .val (.ref s_BOTHDIE), .val (.int (1 : Int32))] [(.int (namesR s_BOTHDIE s_KILLS s_DIES s_BOTHDIE))]))
          refine OutW.back (fun t k => XS.iloadN X25.here hx rfl (hb hby at_87) rfl  k) ?_
          show OutW _ _ _ _ _ _ _ (T25.setTop (mkF m 88 #[.val (.int p1), .val (.int v1), .val (.ref s_BOTHDIE), .val (.int (1 : Int32))] [(.int (1 : Int32)), (.int (namesR s_BOTHDIE s_KILLS s_DIES s_BOTHDIE))]))
          obtain ⟨v27, hv_v27⟩ : ∃ z : Int32, z = (if (namesR s_BOTHDIE s_KILLS s_DIES s_BOTHDIE) = (1 : Int32) then (1 : Int32) else (0 : Int32)) := ⟨_, rfl⟩
          have j28 : ∀ t, Steps p.tables e below (T25.setTop (mkF m 96 #[.val (.int p1), .val (.int v1), .val (.ref s_BOTHDIE), .val (.int (1 : Int32))] [(.int v27)])) t → Steps p.tables e below (T25.setTop (mkF m 88 #[.val (.int p1), .val (.int v1), .val (.ref s_BOTHDIE), .val (.int (1 : Int32))] [(.int (1 : Int32)), (.int (namesR s_BOTHDIE s_KILLS s_DIES s_BOTHDIE))])) t := by
            intro t k
            by_cases c88_29 : (namesR s_BOTHDIE s_KILLS s_DIES s_BOTHDIE) = (1 : Int32)
            · skip
              refine XS.icmpNo X25.here hx rfl (hb hby at_88) rfl (teq c88_29).2 ?_
              show Steps p.tables e below (T25.setTop (mkF m 91 #[.val (.int p1), .val (.int v1), .val (.ref s_BOTHDIE), .val (.int (1 : Int32))] [])) t
              refine XS.iconst X25.here hx rfl (hb hby at_91) ?_
              show Steps p.tables e below (T25.setTop (mkF m 92 #[.val (.int p1), .val (.int v1), .val (.ref s_BOTHDIE), .val (.int (1 : Int32))] [(.int (1 : Int32))])) t
              refine XS.goto X25.here hx rfl (pc0 := 92) (pc' := 96) rfl (hb hby at_92) (by decide) (by decide) ?_
              show Steps p.tables e below (T25.setTop (mkF m 96 #[.val (.int p1), .val (.int v1), .val (.ref s_BOTHDIE), .val (.int (1 : Int32))] [(.int (1 : Int32))])) t
              have q_v27 : v27 = (1 : Int32) := by rw [hv_v27, if_pos c88_29]
              rw [q_v27] at k
              exact k
            · skip
              refine XS.icmpYes X25.here hx rfl (pc0 := 88) (pc' := 95) rfl (hb hby at_88) rfl (feq c88_29).2 (by decide) (by decide) ?_
              show Steps p.tables e below (T25.setTop (mkF m 95 #[.val (.int p1), .val (.int v1), .val (.ref s_BOTHDIE), .val (.int (1 : Int32))] [])) t
              refine XS.iconst X25.here hx rfl (hb hby at_95) ?_
              show Steps p.tables e below (T25.setTop (mkF m 96 #[.val (.int p1), .val (.int v1), .val (.ref s_BOTHDIE), .val (.int (1 : Int32))] [(.int (0 : Int32))])) t
              have q_v27 : v27 = (0 : Int32) := by rw [hv_v27, if_neg c88_29]
              rw [q_v27] at k
              exact k
          refine OutW.back j28 ?_
          show OutW _ _ _ _ _ _ _ (T25.setTop (mkF m 96 #[.val (.int p1), .val (.int v1), .val (.ref s_BOTHDIE), .val (.int (1 : Int32))] [(.int v27)]))
          refine OutW.retN X25 hx (t := .boolean) (z' := 1) Bd.returns (by simp) hlk (hb hby at_96) ?hz (by decide) (by decide) ?_
          case hz =>
            have hfin : v27 = (1 : Int32) := by
              rw [hv_v27, namesR]
              simp [ne_s_OK_s_KILLS, ne_s_OK_s_DIES, ne_s_OK_s_BOTHDIE, ne_s_VICTORY_FLAG_s_KILLS, ne_s_VICTORY_FLAG_s_DIES, ne_s_VICTORY_FLAG_s_BOTHDIE, ne_s_ILLEGAL_s_KILLS, ne_s_ILLEGAL_s_DIES, ne_s_ILLEGAL_s_BOTHDIE]
            rw [hfin]; rfl
          show Q0 Z p1 s_OK s_KILLS s_DIES s_BOTHDIE s_VICTORY_FLAG s_ILLEGAL h0 n0 _ T25.heap _
          rw [e25]
          exact ⟨rfl, N25⟩
        · skip
          refine OutW.back (fun t k => XS.icmpYes X0.here hx rfl (pc0 := 51) (pc' := 63) rfl (hb hby at_51) rfl (feq c51_23).2 (by decide) (by decide) k) ?_
          show OutW _ _ _ _ _ _ _ (s₁.setTop (mkF m 63 #[.val (.int p1), .val (.int v1), .unset, .unset] []))
          refine OutW.back (fun t k => XS.iloadN X0.here hx rfl (hb hby at_63) rfl  k) ?_
          show OutW _ _ _ _ _ _ _ (s₁.setTop (mkF m 64 #[.val (.int p1), .val (.int v1), .unset, .unset] [(.int v1)]))
          refine OutW.back (fun t k => XS.iconst X0.here hx rfl (hb hby at_64) k) ?_
          show OutW _ _ _ _ _ _ _ (s₁.setTop (mkF m 65 #[.val (.int p1), .val (.int v1), .unset, .unset] [(.int (4 : Int32)), (.int v1)]))
          by_cases c65_30 : v1 = (4 : Int32)
          · skip
            refine OutW.back (fun t k => XS.icmpNo X0.here hx rfl (hb hby at_65) rfl (teq c65_30).2 k) ?_
            show OutW _ _ _ _ _ _ _ (s₁.setTop (mkF m 68 #[.val (.int p1), .val (.int v1), .unset, .unset] []))
            obtain ⟨T31, X31, e31, st31⟩ := getS2 X0 hx hZ hown (host := "") (Or.inl (hw _ (List.mem_of_getElem? (i := 20) rfl))) Via.refl e0 S_VICTORY_FLAG (g := (mkF m 68 #[.val (.int p1), .val (.int v1), .unset, .unset] [])) rfl (hb hby at_68)
            refine OutW.back st31 ?_
            show OutW _ _ _ _ _ _ _ (T31.setTop (mkF m 71 #[.val (.int p1), .val (.int v1), .unset, .unset] [(.ref s_VICTORY_FLAG)]))
            refine OutW.back (fun t k => XS.astoreN X31.here hx rfl (hb hby at_71) rfl rfl (l' := #[.val (.int p1), .val (.int v1), .val (.ref s_VICTORY_FLAG), .unset]) rfl k) ?_
            show OutW _ _ _ _ _ _ _ (T31.setTop (mkF m 72 #[.val (.int p1), .val (.int v1), .val (.ref s_VICTORY_FLAG), .unset] []))
            refine OutW.back (fun t k => XS.iconst X31.here hx rfl (hb hby at_72) k) ?_
            show OutW _ _ _ _ _ _ _ (T31.setTop (mkF m 73 #[.val (.int p1), .val (.int v1), .val (.ref s_VICTORY_FLAG), .unset] [(.int (0 : Int32))]))
            refine OutW.back (fun t k => XS.istoreN X31.here hx rfl (hb hby at_73) rfl (l' := #[.val (.int p1), .val (.int v1), .val (.ref s_VICTORY_FLAG), .val (.int (0 : Int32))]) rfl k) ?_
            show OutW _ _ _ _ _ _ _ (T31.setTop (mkF m 74 #[.val (.int p1), .val (.int v1), .val (.ref s_VICTORY_FLAG), .val (.int (0 : Int32))] []))
            refine OutW.back (fun t k => XS.goto X31.here hx rfl (pc0 := 74) (pc' := 83) rfl (hb hby at_74) (by decide) (by decide) k) ?_
            show OutW _ _ _ _ _ _ _ (T31.setTop (mkF m 83 #[.val (.int p1), .val (.int v1), .val (.ref s_VICTORY_FLAG), .val (.int (0 : Int32))] []))
            refine OutW.back (fun t k => XS.aloadN X31.here hx rfl (hb hby at_83) rfl rfl  k) ?_
            show OutW _ _ _ _ _ _ _ (T31.setTop (mkF m 84 #[.val (.int p1), .val (.int v1), .val (.ref s_VICTORY_FLAG), .val (.int (0 : Int32))] [(.ref s_VICTORY_FLAG)]))
            obtain ⟨cq32, kq32, qa32, qb32, qc32⟩ := isOf hZ e31 E_s_VICTORY_FLAG
            obtain ⟨_, _, ⟨T32, L32, k32, n32⟩, -, X32, ⟨Lc32, hQ32, l32, y32, z32⟩, st32⟩ := X31.virtualBack hx (y := (⟨"com/example/fogline/fogline/rules/Outcome$Kind", "namesRanks", "()Z"⟩ : MethodName)) (z := (⟨"com/example/fogline/fogline/rules/Outcome$Kind", "namesRanks", "()Z"⟩ : MethodName)) hown (mvT hZ (hw _ (List.mem_of_getElem? (i := 4) rfl))) (mvT hZ (hw _ (List.mem_of_getElem? (i := 5) rfl))) (notFace_of_selects (args := #[]) (mvT hZ (hw _ (List.mem_of_getElem? (i := 7) rfl)))) (mvT hZ (hw _ (List.mem_of_getElem? (i := 7) rfl))) (mvT hZ (hw _ (List.mem_of_getElem? (i := 6) rfl))) (by decide) (backOf (W := 0) (rm1 l Z a0 hw [] s_VICTORY_FLAG s_KILLS s_DIES s_BOTHDIE h0 n0 Z0 S_KILLS S_DIES S_BOTHDIE) hZ (hw _ (List.mem_of_getElem? (i := 8) rfl)) (hw _ (List.mem_of_getElem? (i := 2) rfl)) (by decide) (by decide)) qa32 qc32 (g := (mkF m 84 #[.val (.int p1), .val (.int v1), .val (.ref s_VICTORY_FLAG), .val (.int (0 : Int32))] [(.ref s_VICTORY_FLAG)])) rfl (by rw [hml]; rfl) (Steps.refl _) (argsL := []) (rest := []) (lenOf pd_0 rfl) rfl (by show 2 * 0 + _ ≤ _; exact Nat.le_of_eq rfl) (hb hby at_84) (fun _ _ => ⟨rfl, e31, (by decide : 0 + 0 ≤ _), (by decide : 0 + 0 ≤ _)⟩)
            dsimp only [Pt.U, Pt.locs, Pt.cells, Pt.slots] at X32 l32 y32 z32 st32 hQ32
            subst l32 y32 z32
            obtain ⟨rfl, Nq32, e32⟩ := hQ32
            have N32 := Fr.app N0 Nq32
            refine OutW.via st32 ?_
            show OutW _ _ _ _ _ _ _ (T32.setTop (mkF m 87 #[.val (.int p1), .val (.int v1), .val (.ref s_VICTORY_FLAG), .val (.int (0 : Int32))] [(.int (namesR s_VICTORY_FLAG s_KILLS s_DIES s_BOTHDIE))]))
            refine OutW.back (fun t k => XS.iloadN X32.here hx rfl (hb hby at_87) rfl  k) ?_
            show OutW _ _ _ _ _ _ _ (T32.setTop (mkF m 88 #[.val (.int p1), .val (.int v1), .val (.ref s_VICTORY_FLAG), .val (.int (0 : Int32))] [(.int (0 : Int32)), (.int (namesR s_VICTORY_FLAG s_KILLS s_DIES s_BOTHDIE))]))
            obtain ⟨v34, hv_v34⟩ : ∃ z : Int32, z = (if (namesR s_VICTORY_FLAG s_KILLS s_DIES s_BOTHDIE) = (0 : Int32) then (1 : Int32) else (0 : Int32)) := ⟨_, rfl⟩
            have j35 : ∀ t, Steps p.tables e below (T32.setTop (mkF m 96 #[.val (.int p1), .val (.int v1), .val (.ref s_VICTORY_FLAG), .val (.int (0 : Int32))] [(.int v34)])) t → Steps p.tables e below (T32.setTop (mkF m 88 #[.val (.int p1), .val (.int v1), .val (.ref s_VICTORY_FLAG), .val (.int (0 : Int32))] [(.int (0 : Int32)), (.int (namesR s_VICTORY_FLAG s_KILLS s_DIES s_BOTHDIE))])) t := by
              intro t k
              by_cases c88_36 : (namesR s_VICTORY_FLAG s_KILLS s_DIES s_BOTHDIE) = (0 : Int32)
              · skip
                refine XS.icmpNo X32.here hx rfl (hb hby at_88) rfl (teq c88_36).2 ?_
                show Steps p.tables e below (T32.setTop (mkF m 91 #[.val (.int p1), .val (.int v1), .val (.ref s_VICTORY_FLAG), .val (.int (0 : Int32))] [])) t
                refine XS.iconst X32.here hx rfl (hb hby at_91) ?_
                show Steps p.tables e below (T32.setTop (mkF m 92 #[.val (.int p1), .val (.int v1), .val (.ref s_VICTORY_FLAG), .val (.int (0 : Int32))] [(.int (1 : Int32))])) t
                refine XS.goto X32.here hx rfl (pc0 := 92) (pc' := 96) rfl (hb hby at_92) (by decide) (by decide) ?_
                show Steps p.tables e below (T32.setTop (mkF m 96 #[.val (.int p1), .val (.int v1), .val (.ref s_VICTORY_FLAG), .val (.int (0 : Int32))] [(.int (1 : Int32))])) t
                have q_v34 : v34 = (1 : Int32) := by rw [hv_v34, if_pos c88_36]
                rw [q_v34] at k
                exact k
              · skip
                refine XS.icmpYes X32.here hx rfl (pc0 := 88) (pc' := 95) rfl (hb hby at_88) rfl (feq c88_36).2 (by decide) (by decide) ?_
                show Steps p.tables e below (T32.setTop (mkF m 95 #[.val (.int p1), .val (.int v1), .val (.ref s_VICTORY_FLAG), .val (.int (0 : Int32))] [])) t
                refine XS.iconst X32.here hx rfl (hb hby at_95) ?_
                show Steps p.tables e below (T32.setTop (mkF m 96 #[.val (.int p1), .val (.int v1), .val (.ref s_VICTORY_FLAG), .val (.int (0 : Int32))] [(.int (0 : Int32))])) t
                have q_v34 : v34 = (0 : Int32) := by rw [hv_v34, if_neg c88_36]
                rw [q_v34] at k
                exact k
            refine OutW.back j35 ?_
            show OutW _ _ _ _ _ _ _ (T32.setTop (mkF m 96 #[.val (.int p1), .val (.int v1), .val (.ref s_VICTORY_FLAG), .val (.int (0 : Int32))] [(.int v34)]))
            refine OutW.retN X32 hx (t := .boolean) (z' := 1) Bd.returns (by simp) hlk (hb hby at_96) ?hz (by decide) (by decide) ?_
            case hz =>
              have hfin : v34 = (1 : Int32) := by
                rw [hv_v34, namesR]
                simp [ne_s_OK_s_KILLS, ne_s_OK_s_DIES, ne_s_OK_s_BOTHDIE, ne_s_VICTORY_FLAG_s_KILLS, ne_s_VICTORY_FLAG_s_DIES, ne_s_VICTORY_FLAG_s_BOTHDIE, ne_s_ILLEGAL_s_KILLS, ne_s_ILLEGAL_s_DIES, ne_s_ILLEGAL_s_BOTHDIE]
              rw [hfin]; rfl
            show Q0 Z p1 s_OK s_KILLS s_DIES s_BOTHDIE s_VICTORY_FLAG s_ILLEGAL h0 n0 _ T32.heap _
            rw [e32]
            exact ⟨rfl, N32⟩
          · skip
            refine OutW.back (fun t k => XS.icmpYes X0.here hx rfl (pc0 := 65) (pc' := 77) rfl (hb hby at_65) rfl (feq c65_30).2 (by decide) (by decide) k) ?_
            show OutW _ _ _ _ _ _ _ (s₁.setTop (mkF m 77 #[.val (.int p1), .val (.int v1), .unset, .unset] []))
            obtain ⟨T37, X37, e37, st37⟩ := getS2 X0 hx hZ hown (host := "") (Or.inl (hw _ (List.mem_of_getElem? (i := 18) rfl))) Via.refl e0 S_ILLEGAL (g := (mkF m 77 #[.val (.int p1), .val (.int v1), .unset, .unset] [])) rfl (hb hby at_77)
            refine OutW.back st37 ?_
            show OutW _ _ _ _ _ _ _ (T37.setTop (mkF m 80 #[.val (.int p1), .val (.int v1), .unset, .unset] [(.ref s_ILLEGAL)]))
            refine OutW.back (fun t k => XS.astoreN X37.here hx rfl (hb hby at_80) rfl rfl (l' := #[.val (.int p1), .val (.int v1), .val (.ref s_ILLEGAL), .unset]) rfl k) ?_
            show OutW _ _ _ _ _ _ _ (T37.setTop (mkF m 81 #[.val (.int p1), .val (.int v1), .val (.ref s_ILLEGAL), .unset] []))
            refine OutW.back (fun t k => XS.iconst X37.here hx rfl (hb hby at_81) k) ?_
            show OutW _ _ _ _ _ _ _ (T37.setTop (mkF m 82 #[.val (.int p1), .val (.int v1), .val (.ref s_ILLEGAL), .unset] [(.int (0 : Int32))]))
            refine OutW.back (fun t k => XS.istoreN X37.here hx rfl (hb hby at_82) rfl (l' := #[.val (.int p1), .val (.int v1), .val (.ref s_ILLEGAL), .val (.int (0 : Int32))]) rfl k) ?_
            show OutW _ _ _ _ _ _ _ (T37.setTop (mkF m 83 #[.val (.int p1), .val (.int v1), .val (.ref s_ILLEGAL), .val (.int (0 : Int32))] []))
            refine OutW.back (fun t k => XS.aloadN X37.here hx rfl (hb hby at_83) rfl rfl  k) ?_
            show OutW _ _ _ _ _ _ _ (T37.setTop (mkF m 84 #[.val (.int p1), .val (.int v1), .val (.ref s_ILLEGAL), .val (.int (0 : Int32))] [(.ref s_ILLEGAL)]))
            obtain ⟨cq38, kq38, qa38, qb38, qc38⟩ := isOf hZ e37 E_s_ILLEGAL
            obtain ⟨_, _, ⟨T38, L38, k38, n38⟩, -, X38, ⟨Lc38, hQ38, l38, y38, z38⟩, st38⟩ := X37.virtualBack hx (y := (⟨"com/example/fogline/fogline/rules/Outcome$Kind", "namesRanks", "()Z"⟩ : MethodName)) (z := (⟨"com/example/fogline/fogline/rules/Outcome$Kind", "namesRanks", "()Z"⟩ : MethodName)) hown (mvT hZ (hw _ (List.mem_of_getElem? (i := 4) rfl))) (mvT hZ (hw _ (List.mem_of_getElem? (i := 5) rfl))) (notFace_of_selects (args := #[]) (mvT hZ (hw _ (List.mem_of_getElem? (i := 7) rfl)))) (mvT hZ (hw _ (List.mem_of_getElem? (i := 7) rfl))) (mvT hZ (hw _ (List.mem_of_getElem? (i := 6) rfl))) (by decide) (backOf (W := 0) (rm1 l Z a0 hw [] s_ILLEGAL s_KILLS s_DIES s_BOTHDIE h0 n0 Z0 S_KILLS S_DIES S_BOTHDIE) hZ (hw _ (List.mem_of_getElem? (i := 8) rfl)) (hw _ (List.mem_of_getElem? (i := 2) rfl)) (by decide) (by decide)) qa38 qc38 (g := (mkF m 84 #[.val (.int p1), .val (.int v1), .val (.ref s_ILLEGAL), .val (.int (0 : Int32))] [(.ref s_ILLEGAL)])) rfl (by rw [hml]; rfl) (Steps.refl _) (argsL := []) (rest := []) (lenOf pd_0 rfl) rfl (by show 2 * 0 + _ ≤ _; exact Nat.le_of_eq rfl) (hb hby at_84) (fun _ _ => ⟨rfl, e37, (by decide : 0 + 0 ≤ _), (by decide : 0 + 0 ≤ _)⟩)
            dsimp only [Pt.U, Pt.locs, Pt.cells, Pt.slots] at X38 l38 y38 z38 st38 hQ38
            subst l38 y38 z38
            obtain ⟨rfl, Nq38, e38⟩ := hQ38
            have N38 := Fr.app N0 Nq38
            refine OutW.via st38 ?_
            show OutW _ _ _ _ _ _ _ (T38.setTop (mkF m 87 #[.val (.int p1), .val (.int v1), .val (.ref s_ILLEGAL), .val (.int (0 : Int32))] [(.int (namesR s_ILLEGAL s_KILLS s_DIES s_BOTHDIE))]))
            refine OutW.back (fun t k => XS.iloadN X38.here hx rfl (hb hby at_87) rfl  k) ?_
            show OutW _ _ _ _ _ _ _ (T38.setTop (mkF m 88 #[.val (.int p1), .val (.int v1), .val (.ref s_ILLEGAL), .val (.int (0 : Int32))] [(.int (0 : Int32)), (.int (namesR s_ILLEGAL s_KILLS s_DIES s_BOTHDIE))]))
            obtain ⟨v40, hv_v40⟩ : ∃ z : Int32, z = (if (namesR s_ILLEGAL s_KILLS s_DIES s_BOTHDIE) = (0 : Int32) then (1 : Int32) else (0 : Int32)) := ⟨_, rfl⟩
            have j41 : ∀ t, Steps p.tables e below (T38.setTop (mkF m 96 #[.val (.int p1), .val (.int v1), .val (.ref s_ILLEGAL), .val (.int (0 : Int32))] [(.int v40)])) t → Steps p.tables e below (T38.setTop (mkF m 88 #[.val (.int p1), .val (.int v1), .val (.ref s_ILLEGAL), .val (.int (0 : Int32))] [(.int (0 : Int32)), (.int (namesR s_ILLEGAL s_KILLS s_DIES s_BOTHDIE))])) t := by
              intro t k
              by_cases c88_42 : (namesR s_ILLEGAL s_KILLS s_DIES s_BOTHDIE) = (0 : Int32)
              · skip
                refine XS.icmpNo X38.here hx rfl (hb hby at_88) rfl (teq c88_42).2 ?_
                show Steps p.tables e below (T38.setTop (mkF m 91 #[.val (.int p1), .val (.int v1), .val (.ref s_ILLEGAL), .val (.int (0 : Int32))] [])) t
                refine XS.iconst X38.here hx rfl (hb hby at_91) ?_
                show Steps p.tables e below (T38.setTop (mkF m 92 #[.val (.int p1), .val (.int v1), .val (.ref s_ILLEGAL), .val (.int (0 : Int32))] [(.int (1 : Int32))])) t
                refine XS.goto X38.here hx rfl (pc0 := 92) (pc' := 96) rfl (hb hby at_92) (by decide) (by decide) ?_
                show Steps p.tables e below (T38.setTop (mkF m 96 #[.val (.int p1), .val (.int v1), .val (.ref s_ILLEGAL), .val (.int (0 : Int32))] [(.int (1 : Int32))])) t
                have q_v40 : v40 = (1 : Int32) := by rw [hv_v40, if_pos c88_42]
                rw [q_v40] at k
                exact k
              · skip
                refine XS.icmpYes X38.here hx rfl (pc0 := 88) (pc' := 95) rfl (hb hby at_88) rfl (feq c88_42).2 (by decide) (by decide) ?_
                show Steps p.tables e below (T38.setTop (mkF m 95 #[.val (.int p1), .val (.int v1), .val (.ref s_ILLEGAL), .val (.int (0 : Int32))] [])) t
                refine XS.iconst X38.here hx rfl (hb hby at_95) ?_
                show Steps p.tables e below (T38.setTop (mkF m 96 #[.val (.int p1), .val (.int v1), .val (.ref s_ILLEGAL), .val (.int (0 : Int32))] [(.int (0 : Int32))])) t
                have q_v40 : v40 = (0 : Int32) := by rw [hv_v40, if_neg c88_42]
                rw [q_v40] at k
                exact k
            refine OutW.back j41 ?_
            show OutW _ _ _ _ _ _ _ (T38.setTop (mkF m 96 #[.val (.int p1), .val (.int v1), .val (.ref s_ILLEGAL), .val (.int (0 : Int32))] [(.int v40)]))
            refine OutW.retN X38 hx (t := .boolean) (z' := 1) Bd.returns (by simp) hlk (hb hby at_96) ?hz (by decide) (by decide) ?_
            case hz =>
              have hfin : v40 = (1 : Int32) := by
                rw [hv_v40, namesR]
                simp [ne_s_OK_s_KILLS, ne_s_OK_s_DIES, ne_s_OK_s_BOTHDIE, ne_s_VICTORY_FLAG_s_KILLS, ne_s_VICTORY_FLAG_s_DIES, ne_s_VICTORY_FLAG_s_BOTHDIE, ne_s_ILLEGAL_s_KILLS, ne_s_ILLEGAL_s_DIES, ne_s_ILLEGAL_s_BOTHDIE]
              rw [hfin]; rfl
            show Q0 Z p1 s_OK s_KILLS s_DIES s_BOTHDIE s_VICTORY_FLAG s_ILLEGAL h0 n0 _ T38.heap _
            rw [e38]
            exact ⟨rfl, N38⟩
set_option maxRecDepth 65536 in
set_option maxHeartbeats 40000000 in
theorem comes_1 {Post : Tables → Env → Array Value → State → Outcome → State → Prop} (hpost : ∀ tb e args s v u, (limb_1_1.after args s (.returned v) u = true ∧ limb_1_2.after args s (.returned v) u = true ∧ True) → FrameEnd s (.returned v) u (Jvm.fieldLocs frame_1_writes args s ++ Jvm.arrayLocs frame_1_arrays args s ++ Jvm.staticLocs frame_1_statics s) 0 0 → Post tb e args s (.returned v) u) :
    ArmFor flags0 classFile x code maxLocals ret World_1 tables_1 room_1 Calls_1 rest_1 Pre_1 Post := by
  intro l hfl _ _ p e ha hc hk s m args below hf hA hF happ hP
  obtain ⟨hcalls, hrest, hpre⟩ := hP
  obtain ⟨-, -, -, hnamed, -, -, -, hat⟩ := (Spec.applies_iff hf).mp happ
  obtain ⟨hg, hn⟩ := and_e (Cond.before_iff.mp (show (Jvm.Cond.and given_1 narrow_1).before args s = true from hpre))
  obtain ⟨hcount, hg0⟩ := and_e hg
  have ga0 := hg0
  obtain ⟨w0, rfl⟩ : ∃ w0 : Value, args = #[w0] := by
    have hs : args.size = 1 := by simpa [Cond.value, given_1] using hcount
    obtain ⟨L⟩ := args
    match L, hs with
    | [w0], _ => exact ⟨w0, rfl⟩
  have hw := fun d (hd : d ∈ tables_1) => atoms_spec (ws := Jvm.Cond.code x code maxLocals ret :: tables_1) hat d (List.mem_cons_of_mem _ hd)
  obtain ⟨i0, ei0⟩ := is_v ga0
  obtain rfl : w0 = (.int i0) := Option.some.inj ei0
  obtain ⟨na0, nr0⟩ := and_e hn
  obtain ⟨na1, nr1⟩ := and_e nr0
  obtain ⟨na2, nr2⟩ := and_e nr1
  obtain ⟨na3, nr3⟩ := and_e nr2
  obtain ⟨na4, nr4⟩ := and_e nr3
  obtain ⟨na5, nr5⟩ := and_e nr4
  obtain ⟨na6, nr6⟩ := and_e nr5
  obtain ⟨na7, nr7⟩ := and_e nr6
  obtain ⟨na8, nr8⟩ := and_e nr7
  obtain ⟨na9, nr9⟩ := and_e nr8
  obtain ⟨na10, nr10⟩ := and_e nr9
  obtain ⟨s_OK, es_OK⟩ := exa_v na0
  have Ss_OK : Sta s s.heap "com/example/fogline/fogline/rules/Outcome$Kind" "OK" "Lcom/example/fogline/fogline/rules/Outcome$Kind;" (.ref s_OK) := Sta.start es_OK (Or.inr ⟨(hw _ (List.mem_of_getElem? (i := 2) rfl)), (hw _ (List.mem_of_getElem? (i := 3) rfl))⟩)
  have Es_OK : Exa s s.heap s_OK "com/example/fogline/fogline/rules/Outcome$Kind" := Exa.start es_OK na0
  obtain ⟨s_KILLS, es_KILLS⟩ := exa_v na1
  have Ss_KILLS : Sta s s.heap "com/example/fogline/fogline/rules/Outcome$Kind" "KILLS" "Lcom/example/fogline/fogline/rules/Outcome$Kind;" (.ref s_KILLS) := Sta.start es_KILLS (Or.inr ⟨(hw _ (List.mem_of_getElem? (i := 2) rfl)), (hw _ (List.mem_of_getElem? (i := 10) rfl))⟩)
  have Es_KILLS : Exa s s.heap s_KILLS "com/example/fogline/fogline/rules/Outcome$Kind" := Exa.start es_KILLS na1
  obtain ⟨s_DIES, es_DIES⟩ := exa_v na4
  have Ss_DIES : Sta s s.heap "com/example/fogline/fogline/rules/Outcome$Kind" "DIES" "Lcom/example/fogline/fogline/rules/Outcome$Kind;" (.ref s_DIES) := Sta.start es_DIES (Or.inr ⟨(hw _ (List.mem_of_getElem? (i := 2) rfl)), (hw _ (List.mem_of_getElem? (i := 12) rfl))⟩)
  have Es_DIES : Exa s s.heap s_DIES "com/example/fogline/fogline/rules/Outcome$Kind" := Exa.start es_DIES na4
  obtain ⟨s_BOTHDIE, es_BOTHDIE⟩ := exa_v na6
  have Ss_BOTHDIE : Sta s s.heap "com/example/fogline/fogline/rules/Outcome$Kind" "BOTHDIE" "Lcom/example/fogline/fogline/rules/Outcome$Kind;" (.ref s_BOTHDIE) := Sta.start es_BOTHDIE (Or.inr ⟨(hw _ (List.mem_of_getElem? (i := 2) rfl)), (hw _ (List.mem_of_getElem? (i := 14) rfl))⟩)
  have Es_BOTHDIE : Exa s s.heap s_BOTHDIE "com/example/fogline/fogline/rules/Outcome$Kind" := Exa.start es_BOTHDIE na6
  obtain ⟨s_ILLEGAL, es_ILLEGAL⟩ := exa_v na8
  have Ss_ILLEGAL : Sta s s.heap "com/example/fogline/fogline/rules/Outcome$Kind" "ILLEGAL" "Lcom/example/fogline/fogline/rules/Outcome$Kind;" (.ref s_ILLEGAL) := Sta.start es_ILLEGAL (Or.inr ⟨(hw _ (List.mem_of_getElem? (i := 2) rfl)), (hw _ (List.mem_of_getElem? (i := 19) rfl))⟩)
  have Es_ILLEGAL : Exa s s.heap s_ILLEGAL "com/example/fogline/fogline/rules/Outcome$Kind" := Exa.start es_ILLEGAL na8
  obtain ⟨s_VICTORY_FLAG, es_VICTORY_FLAG⟩ := exa_v na10
  have Ss_VICTORY_FLAG : Sta s s.heap "com/example/fogline/fogline/rules/Outcome$Kind" "VICTORY_FLAG" "Lcom/example/fogline/fogline/rules/Outcome$Kind;" (.ref s_VICTORY_FLAG) := Sta.start es_VICTORY_FLAG (Or.inr ⟨(hw _ (List.mem_of_getElem? (i := 2) rfl)), (hw _ (List.mem_of_getElem? (i := 21) rfl))⟩)
  have Es_VICTORY_FLAG : Exa s s.heap s_VICTORY_FLAG "com/example/fogline/fogline/rules/Outcome$Kind" := Exa.start es_VICTORY_FLAG na10
  have N_ordinal_s_OK : Fld s s.heap s_OK "java/lang/Enum" "ordinal" "I" (.int (0 : Int32)) := own_fldI es_OK na2
  have N_ordinal_s_KILLS : Fld s s.heap s_KILLS "java/lang/Enum" "ordinal" "I" (.int (1 : Int32)) := own_fldI es_KILLS na3
  have N_ordinal_s_DIES : Fld s s.heap s_DIES "java/lang/Enum" "ordinal" "I" (.int (2 : Int32)) := own_fldI es_DIES na5
  have N_ordinal_s_BOTHDIE : Fld s s.heap s_BOTHDIE "java/lang/Enum" "ordinal" "I" (.int (3 : Int32)) := own_fldI es_BOTHDIE na7
  have N_ordinal_s_ILLEGAL : Fld s s.heap s_ILLEGAL "java/lang/Enum" "ordinal" "I" (.int (5 : Int32)) := own_fldI es_ILLEGAL na9
  have N_ordinal_s_VICTORY_FLAG : Fld s s.heap s_VICTORY_FLAG "java/lang/Enum" "ordinal" "I" (.int (4 : Int32)) := own_fldI es_VICTORY_FLAG nr10
  have n_OK_KILLS : s_OK ≠ s_KILLS := Fld.ne N_ordinal_s_OK N_ordinal_s_KILLS (by decide)
  have n_OK_DIES : s_OK ≠ s_DIES := Fld.ne N_ordinal_s_OK N_ordinal_s_DIES (by decide)
  have n_OK_BOTHDIE : s_OK ≠ s_BOTHDIE := Fld.ne N_ordinal_s_OK N_ordinal_s_BOTHDIE (by decide)
  have n_VICTORY_FLAG_KILLS : s_VICTORY_FLAG ≠ s_KILLS := Fld.ne N_ordinal_s_VICTORY_FLAG N_ordinal_s_KILLS (by decide)
  have n_VICTORY_FLAG_DIES : s_VICTORY_FLAG ≠ s_DIES := Fld.ne N_ordinal_s_VICTORY_FLAG N_ordinal_s_DIES (by decide)
  have n_VICTORY_FLAG_BOTHDIE : s_VICTORY_FLAG ≠ s_BOTHDIE := Fld.ne N_ordinal_s_VICTORY_FLAG N_ordinal_s_BOTHDIE (by decide)
  have n_ILLEGAL_KILLS : s_ILLEGAL ≠ s_KILLS := Fld.ne N_ordinal_s_ILLEGAL N_ordinal_s_KILLS (by decide)
  have n_ILLEGAL_DIES : s_ILLEGAL ≠ s_DIES := Fld.ne N_ordinal_s_ILLEGAL N_ordinal_s_DIES (by decide)
  have n_ILLEGAL_BOTHDIE : s_ILLEGAL ≠ s_BOTHDIE := Fld.ne N_ordinal_s_ILLEGAL N_ordinal_s_BOTHDIE (by decide)
  obtain ⟨n, o, h1, h2, h3, _, L, rfl, ⟨rfl, N⟩, hq⟩ := rm0 l s _ hw tables_1 i0 s_OK s_KILLS s_DIES s_BOTHDIE s_VICTORY_FLAG s_ILLEGAL s.heap s.heap.size (Nat.le_refl _) Ss_OK Ss_KILLS Ss_DIES Ss_BOTHDIE Ss_VICTORY_FLAG Ss_ILLEGAL Es_OK Es_KILLS Es_DIES Es_BOTHDIE Es_VICTORY_FLAG Es_ILLEGAL n_OK_KILLS n_OK_DIES n_OK_BOTHDIE n_VICTORY_FLAG_KILLS n_VICTORY_FLAG_DIES n_VICTORY_FLAG_BOTHDIE n_ILLEGAL_KILLS n_ILLEGAL_DIES n_ILLEGAL_BOTHDIE p e ha hc hk s m _ below hf ((Spec.applies_iff_loose hf).mp happ).1 ⟨rfl, State.Warmed39.refl s, rfl⟩ trivial
  refine ⟨n, _, h1, h2, h3, hpost _ _ _ _ _ _ ⟨Cond.after_iff.mpr rfl, Cond.after_iff.mpr (eq_i res_at (Term.int_eval (1)) rfl), trivial⟩ ⟨hq.1, hq.2.1, (hq.2.2.sift fun y hy => Or.inr (N y hy)).mono (by decide) (by decide)⟩⟩
theorem main_1_1 : Claimed_1_1 := comes_1 fun _ _ _ _ _ _ h hF => ⟨h.1, hF⟩
theorem main_1_2 : Claimed_1_2 := comes_1 fun _ _ _ _ _ _ h hF => ⟨h.2.1, hF⟩
end Jvm.Pilot.@@N@@
namespace Jvm.Pilot.@@N@@
open Jvm Jvm.ClassFile Sem Op Lib Jvm.Free Jvm.Stand Jvm.Pilot.@@N@@.Jvm.D
/-! MADE BY PROGRAM (witnessworld.py) out of the Statement's table words and the real class files: 12 classes; the members and pool entries that the words name. The judged class is class 1, her method 1. -/
namespace start1
open Jvm.ClassFile
def u (s : String) : CpInfo := .utf8 (stringToUtf16 s)
/-- a pool by its gaps: so many unusable entries, then the entry; so many at the end -/
def gap : Nat → List CpInfo → List CpInfo
  | 0, r => r
  | n + 1, r => .unusable :: gap n r
def poolList (es : List (Nat × CpInfo)) (last : Nat) : List CpInfo := es.foldr (fun e r => gap e.1 (e.2 :: r)) (gap last [])
def pool (es : List (Nat × CpInfo)) (last : Nat) : Array CpInfo := ⟨poolList es last⟩
def fileOf (pool : Array CpInfo) (this : Nat) (attrs : Array Attribute := #[]) (ms : Array MethodInfo := #[]) (fl : Nat := 33) (sup : Nat := 0) (ifs : Array Nat := #[]) (fds : Array FieldInfo := #[]) : ClassFile where
  minorVersion := 0
  majorVersion := 65
  constantPool := pool
  accessFlags := fl
  thisClass := this
  superClass := sup
  interfaces := ifs
  fields := fds
  methods := ms
  attributes := attrs
def plain (name : String) (sup : Option ClassId) : Class where
  name := name
  kind := .ordinary
  loader := none
  accessFlags := 33
  super := sup
  interfaces := #[]
  cf := none
  fields := #[]
  methods := #[]
  instanceTypes := #[]
  staticTypes := #[]
  resolved := #[]
  callSites := []
  init := .initialized
  statics := none
  mirror := none

def pool0 : Array CpInfo := pool [(5, u "<init>"), (0, u "()V"), (1, .class_ 10), (1, u "java/lang/Object")] 113

def k0m0 : Method := { name := "<init>", desc := "()V", sig := { parameters := [], returnType := none }, accessFlags := 1, code := none }
/-- java/lang/Object -/
def k0 : Class := { plain "java/lang/Object" none with
  accessFlags := 33
  interfaces := #[]
  cf := some (fileOf pool0 8 #[] #[{ accessFlags := 1, nameIndex := 5, descriptorIndex := 6, attributes := #[] }] 33 0 #[] #[])
  fields := #[]
  methods := #[k0m0]
  instanceTypes := #[]
  staticTypes := #[]
  resolved := Array.replicate 124 none
  statics := none }

def pool1 : Array CpInfo := pool [(2, .class_ 4), (1, u "java/lang/Object"), (0, u "<init>"), (0, u "()V"), (0, .integer 2147483647), (0, .fieldref 9 10), (0, .class_ 11), (0, .nameAndType 12 13), (0, u "com/example/fogline/fogline/rules/Outcome$Kind"), (0, u "OK"), (0, u "Lcom/example/fogline/fogline/rules/Outcome$Kind;"), (0, .fieldref 9 15), (0, .nameAndType 16 13), (0, u "KILLS"), (0, .fieldref 9 18), (0, .nameAndType 19 13), (0, u "DIES"), (0, .fieldref 9 21), (0, .nameAndType 22 13), (0, u "BOTHDIE"), (0, .fieldref 9 24), (0, .nameAndType 25 13), (0, u "VICTORY_FLAG"), (0, .fieldref 9 27), (0, .nameAndType 28 13), (0, u "ILLEGAL"), (0, .methodref 9 30), (0, .nameAndType 31 32), (0, u "namesRanks"), (0, u "()Z"), (0, .class_ 34), (0, u "com/example/fogline/fogline/rules/KindNamesRanksPinLaw"), (2, u "law"), (0, u "(I)Z")] 7

def k1m0 : Method := { name := "<init>", desc := "()V", sig := { parameters := [], returnType := none }, accessFlags := 1, code := none }
def k1c1 : Code := { maxStack := 2, maxLocals := 4, code := code, exceptionTable := #[], attributes := #[] }
def k1m1 : Method := { name := "law", desc := "(I)Z", sig := { parameters := [.int], returnType := some .boolean }, accessFlags := 9, code := some k1c1 }
/-- com/example/fogline/fogline/rules/KindNamesRanksPinLaw -/
def k1 : Class := { plain "com/example/fogline/fogline/rules/KindNamesRanksPinLaw" (some 0) with
  accessFlags := 49
  interfaces := #[]
  cf := some (fileOf pool1 33 #[] #[{ accessFlags := 1, nameIndex := 5, descriptorIndex := 6, attributes := #[] }, { accessFlags := 9, nameIndex := 37, descriptorIndex := 38, attributes := #[] }] 49 2 #[] #[])
  fields := #[]
  methods := #[k1m0, k1m1]
  instanceTypes := #[]
  staticTypes := #[]
  resolved := Array.replicate 46 none
  statics := none }

def pool2 : Array CpInfo := pool [(1, .class_ 2), (0, u "java/lang/constant/Constable"), (0, .class_ 4), (0, u "java/lang/Object")] 6

/-- java/lang/constant/Constable -/
def k2 : Class := { plain "java/lang/constant/Constable" (some 0) with
  accessFlags := 1537
  interfaces := #[]
  cf := some (fileOf pool2 1 #[] #[] 1537 3 #[] #[])
  fields := #[]
  methods := #[]
  instanceTypes := #[]
  staticTypes := #[]
  resolved := Array.replicate 11 none
  statics := none }

def pool3 : Array CpInfo := pool [(1, .class_ 2), (0, u "java/lang/Comparable"), (0, .class_ 4), (0, u "java/lang/Object")] 7

/-- java/lang/Comparable -/
def k3 : Class := { plain "java/lang/Comparable" (some 0) with
  accessFlags := 1537
  interfaces := #[]
  cf := some (fileOf pool3 1 #[] #[] 1537 3 #[] #[])
  fields := #[]
  methods := #[]
  instanceTypes := #[]
  staticTypes := #[]
  resolved := Array.replicate 12 none
  statics := none }

def pool4 : Array CpInfo := pool [(1, .class_ 2), (0, u "java/io/Serializable"), (0, .class_ 4), (0, u "java/lang/Object")] 2

/-- java/io/Serializable -/
def k4 : Class := { plain "java/io/Serializable" (some 0) with
  accessFlags := 1537
  interfaces := #[]
  cf := some (fileOf pool4 1 #[] #[] 1537 3 #[] #[])
  fields := #[]
  methods := #[]
  instanceTypes := #[]
  staticTypes := #[]
  resolved := Array.replicate 7 none
  statics := none }

def pool5 : Array CpInfo := pool [(2, .class_ 4), (1, u "java/lang/Enum"), (0, u "name"), (0, u "Ljava/lang/String;"), (2, u "ordinal"), (0, u "I"), (1, .class_ 14), (1, u "java/lang/Object"), (4, u "hash"), (86, .class_ 108), (1, u "java/lang/Enum$EnumDesc"), (2, .class_ 112), (0, u "java/lang/constant/Constable"), (0, .class_ 114), (0, u "java/lang/Comparable"), (0, .class_ 116), (0, u "java/io/Serializable")] 87

/-- java/lang/Enum -/
def k5 : Class := { plain "java/lang/Enum" (some 0) with
  accessFlags := 1057
  interfaces := #[2, 3, 4]
  cf := some (fileOf pool5 2 #[.nestMembers #[106]] #[] 1057 12 #[111, 113, 115] #[{ accessFlags := 18, nameIndex := 5, descriptorIndex := 6, attributes := #[] }, { accessFlags := 18, nameIndex := 9, descriptorIndex := 10, attributes := #[] }, { accessFlags := 2, nameIndex := 19, descriptorIndex := 10, attributes := #[] }])
  fields := #[{ name := "name", type := (.object "java/lang/String"), accessFlags := 18, slot := 0, constantValue := 0 }, { name := "ordinal", type := .int, accessFlags := 18, slot := 1, constantValue := 0 }, { name := "hash", type := .int, accessFlags := 2, slot := 2, constantValue := 0 }]
  methods := #[]
  instanceTypes := #[(.object "java/lang/String"), .int, .int]
  staticTypes := #[]
  resolved := Array.replicate 204 none
  statics := none }

def pool6 : Array CpInfo := pool [(1, .class_ 2), (0, u "com/example/fogline/fogline/rules/Outcome$Kind"), (2, u "OK"), (0, u "Lcom/example/fogline/fogline/rules/Outcome$Kind;"), (0, .fieldref 1 8), (0, .nameAndType 9 6), (0, u "KILLS"), (0, .fieldref 1 11), (0, .nameAndType 12 6), (0, u "DIES"), (0, .fieldref 1 14), (0, .nameAndType 15 6), (0, u "BOTHDIE"), (2, u "VICTORY_FLAG"), (2, u "ILLEGAL"), (2, u "$VALUES"), (0, u "[Lcom/example/fogline/fogline/rules/Outcome$Kind;"), (6, .class_ 34), (1, u "java/lang/Enum"), (24, u "namesRanks"), (0, u "()Z"), (6, .class_ 68), (0, u "com/example/fogline/fogline/rules/Outcome")] 2

def k6c0 : Code := { maxStack := 2, maxLocals := 1, code := prog_61_method_4_code, exceptionTable := #[], attributes := #[] }
def k6m0 : Method := { name := "namesRanks", desc := "()Z", sig := { parameters := [], returnType := some .boolean }, accessFlags := 1, code := some k6c0 }
/-- com/example/fogline/fogline/rules/Outcome$Kind -/
def k6 : Class := { plain "com/example/fogline/fogline/rules/Outcome$Kind" (some 5) with
  accessFlags := 16433
  interfaces := #[]
  cf := some (fileOf pool6 1 #[.nestHost 67] #[{ accessFlags := 1, nameIndex := 59, descriptorIndex := 60, attributes := #[] }] 16433 32 #[] #[{ accessFlags := 16409, nameIndex := 5, descriptorIndex := 6, attributes := #[] }, { accessFlags := 16409, nameIndex := 9, descriptorIndex := 6, attributes := #[] }, { accessFlags := 16409, nameIndex := 12, descriptorIndex := 6, attributes := #[] }, { accessFlags := 16409, nameIndex := 15, descriptorIndex := 6, attributes := #[] }, { accessFlags := 16409, nameIndex := 18, descriptorIndex := 6, attributes := #[] }, { accessFlags := 16409, nameIndex := 21, descriptorIndex := 6, attributes := #[] }, { accessFlags := 4122, nameIndex := 24, descriptorIndex := 25, attributes := #[] }])
  fields := #[{ name := "OK", type := (.object "com/example/fogline/fogline/rules/Outcome$Kind"), accessFlags := 16409, slot := 0, constantValue := 0 }, { name := "KILLS", type := (.object "com/example/fogline/fogline/rules/Outcome$Kind"), accessFlags := 16409, slot := 1, constantValue := 0 }, { name := "DIES", type := (.object "com/example/fogline/fogline/rules/Outcome$Kind"), accessFlags := 16409, slot := 2, constantValue := 0 }, { name := "BOTHDIE", type := (.object "com/example/fogline/fogline/rules/Outcome$Kind"), accessFlags := 16409, slot := 3, constantValue := 0 }, { name := "VICTORY_FLAG", type := (.object "com/example/fogline/fogline/rules/Outcome$Kind"), accessFlags := 16409, slot := 4, constantValue := 0 }, { name := "ILLEGAL", type := (.object "com/example/fogline/fogline/rules/Outcome$Kind"), accessFlags := 16409, slot := 5, constantValue := 0 }, { name := "$VALUES", type := (.array (.object "com/example/fogline/fogline/rules/Outcome$Kind")), accessFlags := 4122, slot := 6, constantValue := 0 }]
  methods := #[k6m0]
  instanceTypes := #[(.object "java/lang/String"), .int, .int]
  staticTypes := #[(.object "com/example/fogline/fogline/rules/Outcome$Kind"), (.object "com/example/fogline/fogline/rules/Outcome$Kind"), (.object "com/example/fogline/fogline/rules/Outcome$Kind"), (.object "com/example/fogline/fogline/rules/Outcome$Kind"), (.object "com/example/fogline/fogline/rules/Outcome$Kind"), (.object "com/example/fogline/fogline/rules/Outcome$Kind"), (.array (.object "com/example/fogline/fogline/rules/Outcome$Kind"))]
  resolved := Array.replicate 71 none
  statics := some 0 }

def pool7 : Array CpInfo := pool [(1, u "java/lang/Cloneable"), (0, .class_ 1), (0, u "java/lang/Object"), (0, .class_ 3)] 3

/-- java/lang/Cloneable -/
def k7 : Class := { plain "java/lang/Cloneable" (some 0) with
  accessFlags := 1537
  interfaces := #[]
  cf := some (fileOf pool7 2 #[] #[] 1537 4 #[] #[])
  fields := #[]
  methods := #[]
  instanceTypes := #[]
  staticTypes := #[]
  resolved := Array.replicate 8 none
  statics := none }

/-- the primitive byte -/
def k8 : Class := { plain "byte" none with kind := .primitive 'B', accessFlags := 0x411 }
/-- [B -/
def k9 : Class := { plain "[B" (some 0) with kind := .array 8 .byte, interfaces := #[7, 4], accessFlags := 1041 }

/-- the primitive int -/
def k10 : Class := { plain "int" none with kind := .primitive 'I', accessFlags := 0x411 }
/-- [I -/
def k11 : Class := { plain "[I" (some 0) with kind := .array 10 .int, interfaces := #[7, 4], accessFlags := 1041 }

def heap : Heap := #[{ cls := 6, slots := #[.ref 1, .ref 2, .ref 3, .ref 4, .ref 5, .ref 6, .null], vm := .statics 6 },
  { cls := 6, slots := #[.null, .int 0, .int 0], vm := .none },
  { cls := 6, slots := #[.null, .int 1, .int 0], vm := .none },
  { cls := 6, slots := #[.null, .int 2, .int 0], vm := .none },
  { cls := 6, slots := #[.null, .int 3, .int 0], vm := .none },
  { cls := 6, slots := #[.null, .int 4, .int 0], vm := .none },
  { cls := 6, slots := #[.null, .int 5, .int 0], vm := .none }]
def classes : Array Class := #[k0, k1, k2, k3, k4, k5, k6, k7, k8, k9, k10, k11]
def interned : List (Array UInt16 × Addr) := []
def slotsUsed : Nat := 25
def theMethod : MethodId := ⟨1, 1⟩
def args0 : Array Value := #[.int 5]
def aboutOver (below : List Frame) : State where
  vm := { classes := classes, interned := interned.toArray }
  heap := heap
  slotsUsed := slotsUsed
  threads := #[{ frames := .invoking theMethod args0 :: below }]
def below0 : List Frame := [.native { method := ⟨0, 0⟩, args := #[] }]
def about1 : State := aboutOver below0
def p0 : Program := .bare "" "" ""
def e0 : Env := launch0.env 0 0 0
theorem w_frames : about1.frames = Frame.invoking theMethod args0 :: below0 := rfl
set_option maxRecDepth 65536 in
theorem w_args : argsFit about1.vm theMethod args0 = true := by decide +kernel
set_option maxRecDepth 65536 in
theorem w_heap : heapFits about1 = true := by decide +kernel
set_option maxRecDepth 65536 in
theorem w_runnable : about1.curStatus? = some .runnable := by decide +kernel
set_option maxRecDepth 65536 in
theorem w_alone : about1.alone = true := by decide +kernel
set_option maxRecDepth 65536 in
theorem w_named : about1.methodNamed? x = some theMethod := by decide +kernel
set_option maxRecDepth 65536 in
theorem w_hears : about1.hears theMethod below0 = true := by decide +kernel
set_option maxRecDepth 65536 in
theorem w_ripe : about1.ripe theMethod args0 below0 = true := by decide +kernel
theorem w_running : about1.status = .running := rfl
set_option maxRecDepth 65536 in
theorem w_room : about1.hasRoom e0.platform room_1 = true :=
  launch0.hasRoom_least _ room_1 (by decide +kernel) (by decide +kernel) (by decide +kernel) (by decide +kernel) (by decide +kernel) (by decide +kernel)
theorem allAtoms_all (ts : List Jvm.Cond) (a : Array Jvm.Value) (st : Jvm.State) : (allAtoms ts).before a st = ts.all (fun c => c.before a st) := by
  induction ts with
  | nil => rfl
  | cons c t ih =>
    show (Jvm.Cond.and c (allAtoms t)).before a st = _
    rw [Jvm.Cond.before_and, ih, List.all_cons]
def words1 : List Jvm.Cond := Jvm.Cond.code x code maxLocals ret :: tables_1
/-- a 'code' word, met by the world's own term for the bytes: nothing is compared byte by byte -/
theorem code_word {y : MethodName} {bytes : ByteArray} {mx : Nat} {rt : Option FieldType} {a : Array Value} {s : State} {m : MethodId} {meth : Method} {c : Code} (h1 : s.methodNamed? y = some m) (h2 : s.vm.method? m = some meth) (h3 : meth.code = some c) (h4 : c.code = bytes)
    (h5 : (c.maxLocals == mx && c.exceptionTable.isEmpty && decide (c.maxStack ≤ mostOperands) && decide (meth.sig.returnType = rt) && !meth.locks && decide (parseMethodDescriptor y.desc = some meth.sig)) = true) : (Jvm.Cond.code y bytes mx rt).before a s = true := by
  simp only [Bool.and_eq_true, beq_iff_eq, Bool.not_eq_true', decide_eq_true_eq] at h5
  obtain ⟨⟨⟨⟨⟨g1, g2⟩, g3⟩, g4⟩, g5⟩, g6⟩ := h5
  simp [Cond.before, Cond.holds, Cond.value, h1, h2, h3, h4, g1, g2, g3, g4, g5, g6]
def isCode : Jvm.Cond → Bool
  | .code _ _ _ _ => true
  | _ => false
theorem all_split {L : List Jvm.Cond} {P : Jvm.Cond → Bool} (h1 : L.all (fun c => isCode c || P c) = true) (h2 : ∀ c ∈ L.filter isCode, P c = true) : L.all P = true := by
  refine List.all_eq_true.mpr fun c hc => ?_
  have h := List.all_eq_true.mp h1 c hc
  rcases Bool.eq_false_or_eq_true (isCode c) with hi | hi
  · exact h2 c (List.mem_filter.mpr ⟨hc, hi⟩)
  · simpa [hi] using h
set_option maxRecDepth 65536 in
theorem w_c0 : (Jvm.Cond.code x code maxLocals ret).before args0 about1 = true := code_word (m := ⟨1, 1⟩) (meth := k1m1) (c := k1c1) (by decide +kernel) rfl rfl rfl (by decide +kernel)
set_option maxRecDepth 65536 in
theorem w_c1 : (Jvm.Cond.code ({ cls := "com/example/fogline/fogline/rules/Outcome$Kind", name := "namesRanks", desc := "()Z" } : Jvm.MethodName) prog_61_method_4_code (1 : Nat) (Option.some Jvm.ClassFile.FieldType.boolean)).before args0 about1 = true := code_word (m := ⟨6, 0⟩) (meth := k6m0) (c := k6c0) (by decide +kernel) rfl rfl rfl (by decide +kernel)
def codes1 : List Jvm.Cond := [Jvm.Cond.code x code maxLocals ret, Jvm.Cond.code ({ cls := "com/example/fogline/fogline/rules/Outcome$Kind", name := "namesRanks", desc := "()Z" } : Jvm.MethodName) prog_61_method_4_code (1 : Nat) (Option.some Jvm.ClassFile.FieldType.boolean)]
set_option maxRecDepth 65536 in
theorem codes_eq : words1.filter isCode = codes1 := rfl
theorem w_codes : ∀ c ∈ words1.filter isCode, c.before args0 about1 = true := by
  rw [codes_eq]
  intro c hc
  simp only [codes1, List.mem_cons, List.not_mem_nil, or_false] at hc
  rcases hc with rfl | rfl
  · exact w_c0
  · exact w_c1
set_option maxRecDepth 65536 in
theorem w_t1 : words1.all (fun c => isCode c || c.before args0 about1) = true := by decide +kernel
theorem w_tables : (allAtoms (Jvm.Cond.code x code maxLocals ret :: tables_1)).before args0 about1 = true := by
  rw [allAtoms_all]
  show words1.all (fun c => c.before args0 about1) = true
  refine all_split ?_ w_codes
  rw [w_t1]
set_option maxRecDepth 65536 in
theorem w_case : (Jvm.Cond.and given_1 narrow_1).before args0 about1 = true := by decide +kernel
theorem w_applies : (headSpec (Jvm.Cond.code x code maxLocals ret :: tables_1) room_1).applies x e0.platform about1 = true :=
  (Spec.applies_iff w_frames).mpr ⟨w_running, w_runnable, w_alone, w_named, w_hears, w_ripe, w_room, w_tables⟩
theorem atStart : AtStart classFile x code maxLocals ret World_1 tables_1 room_1 Calls_1 rest_1 Pre_1 launch0 p0 e0 about1 theMethod args0 below0 :=
  ⟨lists_1, trivial, launch0.admits_env _ _ _, launch0.least_env, fairChoices_fair.cas, fairChoices_fair.clock, w_frames, w_args, w_heap, w_applies, trivial, trivial, w_case⟩
end start1
theorem witness_1 : WitnessClaimed_1 := ⟨start1.p0, start1.e0, start1.about1, start1.theMethod, start1.args0, start1.below0, start1.atStart⟩
end Jvm.Pilot.@@N@@
