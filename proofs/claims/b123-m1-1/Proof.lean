import JvmDerived
import JvmDerived.Pilot.@@N@@Statement
import JvmDerived.Pilot.@@N@@Code
set_option linter.unusedVariables false
set_option linter.unusedSimpArgs false
namespace Jvm.RoadKit
open Sem ClassFile Op Lib Jvm.Stand Jvm.Free Jvm.LawKit
section Own
variable {p : Program} {l : Launch} {e : Env} {R : Room} {s : State} {m : MethodId} {args : Array Value} {below : List Frame} {meth : Method} {c : Code} {T A B : State} {locs : List Loc} {cells slots K N : Nat} {Q : Option Value → Heap → List Loc → Prop}
/-- from A the walk comes to its end, and Q holds there -/
def OutW (p : Program) (e : Env) (below : List Frame) (s : State) (K N : Nat) (Q : Option Value → Heap → List Loc → Prop) (A : State) : Prop :=
  ∃ s₂ o, Steps p.tables e below A s₂ ∧ s₂.status = .running ∧ Ended s₂ below o ∧ ∃ v L, o = .returned v ∧ Q v s₂.heap L ∧ FrameEnd s o s₂ L K N
/-- a body that writes nothing: what it returns -/
def Qpure (h0 : Heap) (n0 : Nat) (r : Value) (v : Option Value) (h : Heap) (L : List Loc) : Prop := v = some r ∧ Fr n0 L ∧ h = h0
theorem OutW.back (h : ∀ t, Steps p.tables e below B t → Steps p.tables e below A t) (k : OutW p e below s K N Q B) : OutW p e below s K N Q A := by
  obtain ⟨t, o, h1, h2⟩ := k
  exact ⟨t, o, h t h1, h2⟩
theorem OutW.via (h : Steps p.tables e below A B) (k : OutW p e below s K N Q B) : OutW p e below s K N Q A := by
  obtain ⟨t, o, h1, h2⟩ := k
  exact ⟨t, o, h.trans h1, h2⟩
theorem OutW.retV (X : Stand p l e R s m args below meth c T locs cells slots) (hx : p.tables.exec = Jvm.exec) {pc : Nat} {Ls : Array Slot} (hret : meth.sig.returnType = none) (hlk : meth.locks = false) (hd : decode c.code pc = .ok (.return_, 1))
    (hK : cells ≤ K) (hN : slots ≤ N) (hq : Q none T.heap locs) : OutW p e below s K N Q (T.setTop (mkF m pc Ls [])) := by
  obtain ⟨fs, hr, hrun, hended, hW, hsame⟩ := X.leave (v := none) (fun _ => rfl) hlk
  exact ⟨_, _, X.returnOut hx hret hd hr, hrun, hended, _, _, rfl, hq, ⟨_, rfl⟩, hW, hsame.mono hK hN⟩
theorem OutW.retI (X : Stand p l e R s m args below meth c T locs cells slots) (hx : p.tables.exec = Jvm.exec) {pc : Nat} {Ls : Array Slot} {z : Int32} {rest : List Value} (hret : meth.sig.returnType = some .int) (hlk : meth.locks = false) (hd : decode c.code pc = .ok (.ireturn, 1))
    (hK : cells ≤ K) (hN : slots ≤ N) (hq : Q (some (.int z)) T.heap locs) : OutW p e below s K N Q (T.setTop (mkF m pc Ls (.int z :: rest))) := by
  obtain ⟨fs, hr, hrun, hended, hW, hsame⟩ := X.leave (v := some (.int z)) (fun h => by rw [hret] at h; cases h) hlk
  exact ⟨_, _, retOut X hx hret rfl (Or.inl ⟨rfl, Or.inl rfl, z, rfl⟩) hd hr, hrun, hended, _, _, rfl, hq, ⟨_, rfl⟩, hW, hsame.mono hK hN⟩
theorem OutW.retJ (X : Stand p l e R s m args below meth c T locs cells slots) (hx : p.tables.exec = Jvm.exec) {pc : Nat} {Ls : Array Slot} {z : Int64} {rest : List Value} (hret : meth.sig.returnType = some .long) (hlk : meth.locks = false) (hd : decode c.code pc = .ok (.lreturn, 1))
    (hK : cells ≤ K) (hN : slots ≤ N) (hq : Q (some (.long z)) T.heap locs) : OutW p e below s K N Q (T.setTop (mkF m pc Ls (.long z :: rest))) := by
  obtain ⟨fs, hr, hrun, hended, hW, hsame⟩ := X.leave (v := some (.long z)) (fun h => by rw [hret] at h; cases h) hlk
  exact ⟨_, _, retOut X hx hret rfl (Or.inr (Or.inl ⟨rfl, rfl, z, rfl⟩)) hd hr, hrun, hended, _, _, rfl, hq, ⟨_, rfl⟩, hW, hsame.mono hK hN⟩
theorem nar_ref {t : FieldType} {v : Value} (h : v.isRef = true) : narrow t v = v := by
  rcases ref_cases h with rfl | ⟨a, rfl⟩ <;> cases t <;> rfl
theorem cat_ref {v : Value} (h : v.isRef = true) : v.category = 1 := by
  rcases ref_cases h with rfl | ⟨a, rfl⟩ <;> rfl
theorem fit_ref {t : FieldType} {v : Value} (ht : refKind t = true) (h : v.isRef = true) : fits t v = true := by
  rcases ref_cases h with rfl | ⟨a, rfl⟩ <;> cases t <;> first | rfl | (simp [refKind] at ht)
theorem OutW.retA (X : Stand p l e R s m args below meth c T locs cells slots) (hx : p.tables.exec = Jvm.exec) {pc : Nat} {Ls : Array Slot} {w : Value} {t : FieldType} {rest : List Value} (hret : meth.sig.returnType = some t) (ht : t.isReference = true) (hw : w.isRef = true) (hlk : meth.locks = false) (hd : decode c.code pc = .ok (.areturn, 1))
    (hK : cells ≤ K) (hN : slots ≤ N) (hq : Q (some w) T.heap locs) : OutW p e below s K N Q (T.setTop (mkF m pc Ls (w :: rest))) := by
  obtain ⟨fs, hr, hrun, hended, hW, hsame⟩ := X.leave (v := some w) (fun h => by rw [hret] at h; cases h) hlk
  exact ⟨_, _, retOut X hx hret (nar_ref hw) (Or.inr (Or.inr (Or.inr (Or.inr ⟨rfl, ht, hw⟩)))) hd hr, hrun, hended, _, _, rfl, hq, ⟨_, rfl⟩, hW, hsame.mono hK hN⟩
theorem OutW.retN (X : Stand p l e R s m args below meth c T locs cells slots) (hx : p.tables.exec = Jvm.exec) {pc : Nat} {Ls : Array Slot} {z z' : Int32} {t : FieldType} {rest : List Value} (hret : meth.sig.returnType = some t) (ht : t = .boolean ∨ t = .byte ∨ t = .char ∨ t = .short) (hlk : meth.locks = false) (hd : decode c.code pc = .ok (.ireturn, 1)) (hz : nar t z = z')
    (hK : cells ≤ K) (hN : slots ≤ N) (hq : Q (some (.int z')) T.heap locs) : OutW p e below s K N Q (T.setTop (mkF m pc Ls (.int z :: rest))) := by
  subst hz
  obtain ⟨fs, hr, hrun, hended, hW, hsame⟩ := X.leave (v := some (.int (nar t z))) (fun h => by rw [hret] at h; cases h) hlk
  exact ⟨_, _, Jvm.RoadKit.retN X hx hret ht hd hr, hrun, hended, _, _, rfl, hq, ⟨_, rfl⟩, hW, hsame.mono hK hN⟩
theorem store1' {L L' : Array Slot} {i : Nat} {v : Value} {o : Slot} (hold : L[i]? = some o) (ho : One o) (hv : v.category = 1) (h : L.setIfInBounds i (.val v) = L') : storeLocals L i v = some L' := h ▸ XS.store1 hold ho hv
theorem own_lt_mono {x a b : Int32} (h : x < a) (q : a ≤ b) : x < b := by
  rw [Int32.lt_iff_toInt_lt] at *
  rw [Int32.le_iff_toInt_le] at q
  omega
theorem own_nlt_mono {x a b : Int32} (h : ¬ x < a) (q : b ≤ a) : ¬ x < b := by
  rw [Int32.lt_iff_toInt_lt] at *
  rw [Int32.le_iff_toInt_le] at q
  omega
/-- every element of the array's cell is an object of exactly that class -/
def Els (Z : State) (h : Heap) (cl : Cell) (C : String) : Prop := ∀ j : Int32, ¬ (j < 0 ∨ cl.slots.size ≤ j.toNatClampNeg) → ∃ y : Addr, cl.slots[j.toNatClampNeg]? = some (.ref y) ∧ Exa Z h y C
theorem own_Uext {Z : State} {h h' : Heap} {cl : Cell} {C : String} (U : Els Z h cl C) (E : Ext h h') : Els Z h' cl C := fun j hj => by
  obtain ⟨y, a, b⟩ := U j hj
  exact ⟨y, a, b.ext E⟩
theorem own_Uwr {Z : State} {h h' : Heap} {cl : Cell} {C : String} {a : Addr} {sl : Nat} {v : Value} (U : Els Z h cl C) (W : Wr h h' a sl v) : Els Z h' cl C := fun j hj => by
  obtain ⟨y, q, b⟩ := U j hj
  exact ⟨y, q, b.wr W⟩
theorem own_Ukeep {Z : State} {h h' : Heap} {cl : Cell} {C : String} {ws : List Addr} (U : Els Z h cl C) (K : Keep h h' ws) : Els Z h' cl C := fun j hj => by
  obtain ⟨y, a, b⟩ := U j hj
  exact ⟨y, a, b.keep K⟩
theorem own_Akeep {Z : State} {h h' : Heap} {a : Addr} {c : Cell} {ty : FieldType} {ws : List Addr} (A : Arr Z h a c ty) (K : Keep h h' ws) (q : a ∉ ws) : Arr Z h' a c ty := ⟨K.2.1 a c A.1 q, A.2⟩
theorem own_keepS {Z : State} {h h' : Heap} {C n d : String} {v : Value} {ws : List Addr} (F : Sta Z h C n d v) (K : Keep h h' ws) (q : ∀ x ∈ ws, ∃ C', Exa Z h x C') : Sta Z h' C n d v := by
  obtain ⟨cf, i, k, f, st, cell, h1, h2, h3, h4, h5, h6, h7⟩ := F
  have ne : st ∉ ws := fun hm => by
    obtain ⟨C', c', k', e1, -, -, e4, -⟩ := q st hm
    cases h5.symm.trans e1
    rw [h6] at e4; cases e4
  exact ⟨cf, i, k, f, st, cell, h1, h2, h3, h4, K.2.1 _ _ h5 ne, h6, h7⟩
end Own
end Jvm.RoadKit
namespace Jvm.Pilot.@@N@@
open Jvm Jvm.ClassFile Sem Op Lib Jvm.Free Jvm.Stand Jvm.LawKit Jvm.RoadKit Bundle Jvm.Pilot.@@N@@.Jvm.D
theorem own_fldI {args : Array Value} {s : State} {t : Term} {x : Addr} {C n dd : String} {k : Int32} (ht : t.eval args s none [] s = some (.ref x)) (h : (Jvm.Cond.eq (.field t C n dd) (.int k)).value args s none s [] = some true) : Fld s s.heap x C n dd (.int k) := by
  simp only [Cond.value, fld_at ht, Term.int_eval] at h
  cases hf : s.fieldOf? x C n dd with
  | none => simp [hf] at h
  | some u =>
    cases u <;> simp [hf] at h
    subst h
    exact Fld.start hf
theorem own_fldR {args : Array Value} {s : State} {t t' : Term} {x y : Addr} {C n dd : String} (ht : t.eval args s none [] s = some (.ref x)) (ht' : t'.eval args s none [] s = some (.ref y)) (h : (Jvm.Cond.eq (.field t C n dd) t').value args s none s [] = some true) : Fld s s.heap x C n dd (.ref y) := by
  simp only [Cond.value, fld_at ht, ht'] at h
  cases hf : s.fieldOf? x C n dd with
  | none => simp [hf] at h
  | some u =>
    cases u <;> simp [hf] at h
    subst h
    exact Fld.start hf
theorem own_fldN {args : Array Value} {s : State} {t : Term} {x : Addr} {C n dd : String} (ht : t.eval args s none [] s = some (.ref x)) (h : (Jvm.Cond.eq (.field t C n dd) .null).value args s none s [] = some true) : Fld s s.heap x C n dd .null := by
  have q := null_v h
  rw [fld_at ht] at q
  exact Fld.start q
def ofW (a1 : Addr) (k_w : Addr) : Int32 := (if a1 = k_w then (1 : Int32) else (0 : Int32))
theorem d1_0 : decode prog_12_method_7_code 0 = .ok (.aload_n 0, 1) := by decide +kernel
theorem d1_1 : decode prog_12_method_7_code 1 = .ok (.getstatic 31, 3) := by decide +kernel
theorem d1_4 : decode prog_12_method_7_code 4 = .ok (.if_acmp .ne 7, 3) := by decide +kernel
theorem d1_7 : decode prog_12_method_7_code 7 = .ok (.iconst 1, 1) := by decide +kernel
theorem d1_8 : decode prog_12_method_7_code 8 = .ok (.goto 4, 3) := by decide +kernel
theorem d1_11 : decode prog_12_method_7_code 11 = .ok (.iconst 0, 1) := by decide +kernel
theorem d1_12 : decode prog_12_method_7_code 12 = .ok (.ireturn, 1) := by decide +kernel
theorem pn_1 : plainName "com/example/daily_spend_pacer/dailyspendpacer/io/ReplayEvent$Kind" = true := by first | (simp [plainName, overriddenIn]; done) | decide +kernel
theorem ef_1 (m : MethodId) (x0 : Addr) : entryFrame m #[(.ref x0)] 1 = mkF m 0 #[.val (.ref x0)] [] := by first | (simp [entryFrame, mkF, argsToLocals, Value.category]; done) | rfl
def Q1 (Z : State) (a1 : Addr) (k_w : Addr) (h0 : Heap) (n0 : Nat) (v : Option Value) (h : Heap) (L : List Loc) : Prop := v = some (.int (ofW a1 k_w)) ∧ Fr n0 L ∧ h = h0
set_option maxRecDepth 65536 in
set_option maxHeartbeats 40000000 in
theorem rm1 (l : Launch) (Z : State) (a0 : Array Value) (hw : ∀ d ∈ tables_1, d.before a0 Z = true) (ws : List Jvm.Cond) (a1 : Addr) (k_w : Addr) (h0 : Heap) (n0 : Nat) (Z0 : n0 ≤ h0.size) (S_WALLET_DAILY_CAP : Sta Z h0 "com/example/daily_spend_pacer/dailyspendpacer/io/ReplayEvent$Kind" "WALLET_DAILY_CAP" "Lcom/example/daily_spend_pacer/dailyspendpacer/io/ReplayEvent$Kind;" (.ref k_w)) :
    MetFree l (⟨"com/example/daily_spend_pacer/dailyspendpacer/io/ReplayEvent$Kind", "ofWallet", "()Z"⟩ : MethodName) (head1 (Jvm.Cond.code (⟨"com/example/daily_spend_pacer/dailyspendpacer/io/ReplayEvent$Kind", "ofWallet", "()Z"⟩ : MethodName) prog_12_method_7_code 1 (some .boolean) :: ws) ({ frames := 0, cells := 0, slots := 0, locals := 0 } : Room)) (fun a U => a = #[(.ref a1)] ∧ Z.Warmed39 U.vm ∧ U.heap = h0) (fun _ _ _ _ _ => True) (fun _ U o U' => ∃ v L, o = .returned v ∧ Q1 Z a1 k_w h0 n0 v U'.heap L ∧ FrameEnd U o U' L ({ frames := 0, cells := 0, slots := 0, locals := 0 } : Room).cells ({ frames := 0, cells := 0, slots := 0, locals := 0 } : Room).slots) := by
  refine MetFree.of_bodySF (plainFor_of_name pn_1) hisR ?_
  intro p e s m args below meth c s₁ Bd hml0 hP hK
  obtain ⟨rfl, hZ, hh⟩ := hP
  have hx := Bd.exec
  have hby := Bd.bytes
  have hlk := Bd.notSynchronized
  have hml : c.maxLocals = 1 := hml0
  have hown : s.vm.findClass "com/example/daily_spend_pacer/dailyspendpacer/io/ReplayEvent$Kind" = some m.cls := findClass_of_methodNamed Bd.named
  have hnm := (name_of_methodNamed Bd.named Bd.method).1
  have X0 : Stand p l e ({ frames := 0, cells := 0, slots := 0, locals := 0 } : Room) s m #[(.ref a1)] below meth c s₁ [] 0 0 := Stand.of_body Bd
  have e0 : s₁.heap = h0 := by rw [← hh, Bd.state]; rfl
  have N0 := Fr.nil n0
  have K0 : Keep h0 h0 [] := Keep.refl h0 _
  show OutW p e below s ({ frames := 0, cells := 0, slots := 0, locals := 0 } : Room).cells ({ frames := 0, cells := 0, slots := 0, locals := 0 } : Room).slots (Q1 Z a1 k_w h0 n0) _
  refine OutW.back (fun t k => castTop (ef_1 m a1) k) ?_
  show OutW _ _ _ _ _ _ _ (s₁.setTop (mkF m 0 #[.val (.ref a1)] []))
  refine OutW.back (fun t k => XS.aloadN X0.here hx rfl (hb hby d1_0) rfl rfl  k) ?_
  show OutW _ _ _ _ _ _ _ (s₁.setTop (mkF m 1 #[.val (.ref a1)] [(.ref a1)]))
  obtain ⟨T1, X1, e1, st1⟩ := getS2 X0 hx hZ hown (host := "") (Or.inl (hw _ (List.mem_of_getElem? (i := 41) rfl))) Via.refl e0 S_WALLET_DAILY_CAP (g := (mkF m 1 #[.val (.ref a1)] [(.ref a1)])) rfl (hb hby d1_1)
  refine OutW.back st1 ?_
  show OutW _ _ _ _ _ _ _ (T1.setTop (mkF m 4 #[.val (.ref a1)] [(.ref k_w), (.ref a1)]))
  by_cases c4_2 : a1 = k_w
  · skip
    refine OutW.back (fun t k => Jvm.RoadKit.acmp (g := (mkF m 4 #[.val (.ref a1)] [(.ref k_w), (.ref a1)])) X1 hx rfl rfl rfl (pc0 := 4) (pc' := 7) (same := true) rfl (hb hby d1_4) rfl (decide_eq_true (congrArg Value.ref c4_2)) (by decide) (by decide) k) ?_
    show OutW _ _ _ _ _ _ _ (T1.setTop (mkF m 7 #[.val (.ref a1)] []))
    refine OutW.back (fun t k => XS.iconst X1.here hx rfl (hb hby d1_7) k) ?_
    show OutW _ _ _ _ _ _ _ (T1.setTop (mkF m 8 #[.val (.ref a1)] [(.int (1 : Int32))]))
    refine OutW.back (fun t k => XS.goto X1.here hx rfl (pc0 := 8) (pc' := 12) rfl (hb hby d1_8) (by decide) (by decide) k) ?_
    show OutW _ _ _ _ _ _ _ (T1.setTop (mkF m 12 #[.val (.ref a1)] [(.int (1 : Int32))]))
    refine OutW.retN X1 hx (t := .boolean) (z' := (1 : Int32)) Bd.returns (by simp) hlk (hb hby d1_12) ?hz (by decide) (by decide) ?_
    case hz =>
      rfl
    show Q1 Z a1 k_w h0 n0 _ T1.heap _
    rw [e1]
    exact ⟨by rw [ofW, if_pos c4_2], N0, rfl⟩
  · skip
    refine OutW.back (fun t k => Jvm.RoadKit.acmp (g := (mkF m 4 #[.val (.ref a1)] [(.ref k_w), (.ref a1)])) X1 hx rfl rfl rfl (pc0 := 4) (pc' := 11) (same := false) rfl (hb hby d1_4) rfl (decide_eq_false (fun q => c4_2 (Value.ref.inj q))) (by decide) (by decide) k) ?_
    show OutW _ _ _ _ _ _ _ (T1.setTop (mkF m 11 #[.val (.ref a1)] []))
    refine OutW.back (fun t k => XS.iconst X1.here hx rfl (hb hby d1_11) k) ?_
    show OutW _ _ _ _ _ _ _ (T1.setTop (mkF m 12 #[.val (.ref a1)] [(.int (0 : Int32))]))
    refine OutW.retN X1 hx (t := .boolean) (z' := (0 : Int32)) Bd.returns (by simp) hlk (hb hby d1_12) ?hz (by decide) (by decide) ?_
    case hz =>
      rfl
    show Q1 Z a1 k_w h0 n0 _ T1.heap _
    rw [e1]
    exact ⟨by rw [ofW, if_neg c4_2], N0, rfl⟩
theorem own_eleven (m v : Int32) (h : ((m &&& (2147483647 : Int32)) % (11 : Int32)) = v) : v = (0 : Int32) ∨ v = (1 : Int32) ∨ v = (2 : Int32) ∨ v = (3 : Int32) ∨ v = (4 : Int32) ∨ v = (5 : Int32) ∨ v = (6 : Int32) ∨ v = (7 : Int32) ∨ v = (8 : Int32) ∨ v = (9 : Int32) ∨ v = (10 : Int32) := by
  have q := c_and m (2147483647 : Int32) (by decide)
  have r := (c_irem (m &&& (2147483647 : Int32)) (11 : Int32) 11 (by decide)).1 q.1
  rw [h] at r
  simp only [← Int32.toInt_inj, Int32.reduceToInt] at q ⊢
  omega
theorem pd_0 : parseMethodDescriptor "()Z" = some ⟨[], some .boolean⟩ := by decide +kernel
theorem pn_0 : plainName "com/example/daily_spend_pacer/dailyspendpacer/io/KindOfWalletPinLaw" = true := by first | (simp [plainName, overriddenIn]; done) | decide +kernel
theorem ef_0 (m : MethodId) (x0 : Int32) : entryFrame m #[(.int x0)] maxLocals = mkF m 0 #[.val (.int x0), .unset, .unset, .unset] [] := by first | (simp [entryFrame, mkF, argsToLocals, Value.category, maxLocals]; done) | rfl
def Q0 (Z : State) (p1 : Int32) (s_DAILY_CAP : Addr) (s_MONTHLY_CAP : Addr) (s_TOTAL_CAP : Addr) (s_CHARGE : Addr) (s_AVERAGE_DAILY_LIMIT : Addr) (s_WEEKLY_AVERAGE_DAILY_LIMIT : Addr) (s_REMOVE_AVERAGE_DAILY_LIMIT : Addr) (s_END_DATE : Addr) (s_LIFETIME_BUDGET : Addr) (s_WALLET_DAILY_CAP : Addr) (s_WALLET : Addr) (s_CAP : Addr) (s_DAILY : Addr) (s_MONTHLY : Addr) (s_TOTAL : Addr) (s_AMOUNT : Addr) (s_LIMIT : Addr) (s_NONE : Addr) (s_DATE : Addr) (s_ReplayEvent_Value_WALLET : Addr) (h0 : Heap) (n0 : Nat) (v : Option Value) (h : Heap) (L : List Loc) : Prop := v = some (.int 1) ∧ Fr n0 L
set_option maxRecDepth 65536 in
set_option maxHeartbeats 40000000 in
theorem rm0 (l : Launch) (Z : State) (a0 : Array Value) (hw : ∀ d ∈ tables_1, d.before a0 Z = true) (ws : List Jvm.Cond) (p1 : Int32) (s_DAILY_CAP : Addr) (s_MONTHLY_CAP : Addr) (s_TOTAL_CAP : Addr) (s_CHARGE : Addr) (s_AVERAGE_DAILY_LIMIT : Addr) (s_WEEKLY_AVERAGE_DAILY_LIMIT : Addr) (s_REMOVE_AVERAGE_DAILY_LIMIT : Addr) (s_END_DATE : Addr) (s_LIFETIME_BUDGET : Addr) (s_WALLET_DAILY_CAP : Addr) (s_WALLET : Addr) (s_CAP : Addr) (s_DAILY : Addr) (s_MONTHLY : Addr) (s_TOTAL : Addr) (s_AMOUNT : Addr) (s_LIMIT : Addr) (s_NONE : Addr) (s_DATE : Addr) (s_ReplayEvent_Value_WALLET : Addr) (h0 : Heap) (n0 : Nat) (Z0 : n0 ≤ h0.size) (S_DAILY_CAP : Sta Z h0 "com/example/daily_spend_pacer/dailyspendpacer/io/ReplayEvent$Kind" "DAILY_CAP" "Lcom/example/daily_spend_pacer/dailyspendpacer/io/ReplayEvent$Kind;" (.ref s_DAILY_CAP)) (S_MONTHLY_CAP : Sta Z h0 "com/example/daily_spend_pacer/dailyspendpacer/io/ReplayEvent$Kind" "MONTHLY_CAP" "Lcom/example/daily_spend_pacer/dailyspendpacer/io/ReplayEvent$Kind;" (.ref s_MONTHLY_CAP)) (S_TOTAL_CAP : Sta Z h0 "com/example/daily_spend_pacer/dailyspendpacer/io/ReplayEvent$Kind" "TOTAL_CAP" "Lcom/example/daily_spend_pacer/dailyspendpacer/io/ReplayEvent$Kind;" (.ref s_TOTAL_CAP)) (S_CHARGE : Sta Z h0 "com/example/daily_spend_pacer/dailyspendpacer/io/ReplayEvent$Kind" "CHARGE" "Lcom/example/daily_spend_pacer/dailyspendpacer/io/ReplayEvent$Kind;" (.ref s_CHARGE)) (S_AVERAGE_DAILY_LIMIT : Sta Z h0 "com/example/daily_spend_pacer/dailyspendpacer/io/ReplayEvent$Kind" "AVERAGE_DAILY_LIMIT" "Lcom/example/daily_spend_pacer/dailyspendpacer/io/ReplayEvent$Kind;" (.ref s_AVERAGE_DAILY_LIMIT)) (S_WEEKLY_AVERAGE_DAILY_LIMIT : Sta Z h0 "com/example/daily_spend_pacer/dailyspendpacer/io/ReplayEvent$Kind" "WEEKLY_AVERAGE_DAILY_LIMIT" "Lcom/example/daily_spend_pacer/dailyspendpacer/io/ReplayEvent$Kind;" (.ref s_WEEKLY_AVERAGE_DAILY_LIMIT)) (S_REMOVE_AVERAGE_DAILY_LIMIT : Sta Z h0 "com/example/daily_spend_pacer/dailyspendpacer/io/ReplayEvent$Kind" "REMOVE_AVERAGE_DAILY_LIMIT" "Lcom/example/daily_spend_pacer/dailyspendpacer/io/ReplayEvent$Kind;" (.ref s_REMOVE_AVERAGE_DAILY_LIMIT)) (S_END_DATE : Sta Z h0 "com/example/daily_spend_pacer/dailyspendpacer/io/ReplayEvent$Kind" "END_DATE" "Lcom/example/daily_spend_pacer/dailyspendpacer/io/ReplayEvent$Kind;" (.ref s_END_DATE)) (S_LIFETIME_BUDGET : Sta Z h0 "com/example/daily_spend_pacer/dailyspendpacer/io/ReplayEvent$Kind" "LIFETIME_BUDGET" "Lcom/example/daily_spend_pacer/dailyspendpacer/io/ReplayEvent$Kind;" (.ref s_LIFETIME_BUDGET)) (S_WALLET_DAILY_CAP : Sta Z h0 "com/example/daily_spend_pacer/dailyspendpacer/io/ReplayEvent$Kind" "WALLET_DAILY_CAP" "Lcom/example/daily_spend_pacer/dailyspendpacer/io/ReplayEvent$Kind;" (.ref s_WALLET_DAILY_CAP)) (S_WALLET : Sta Z h0 "com/example/daily_spend_pacer/dailyspendpacer/io/ReplayEvent$Kind" "WALLET" "Lcom/example/daily_spend_pacer/dailyspendpacer/io/ReplayEvent$Kind;" (.ref s_WALLET)) (S_CAP : Sta Z h0 "com/example/daily_spend_pacer/dailyspendpacer/io/ReplayEvent$Value" "CAP" "Lcom/example/daily_spend_pacer/dailyspendpacer/io/ReplayEvent$Value;" (.ref s_CAP)) (E_s_DAILY_CAP : Exa Z h0 s_DAILY_CAP "com/example/daily_spend_pacer/dailyspendpacer/io/ReplayEvent$Kind") (E_s_MONTHLY_CAP : Exa Z h0 s_MONTHLY_CAP "com/example/daily_spend_pacer/dailyspendpacer/io/ReplayEvent$Kind") (E_s_TOTAL_CAP : Exa Z h0 s_TOTAL_CAP "com/example/daily_spend_pacer/dailyspendpacer/io/ReplayEvent$Kind") (E_s_CHARGE : Exa Z h0 s_CHARGE "com/example/daily_spend_pacer/dailyspendpacer/io/ReplayEvent$Kind") (E_s_AVERAGE_DAILY_LIMIT : Exa Z h0 s_AVERAGE_DAILY_LIMIT "com/example/daily_spend_pacer/dailyspendpacer/io/ReplayEvent$Kind") (E_s_WEEKLY_AVERAGE_DAILY_LIMIT : Exa Z h0 s_WEEKLY_AVERAGE_DAILY_LIMIT "com/example/daily_spend_pacer/dailyspendpacer/io/ReplayEvent$Kind") (E_s_REMOVE_AVERAGE_DAILY_LIMIT : Exa Z h0 s_REMOVE_AVERAGE_DAILY_LIMIT "com/example/daily_spend_pacer/dailyspendpacer/io/ReplayEvent$Kind") (E_s_END_DATE : Exa Z h0 s_END_DATE "com/example/daily_spend_pacer/dailyspendpacer/io/ReplayEvent$Kind") (E_s_LIFETIME_BUDGET : Exa Z h0 s_LIFETIME_BUDGET "com/example/daily_spend_pacer/dailyspendpacer/io/ReplayEvent$Kind") (E_s_WALLET_DAILY_CAP : Exa Z h0 s_WALLET_DAILY_CAP "com/example/daily_spend_pacer/dailyspendpacer/io/ReplayEvent$Kind") (E_s_WALLET : Exa Z h0 s_WALLET "com/example/daily_spend_pacer/dailyspendpacer/io/ReplayEvent$Kind") (F_value_s_DAILY_CAP : Fld Z h0 s_DAILY_CAP "com/example/daily_spend_pacer/dailyspendpacer/io/ReplayEvent$Kind" "value" "Lcom/example/daily_spend_pacer/dailyspendpacer/io/ReplayEvent$Value;" (.ref s_CAP)) (F_cap_s_DAILY_CAP : Fld Z h0 s_DAILY_CAP "com/example/daily_spend_pacer/dailyspendpacer/io/ReplayEvent$Kind" "cap" "Lcom/example/daily_spend_pacer/dailyspendpacer/model/HardCap;" (.ref s_DAILY)) (F_value_s_MONTHLY_CAP : Fld Z h0 s_MONTHLY_CAP "com/example/daily_spend_pacer/dailyspendpacer/io/ReplayEvent$Kind" "value" "Lcom/example/daily_spend_pacer/dailyspendpacer/io/ReplayEvent$Value;" (.ref s_CAP)) (F_cap_s_MONTHLY_CAP : Fld Z h0 s_MONTHLY_CAP "com/example/daily_spend_pacer/dailyspendpacer/io/ReplayEvent$Kind" "cap" "Lcom/example/daily_spend_pacer/dailyspendpacer/model/HardCap;" (.ref s_MONTHLY)) (F_value_s_TOTAL_CAP : Fld Z h0 s_TOTAL_CAP "com/example/daily_spend_pacer/dailyspendpacer/io/ReplayEvent$Kind" "value" "Lcom/example/daily_spend_pacer/dailyspendpacer/io/ReplayEvent$Value;" (.ref s_CAP)) (F_cap_s_TOTAL_CAP : Fld Z h0 s_TOTAL_CAP "com/example/daily_spend_pacer/dailyspendpacer/io/ReplayEvent$Kind" "cap" "Lcom/example/daily_spend_pacer/dailyspendpacer/model/HardCap;" (.ref s_TOTAL)) (F_value_s_CHARGE : Fld Z h0 s_CHARGE "com/example/daily_spend_pacer/dailyspendpacer/io/ReplayEvent$Kind" "value" "Lcom/example/daily_spend_pacer/dailyspendpacer/io/ReplayEvent$Value;" (.ref s_AMOUNT)) (F_cap_s_CHARGE : Fld Z h0 s_CHARGE "com/example/daily_spend_pacer/dailyspendpacer/io/ReplayEvent$Kind" "cap" "Lcom/example/daily_spend_pacer/dailyspendpacer/model/HardCap;" .null) (F_value_s_AVERAGE_DAILY_LIMIT : Fld Z h0 s_AVERAGE_DAILY_LIMIT "com/example/daily_spend_pacer/dailyspendpacer/io/ReplayEvent$Kind" "value" "Lcom/example/daily_spend_pacer/dailyspendpacer/io/ReplayEvent$Value;" (.ref s_LIMIT)) (F_cap_s_AVERAGE_DAILY_LIMIT : Fld Z h0 s_AVERAGE_DAILY_LIMIT "com/example/daily_spend_pacer/dailyspendpacer/io/ReplayEvent$Kind" "cap" "Lcom/example/daily_spend_pacer/dailyspendpacer/model/HardCap;" .null) (F_value_s_WEEKLY_AVERAGE_DAILY_LIMIT : Fld Z h0 s_WEEKLY_AVERAGE_DAILY_LIMIT "com/example/daily_spend_pacer/dailyspendpacer/io/ReplayEvent$Kind" "value" "Lcom/example/daily_spend_pacer/dailyspendpacer/io/ReplayEvent$Value;" (.ref s_LIMIT)) (F_cap_s_WEEKLY_AVERAGE_DAILY_LIMIT : Fld Z h0 s_WEEKLY_AVERAGE_DAILY_LIMIT "com/example/daily_spend_pacer/dailyspendpacer/io/ReplayEvent$Kind" "cap" "Lcom/example/daily_spend_pacer/dailyspendpacer/model/HardCap;" .null) (F_value_s_REMOVE_AVERAGE_DAILY_LIMIT : Fld Z h0 s_REMOVE_AVERAGE_DAILY_LIMIT "com/example/daily_spend_pacer/dailyspendpacer/io/ReplayEvent$Kind" "value" "Lcom/example/daily_spend_pacer/dailyspendpacer/io/ReplayEvent$Value;" (.ref s_NONE)) (F_cap_s_REMOVE_AVERAGE_DAILY_LIMIT : Fld Z h0 s_REMOVE_AVERAGE_DAILY_LIMIT "com/example/daily_spend_pacer/dailyspendpacer/io/ReplayEvent$Kind" "cap" "Lcom/example/daily_spend_pacer/dailyspendpacer/model/HardCap;" .null) (F_value_s_END_DATE : Fld Z h0 s_END_DATE "com/example/daily_spend_pacer/dailyspendpacer/io/ReplayEvent$Kind" "value" "Lcom/example/daily_spend_pacer/dailyspendpacer/io/ReplayEvent$Value;" (.ref s_DATE)) (F_cap_s_END_DATE : Fld Z h0 s_END_DATE "com/example/daily_spend_pacer/dailyspendpacer/io/ReplayEvent$Kind" "cap" "Lcom/example/daily_spend_pacer/dailyspendpacer/model/HardCap;" .null) (F_value_s_LIFETIME_BUDGET : Fld Z h0 s_LIFETIME_BUDGET "com/example/daily_spend_pacer/dailyspendpacer/io/ReplayEvent$Kind" "value" "Lcom/example/daily_spend_pacer/dailyspendpacer/io/ReplayEvent$Value;" (.ref s_AMOUNT)) (F_cap_s_LIFETIME_BUDGET : Fld Z h0 s_LIFETIME_BUDGET "com/example/daily_spend_pacer/dailyspendpacer/io/ReplayEvent$Kind" "cap" "Lcom/example/daily_spend_pacer/dailyspendpacer/model/HardCap;" .null) (F_value_s_WALLET_DAILY_CAP : Fld Z h0 s_WALLET_DAILY_CAP "com/example/daily_spend_pacer/dailyspendpacer/io/ReplayEvent$Kind" "value" "Lcom/example/daily_spend_pacer/dailyspendpacer/io/ReplayEvent$Value;" (.ref s_CAP)) (F_cap_s_WALLET_DAILY_CAP : Fld Z h0 s_WALLET_DAILY_CAP "com/example/daily_spend_pacer/dailyspendpacer/io/ReplayEvent$Kind" "cap" "Lcom/example/daily_spend_pacer/dailyspendpacer/model/HardCap;" .null) (F_value_s_WALLET : Fld Z h0 s_WALLET "com/example/daily_spend_pacer/dailyspendpacer/io/ReplayEvent$Kind" "value" "Lcom/example/daily_spend_pacer/dailyspendpacer/io/ReplayEvent$Value;" (.ref s_ReplayEvent_Value_WALLET)) (F_cap_s_WALLET : Fld Z h0 s_WALLET "com/example/daily_spend_pacer/dailyspendpacer/io/ReplayEvent$Kind" "cap" "Lcom/example/daily_spend_pacer/dailyspendpacer/model/HardCap;" .null) (ne_s_DAILY_CAP_s_WALLET_DAILY_CAP : s_DAILY_CAP ≠ s_WALLET_DAILY_CAP) (ne_s_MONTHLY_CAP_s_WALLET_DAILY_CAP : s_MONTHLY_CAP ≠ s_WALLET_DAILY_CAP) (ne_s_TOTAL_CAP_s_WALLET_DAILY_CAP : s_TOTAL_CAP ≠ s_WALLET_DAILY_CAP) (ne_s_CHARGE_s_WALLET_DAILY_CAP : s_CHARGE ≠ s_WALLET_DAILY_CAP) (ne_s_AMOUNT_s_CAP : s_AMOUNT ≠ s_CAP) (ne_s_AVERAGE_DAILY_LIMIT_s_WALLET_DAILY_CAP : s_AVERAGE_DAILY_LIMIT ≠ s_WALLET_DAILY_CAP) (ne_s_LIMIT_s_CAP : s_LIMIT ≠ s_CAP) (ne_s_WEEKLY_AVERAGE_DAILY_LIMIT_s_WALLET_DAILY_CAP : s_WEEKLY_AVERAGE_DAILY_LIMIT ≠ s_WALLET_DAILY_CAP) (ne_s_REMOVE_AVERAGE_DAILY_LIMIT_s_WALLET_DAILY_CAP : s_REMOVE_AVERAGE_DAILY_LIMIT ≠ s_WALLET_DAILY_CAP) (ne_s_NONE_s_CAP : s_NONE ≠ s_CAP) (ne_s_END_DATE_s_WALLET_DAILY_CAP : s_END_DATE ≠ s_WALLET_DAILY_CAP) (ne_s_DATE_s_CAP : s_DATE ≠ s_CAP) (ne_s_LIFETIME_BUDGET_s_WALLET_DAILY_CAP : s_LIFETIME_BUDGET ≠ s_WALLET_DAILY_CAP) (ne_s_WALLET_s_WALLET_DAILY_CAP : s_WALLET ≠ s_WALLET_DAILY_CAP) (ne_s_ReplayEvent_Value_WALLET_s_CAP : s_ReplayEvent_Value_WALLET ≠ s_CAP) :
    MetFree l x (head1 (Jvm.Cond.code x code maxLocals ret :: ws) room_1) (fun a U => a = #[(.int p1)] ∧ Z.Warmed39 U.vm ∧ U.heap = h0) (fun _ _ _ _ _ => True) (fun _ U o U' => ∃ v L, o = .returned v ∧ Q0 Z p1 s_DAILY_CAP s_MONTHLY_CAP s_TOTAL_CAP s_CHARGE s_AVERAGE_DAILY_LIMIT s_WEEKLY_AVERAGE_DAILY_LIMIT s_REMOVE_AVERAGE_DAILY_LIMIT s_END_DATE s_LIFETIME_BUDGET s_WALLET_DAILY_CAP s_WALLET s_CAP s_DAILY s_MONTHLY s_TOTAL s_AMOUNT s_LIMIT s_NONE s_DATE s_ReplayEvent_Value_WALLET h0 n0 v U'.heap L ∧ FrameEnd U o U' L room_1.cells room_1.slots) := by
  refine MetFree.of_bodySF (plainFor_of_name pn_0) hisR ?_
  intro p e s m args below meth c s₁ Bd hml0 hP hK
  obtain ⟨rfl, hZ, hh⟩ := hP
  have hx := Bd.exec
  have hby := Bd.bytes
  have hlk := Bd.notSynchronized
  have hml : c.maxLocals = 4 := hml0
  have hown : s.vm.findClass "com/example/daily_spend_pacer/dailyspendpacer/io/KindOfWalletPinLaw" = some m.cls := findClass_of_methodNamed Bd.named
  have hnm := (name_of_methodNamed Bd.named Bd.method).1
  have X0 : Stand p l e room_1 s m #[(.int p1)] below meth c s₁ [] 0 0 := Stand.of_body Bd
  have e0 : s₁.heap = h0 := by rw [← hh, Bd.state]; rfl
  have N0 := Fr.nil n0
  have K0 : Keep h0 h0 [] := Keep.refl h0 _
  show OutW p e below s room_1.cells room_1.slots (Q0 Z p1 s_DAILY_CAP s_MONTHLY_CAP s_TOTAL_CAP s_CHARGE s_AVERAGE_DAILY_LIMIT s_WEEKLY_AVERAGE_DAILY_LIMIT s_REMOVE_AVERAGE_DAILY_LIMIT s_END_DATE s_LIFETIME_BUDGET s_WALLET_DAILY_CAP s_WALLET s_CAP s_DAILY s_MONTHLY s_TOTAL s_AMOUNT s_LIMIT s_NONE s_DATE s_ReplayEvent_Value_WALLET h0 n0) _
  refine OutW.back (fun t k => castTop (ef_0 m p1) k) ?_
  show OutW _ _ _ _ _ _ _ (s₁.setTop (mkF m 0 #[.val (.int p1), .unset, .unset, .unset] []))
  refine OutW.back (fun t k => XS.bipush X0.here hx rfl (hb hby at_0) k) ?_
  show OutW _ _ _ _ _ _ _ (s₁.setTop (mkF m 2 #[.val (.int p1), .unset, .unset, .unset] [(.int (11 : Int32))]))
  obtain ⟨T1, h1, k1, X1, e1, E1, A1, O1, st1⟩ := newR X0 hx hZ hown (hw _ (List.mem_of_getElem? (i := 0) rfl)) (hw _ (List.mem_of_getElem? (i := 1) rfl)) e0 (g := (mkF m 2 #[.val (.int p1), .unset, .unset, .unset] [(.int (11 : Int32))])) rfl (hb hby at_2) rfl (by decide) (cap := 11) (by decide) (by decide) (by decide) (by decide)
  obtain ⟨b1, g1⟩ : ∃ z, z = h0.size := ⟨_, rfl⟩
  rw [← g1] at A1 st1
  have ne_s_DAILY_CAP_b1 : s_DAILY_CAP ≠ b1 := Nat.ne_of_lt (Nat.lt_of_lt_of_le E_s_DAILY_CAP.lt (Nat.le_of_eq g1.symm))
  have ne_s_MONTHLY_CAP_b1 : s_MONTHLY_CAP ≠ b1 := Nat.ne_of_lt (Nat.lt_of_lt_of_le E_s_MONTHLY_CAP.lt (Nat.le_of_eq g1.symm))
  have ne_s_TOTAL_CAP_b1 : s_TOTAL_CAP ≠ b1 := Nat.ne_of_lt (Nat.lt_of_lt_of_le E_s_TOTAL_CAP.lt (Nat.le_of_eq g1.symm))
  have ne_s_CHARGE_b1 : s_CHARGE ≠ b1 := Nat.ne_of_lt (Nat.lt_of_lt_of_le E_s_CHARGE.lt (Nat.le_of_eq g1.symm))
  have ne_s_AVERAGE_DAILY_LIMIT_b1 : s_AVERAGE_DAILY_LIMIT ≠ b1 := Nat.ne_of_lt (Nat.lt_of_lt_of_le E_s_AVERAGE_DAILY_LIMIT.lt (Nat.le_of_eq g1.symm))
  have ne_s_WEEKLY_AVERAGE_DAILY_LIMIT_b1 : s_WEEKLY_AVERAGE_DAILY_LIMIT ≠ b1 := Nat.ne_of_lt (Nat.lt_of_lt_of_le E_s_WEEKLY_AVERAGE_DAILY_LIMIT.lt (Nat.le_of_eq g1.symm))
  have ne_s_REMOVE_AVERAGE_DAILY_LIMIT_b1 : s_REMOVE_AVERAGE_DAILY_LIMIT ≠ b1 := Nat.ne_of_lt (Nat.lt_of_lt_of_le E_s_REMOVE_AVERAGE_DAILY_LIMIT.lt (Nat.le_of_eq g1.symm))
  have ne_s_END_DATE_b1 : s_END_DATE ≠ b1 := Nat.ne_of_lt (Nat.lt_of_lt_of_le E_s_END_DATE.lt (Nat.le_of_eq g1.symm))
  have ne_s_LIFETIME_BUDGET_b1 : s_LIFETIME_BUDGET ≠ b1 := Nat.ne_of_lt (Nat.lt_of_lt_of_le E_s_LIFETIME_BUDGET.lt (Nat.le_of_eq g1.symm))
  have ne_s_WALLET_DAILY_CAP_b1 : s_WALLET_DAILY_CAP ≠ b1 := Nat.ne_of_lt (Nat.lt_of_lt_of_le E_s_WALLET_DAILY_CAP.lt (Nat.le_of_eq g1.symm))
  have ne_s_WALLET_b1 : s_WALLET ≠ b1 := Nat.ne_of_lt (Nat.lt_of_lt_of_le E_s_WALLET.lt (Nat.le_of_eq g1.symm))
  have g_b1 : n0 ≤ b1 := Nat.le_trans Z0 (Nat.le_of_eq g1.symm)
  have sz_b1 : h0.size ≤ b1 := Nat.le_trans K0.1 (Nat.le_of_eq g1.symm)
  have S_DAILY_CAP := S_DAILY_CAP.ext E1
  have S_MONTHLY_CAP := S_MONTHLY_CAP.ext E1
  have S_TOTAL_CAP := S_TOTAL_CAP.ext E1
  have S_CHARGE := S_CHARGE.ext E1
  have S_AVERAGE_DAILY_LIMIT := S_AVERAGE_DAILY_LIMIT.ext E1
  have S_WEEKLY_AVERAGE_DAILY_LIMIT := S_WEEKLY_AVERAGE_DAILY_LIMIT.ext E1
  have S_REMOVE_AVERAGE_DAILY_LIMIT := S_REMOVE_AVERAGE_DAILY_LIMIT.ext E1
  have S_END_DATE := S_END_DATE.ext E1
  have S_LIFETIME_BUDGET := S_LIFETIME_BUDGET.ext E1
  have S_WALLET_DAILY_CAP := S_WALLET_DAILY_CAP.ext E1
  have S_WALLET := S_WALLET.ext E1
  have S_CAP := S_CAP.ext E1
  have E_s_DAILY_CAP := E_s_DAILY_CAP.ext E1
  have E_s_MONTHLY_CAP := E_s_MONTHLY_CAP.ext E1
  have E_s_TOTAL_CAP := E_s_TOTAL_CAP.ext E1
  have E_s_CHARGE := E_s_CHARGE.ext E1
  have E_s_AVERAGE_DAILY_LIMIT := E_s_AVERAGE_DAILY_LIMIT.ext E1
  have E_s_WEEKLY_AVERAGE_DAILY_LIMIT := E_s_WEEKLY_AVERAGE_DAILY_LIMIT.ext E1
  have E_s_REMOVE_AVERAGE_DAILY_LIMIT := E_s_REMOVE_AVERAGE_DAILY_LIMIT.ext E1
  have E_s_END_DATE := E_s_END_DATE.ext E1
  have E_s_LIFETIME_BUDGET := E_s_LIFETIME_BUDGET.ext E1
  have E_s_WALLET_DAILY_CAP := E_s_WALLET_DAILY_CAP.ext E1
  have E_s_WALLET := E_s_WALLET.ext E1
  have F_value_s_DAILY_CAP := F_value_s_DAILY_CAP.ext E1
  have F_cap_s_DAILY_CAP := F_cap_s_DAILY_CAP.ext E1
  have F_value_s_MONTHLY_CAP := F_value_s_MONTHLY_CAP.ext E1
  have F_cap_s_MONTHLY_CAP := F_cap_s_MONTHLY_CAP.ext E1
  have F_value_s_TOTAL_CAP := F_value_s_TOTAL_CAP.ext E1
  have F_cap_s_TOTAL_CAP := F_cap_s_TOTAL_CAP.ext E1
  have F_value_s_CHARGE := F_value_s_CHARGE.ext E1
  have F_cap_s_CHARGE := F_cap_s_CHARGE.ext E1
  have F_value_s_AVERAGE_DAILY_LIMIT := F_value_s_AVERAGE_DAILY_LIMIT.ext E1
  have F_cap_s_AVERAGE_DAILY_LIMIT := F_cap_s_AVERAGE_DAILY_LIMIT.ext E1
  have F_value_s_WEEKLY_AVERAGE_DAILY_LIMIT := F_value_s_WEEKLY_AVERAGE_DAILY_LIMIT.ext E1
  have F_cap_s_WEEKLY_AVERAGE_DAILY_LIMIT := F_cap_s_WEEKLY_AVERAGE_DAILY_LIMIT.ext E1
  have F_value_s_REMOVE_AVERAGE_DAILY_LIMIT := F_value_s_REMOVE_AVERAGE_DAILY_LIMIT.ext E1
  have F_cap_s_REMOVE_AVERAGE_DAILY_LIMIT := F_cap_s_REMOVE_AVERAGE_DAILY_LIMIT.ext E1
  have F_value_s_END_DATE := F_value_s_END_DATE.ext E1
  have F_cap_s_END_DATE := F_cap_s_END_DATE.ext E1
  have F_value_s_LIFETIME_BUDGET := F_value_s_LIFETIME_BUDGET.ext E1
  have F_cap_s_LIFETIME_BUDGET := F_cap_s_LIFETIME_BUDGET.ext E1
  have F_value_s_WALLET_DAILY_CAP := F_value_s_WALLET_DAILY_CAP.ext E1
  have F_cap_s_WALLET_DAILY_CAP := F_cap_s_WALLET_DAILY_CAP.ext E1
  have F_value_s_WALLET := F_value_s_WALLET.ext E1
  have F_cap_s_WALLET := F_cap_s_WALLET.ext E1
  have Z1 : n0 ≤ h1.size := Nat.le_trans Z0 E1.1
  have K1 := K0.ext E1
  have V_b1 : Arv Z h1 b1 k1 (.object "com/example/daily_spend_pacer/dailyspendpacer/io/ReplayEvent$Kind") (11 : Int32) [.null, .null, .null, .null, .null, .null, .null, .null, .null, .null, .null] .null := (Arv.new A1 (by decide)).pad (pad_rep [] .null 11)
  refine OutW.back st1 ?_
  show OutW _ _ _ _ _ _ _ (T1.setTop (mkF m 5 #[.val (.int p1), .unset, .unset, .unset] [(.ref b1)]))
  refine OutW.back (fun t k => XS.dup X1.here hx rfl (hb hby at_5) rfl rfl k) ?_
  show OutW _ _ _ _ _ _ _ (T1.setTop (mkF m 6 #[.val (.int p1), .unset, .unset, .unset] [(.ref b1), (.ref b1)]))
  refine OutW.back (fun t k => XS.iconst X1.here hx rfl (hb hby at_6) k) ?_
  show OutW _ _ _ _ _ _ _ (T1.setTop (mkF m 7 #[.val (.int p1), .unset, .unset, .unset] [(.int (0 : Int32)), (.ref b1), (.ref b1)]))
  obtain ⟨T2, X2, e2, st2⟩ := getS2 X1 hx hZ hown (host := "") (Or.inl (hw _ (List.mem_of_getElem? (i := 2) rfl))) Via.refl e1 S_DAILY_CAP (g := (mkF m 7 #[.val (.int p1), .unset, .unset, .unset] [(.int (0 : Int32)), (.ref b1), (.ref b1)])) rfl (hb hby at_7)
  refine OutW.back st2 ?_
  show OutW _ _ _ _ _ _ _ (T2.setTop (mkF m 10 #[.val (.int p1), .unset, .unset, .unset] [(.ref s_DAILY_CAP), (.int (0 : Int32)), (.ref b1), (.ref b1)]))
  obtain ⟨cl3, Ar3, q3, Sz3, Nn3, Hh3, Gg3⟩ := V_b1
  have hin3 : ¬ ((0 : Int32) < 0 ∨ cl3.slots.size ≤ ((0 : Int32)).toNatClampNeg) := inb_of Sz3 ⟨by decide, by decide⟩
  obtain ⟨T3, h3, X3, e3, W3, st3⟩ := stR X2 hx hZ e2 Ar3 (j := (0 : Int32)) hin3 rfl (Sto.ofV Ar3 q3 O1 (Ins.self E_s_DAILY_CAP)) (g := (mkF m 10 #[.val (.int p1), .unset, .unset, .unset] [(.ref s_DAILY_CAP), (.int (0 : Int32)), (.ref b1), (.ref b1)])) rfl rfl (hb hby at_10)
  have V_b1_3 : Arv Z h3 b1 k1 (.object "com/example/daily_spend_pacer/dailyspendpacer/io/ReplayEvent$Kind") (11 : Int32) [(.ref s_DAILY_CAP), .null, .null, .null, .null, .null, .null, .null, .null, .null, .null] .null := Arv.set Ar3 q3 Sz3 Nn3 Hh3 Gg3 rfl W3 0 rfl (Nat.le_of_ble_eq_true rfl)
  have S_DAILY_CAP := S_DAILY_CAP.wr W3
  have S_MONTHLY_CAP := S_MONTHLY_CAP.wr W3
  have S_TOTAL_CAP := S_TOTAL_CAP.wr W3
  have S_CHARGE := S_CHARGE.wr W3
  have S_AVERAGE_DAILY_LIMIT := S_AVERAGE_DAILY_LIMIT.wr W3
  have S_WEEKLY_AVERAGE_DAILY_LIMIT := S_WEEKLY_AVERAGE_DAILY_LIMIT.wr W3
  have S_REMOVE_AVERAGE_DAILY_LIMIT := S_REMOVE_AVERAGE_DAILY_LIMIT.wr W3
  have S_END_DATE := S_END_DATE.wr W3
  have S_LIFETIME_BUDGET := S_LIFETIME_BUDGET.wr W3
  have S_WALLET_DAILY_CAP := S_WALLET_DAILY_CAP.wr W3
  have S_WALLET := S_WALLET.wr W3
  have S_CAP := S_CAP.wr W3
  have E_s_DAILY_CAP := E_s_DAILY_CAP.wr W3
  have E_s_MONTHLY_CAP := E_s_MONTHLY_CAP.wr W3
  have E_s_TOTAL_CAP := E_s_TOTAL_CAP.wr W3
  have E_s_CHARGE := E_s_CHARGE.wr W3
  have E_s_AVERAGE_DAILY_LIMIT := E_s_AVERAGE_DAILY_LIMIT.wr W3
  have E_s_WEEKLY_AVERAGE_DAILY_LIMIT := E_s_WEEKLY_AVERAGE_DAILY_LIMIT.wr W3
  have E_s_REMOVE_AVERAGE_DAILY_LIMIT := E_s_REMOVE_AVERAGE_DAILY_LIMIT.wr W3
  have E_s_END_DATE := E_s_END_DATE.wr W3
  have E_s_LIFETIME_BUDGET := E_s_LIFETIME_BUDGET.wr W3
  have E_s_WALLET_DAILY_CAP := E_s_WALLET_DAILY_CAP.wr W3
  have E_s_WALLET := E_s_WALLET.wr W3
  have F_value_s_DAILY_CAP := F_value_s_DAILY_CAP.other W3 (Or.inl ne_s_DAILY_CAP_b1)
  have F_cap_s_DAILY_CAP := F_cap_s_DAILY_CAP.other W3 (Or.inl ne_s_DAILY_CAP_b1)
  have F_value_s_MONTHLY_CAP := F_value_s_MONTHLY_CAP.other W3 (Or.inl ne_s_MONTHLY_CAP_b1)
  have F_cap_s_MONTHLY_CAP := F_cap_s_MONTHLY_CAP.other W3 (Or.inl ne_s_MONTHLY_CAP_b1)
  have F_value_s_TOTAL_CAP := F_value_s_TOTAL_CAP.other W3 (Or.inl ne_s_TOTAL_CAP_b1)
  have F_cap_s_TOTAL_CAP := F_cap_s_TOTAL_CAP.other W3 (Or.inl ne_s_TOTAL_CAP_b1)
  have F_value_s_CHARGE := F_value_s_CHARGE.other W3 (Or.inl ne_s_CHARGE_b1)
  have F_cap_s_CHARGE := F_cap_s_CHARGE.other W3 (Or.inl ne_s_CHARGE_b1)
  have F_value_s_AVERAGE_DAILY_LIMIT := F_value_s_AVERAGE_DAILY_LIMIT.other W3 (Or.inl ne_s_AVERAGE_DAILY_LIMIT_b1)
  have F_cap_s_AVERAGE_DAILY_LIMIT := F_cap_s_AVERAGE_DAILY_LIMIT.other W3 (Or.inl ne_s_AVERAGE_DAILY_LIMIT_b1)
  have F_value_s_WEEKLY_AVERAGE_DAILY_LIMIT := F_value_s_WEEKLY_AVERAGE_DAILY_LIMIT.other W3 (Or.inl ne_s_WEEKLY_AVERAGE_DAILY_LIMIT_b1)
  have F_cap_s_WEEKLY_AVERAGE_DAILY_LIMIT := F_cap_s_WEEKLY_AVERAGE_DAILY_LIMIT.other W3 (Or.inl ne_s_WEEKLY_AVERAGE_DAILY_LIMIT_b1)
  have F_value_s_REMOVE_AVERAGE_DAILY_LIMIT := F_value_s_REMOVE_AVERAGE_DAILY_LIMIT.other W3 (Or.inl ne_s_REMOVE_AVERAGE_DAILY_LIMIT_b1)
  have F_cap_s_REMOVE_AVERAGE_DAILY_LIMIT := F_cap_s_REMOVE_AVERAGE_DAILY_LIMIT.other W3 (Or.inl ne_s_REMOVE_AVERAGE_DAILY_LIMIT_b1)
  have F_value_s_END_DATE := F_value_s_END_DATE.other W3 (Or.inl ne_s_END_DATE_b1)
  have F_cap_s_END_DATE := F_cap_s_END_DATE.other W3 (Or.inl ne_s_END_DATE_b1)
  have F_value_s_LIFETIME_BUDGET := F_value_s_LIFETIME_BUDGET.other W3 (Or.inl ne_s_LIFETIME_BUDGET_b1)
  have F_cap_s_LIFETIME_BUDGET := F_cap_s_LIFETIME_BUDGET.other W3 (Or.inl ne_s_LIFETIME_BUDGET_b1)
  have F_value_s_WALLET_DAILY_CAP := F_value_s_WALLET_DAILY_CAP.other W3 (Or.inl ne_s_WALLET_DAILY_CAP_b1)
  have F_cap_s_WALLET_DAILY_CAP := F_cap_s_WALLET_DAILY_CAP.other W3 (Or.inl ne_s_WALLET_DAILY_CAP_b1)
  have F_value_s_WALLET := F_value_s_WALLET.other W3 (Or.inl ne_s_WALLET_b1)
  have F_cap_s_WALLET := F_cap_s_WALLET.other W3 (Or.inl ne_s_WALLET_b1)
  have N3 := Fr.snoc X3 N0 g_b1
  have Z3 : n0 ≤ h3.size := Nat.le_trans Z1 (Keep.of_wr W3).1
  have K3 := K1.wr W3 (Or.inr sz_b1)
  refine OutW.back st3 ?_
  show OutW _ _ _ _ _ _ _ (T3.setTop (mkF m 11 #[.val (.int p1), .unset, .unset, .unset] [(.ref b1)]))
  refine OutW.back (fun t k => XS.dup X3.here hx rfl (hb hby at_11) rfl rfl k) ?_
  show OutW _ _ _ _ _ _ _ (T3.setTop (mkF m 12 #[.val (.int p1), .unset, .unset, .unset] [(.ref b1), (.ref b1)]))
  refine OutW.back (fun t k => XS.iconst X3.here hx rfl (hb hby at_12) k) ?_
  show OutW _ _ _ _ _ _ _ (T3.setTop (mkF m 13 #[.val (.int p1), .unset, .unset, .unset] [(.int (1 : Int32)), (.ref b1), (.ref b1)]))
  obtain ⟨T4, X4, e4, st4⟩ := getS2 X3 hx hZ hown (host := "") (Or.inl (hw _ (List.mem_of_getElem? (i := 6) rfl))) Via.refl e3 S_MONTHLY_CAP (g := (mkF m 13 #[.val (.int p1), .unset, .unset, .unset] [(.int (1 : Int32)), (.ref b1), (.ref b1)])) rfl (hb hby at_13)
  refine OutW.back st4 ?_
  show OutW _ _ _ _ _ _ _ (T4.setTop (mkF m 16 #[.val (.int p1), .unset, .unset, .unset] [(.ref s_MONTHLY_CAP), (.int (1 : Int32)), (.ref b1), (.ref b1)]))
  obtain ⟨cl5, Ar5, q5, Sz5, Nn5, Hh5, Gg5⟩ := V_b1_3
  have hin5 : ¬ ((1 : Int32) < 0 ∨ cl5.slots.size ≤ ((1 : Int32)).toNatClampNeg) := inb_of Sz5 ⟨by decide, by decide⟩
  obtain ⟨T5, h5, X5, e5, W5, st5⟩ := stR X4 hx hZ e4 Ar5 (j := (1 : Int32)) hin5 rfl (Sto.ofV Ar5 q5 O1 (Ins.self E_s_MONTHLY_CAP)) (g := (mkF m 16 #[.val (.int p1), .unset, .unset, .unset] [(.ref s_MONTHLY_CAP), (.int (1 : Int32)), (.ref b1), (.ref b1)])) rfl rfl (hb hby at_16)
  have V_b1_5 : Arv Z h5 b1 k1 (.object "com/example/daily_spend_pacer/dailyspendpacer/io/ReplayEvent$Kind") (11 : Int32) [(.ref s_DAILY_CAP), (.ref s_MONTHLY_CAP), .null, .null, .null, .null, .null, .null, .null, .null, .null] .null := Arv.set Ar5 q5 Sz5 Nn5 Hh5 Gg5 rfl W5 1 rfl (Nat.le_of_ble_eq_true rfl)
  have S_DAILY_CAP := S_DAILY_CAP.wr W5
  have S_MONTHLY_CAP := S_MONTHLY_CAP.wr W5
  have S_TOTAL_CAP := S_TOTAL_CAP.wr W5
  have S_CHARGE := S_CHARGE.wr W5
  have S_AVERAGE_DAILY_LIMIT := S_AVERAGE_DAILY_LIMIT.wr W5
  have S_WEEKLY_AVERAGE_DAILY_LIMIT := S_WEEKLY_AVERAGE_DAILY_LIMIT.wr W5
  have S_REMOVE_AVERAGE_DAILY_LIMIT := S_REMOVE_AVERAGE_DAILY_LIMIT.wr W5
  have S_END_DATE := S_END_DATE.wr W5
  have S_LIFETIME_BUDGET := S_LIFETIME_BUDGET.wr W5
  have S_WALLET_DAILY_CAP := S_WALLET_DAILY_CAP.wr W5
  have S_WALLET := S_WALLET.wr W5
  have S_CAP := S_CAP.wr W5
  have E_s_DAILY_CAP := E_s_DAILY_CAP.wr W5
  have E_s_MONTHLY_CAP := E_s_MONTHLY_CAP.wr W5
  have E_s_TOTAL_CAP := E_s_TOTAL_CAP.wr W5
  have E_s_CHARGE := E_s_CHARGE.wr W5
  have E_s_AVERAGE_DAILY_LIMIT := E_s_AVERAGE_DAILY_LIMIT.wr W5
  have E_s_WEEKLY_AVERAGE_DAILY_LIMIT := E_s_WEEKLY_AVERAGE_DAILY_LIMIT.wr W5
  have E_s_REMOVE_AVERAGE_DAILY_LIMIT := E_s_REMOVE_AVERAGE_DAILY_LIMIT.wr W5
  have E_s_END_DATE := E_s_END_DATE.wr W5
  have E_s_LIFETIME_BUDGET := E_s_LIFETIME_BUDGET.wr W5
  have E_s_WALLET_DAILY_CAP := E_s_WALLET_DAILY_CAP.wr W5
  have E_s_WALLET := E_s_WALLET.wr W5
  have F_value_s_DAILY_CAP := F_value_s_DAILY_CAP.other W5 (Or.inl ne_s_DAILY_CAP_b1)
  have F_cap_s_DAILY_CAP := F_cap_s_DAILY_CAP.other W5 (Or.inl ne_s_DAILY_CAP_b1)
  have F_value_s_MONTHLY_CAP := F_value_s_MONTHLY_CAP.other W5 (Or.inl ne_s_MONTHLY_CAP_b1)
  have F_cap_s_MONTHLY_CAP := F_cap_s_MONTHLY_CAP.other W5 (Or.inl ne_s_MONTHLY_CAP_b1)
  have F_value_s_TOTAL_CAP := F_value_s_TOTAL_CAP.other W5 (Or.inl ne_s_TOTAL_CAP_b1)
  have F_cap_s_TOTAL_CAP := F_cap_s_TOTAL_CAP.other W5 (Or.inl ne_s_TOTAL_CAP_b1)
  have F_value_s_CHARGE := F_value_s_CHARGE.other W5 (Or.inl ne_s_CHARGE_b1)
  have F_cap_s_CHARGE := F_cap_s_CHARGE.other W5 (Or.inl ne_s_CHARGE_b1)
  have F_value_s_AVERAGE_DAILY_LIMIT := F_value_s_AVERAGE_DAILY_LIMIT.other W5 (Or.inl ne_s_AVERAGE_DAILY_LIMIT_b1)
  have F_cap_s_AVERAGE_DAILY_LIMIT := F_cap_s_AVERAGE_DAILY_LIMIT.other W5 (Or.inl ne_s_AVERAGE_DAILY_LIMIT_b1)
  have F_value_s_WEEKLY_AVERAGE_DAILY_LIMIT := F_value_s_WEEKLY_AVERAGE_DAILY_LIMIT.other W5 (Or.inl ne_s_WEEKLY_AVERAGE_DAILY_LIMIT_b1)
  have F_cap_s_WEEKLY_AVERAGE_DAILY_LIMIT := F_cap_s_WEEKLY_AVERAGE_DAILY_LIMIT.other W5 (Or.inl ne_s_WEEKLY_AVERAGE_DAILY_LIMIT_b1)
  have F_value_s_REMOVE_AVERAGE_DAILY_LIMIT := F_value_s_REMOVE_AVERAGE_DAILY_LIMIT.other W5 (Or.inl ne_s_REMOVE_AVERAGE_DAILY_LIMIT_b1)
  have F_cap_s_REMOVE_AVERAGE_DAILY_LIMIT := F_cap_s_REMOVE_AVERAGE_DAILY_LIMIT.other W5 (Or.inl ne_s_REMOVE_AVERAGE_DAILY_LIMIT_b1)
  have F_value_s_END_DATE := F_value_s_END_DATE.other W5 (Or.inl ne_s_END_DATE_b1)
  have F_cap_s_END_DATE := F_cap_s_END_DATE.other W5 (Or.inl ne_s_END_DATE_b1)
  have F_value_s_LIFETIME_BUDGET := F_value_s_LIFETIME_BUDGET.other W5 (Or.inl ne_s_LIFETIME_BUDGET_b1)
  have F_cap_s_LIFETIME_BUDGET := F_cap_s_LIFETIME_BUDGET.other W5 (Or.inl ne_s_LIFETIME_BUDGET_b1)
  have F_value_s_WALLET_DAILY_CAP := F_value_s_WALLET_DAILY_CAP.other W5 (Or.inl ne_s_WALLET_DAILY_CAP_b1)
  have F_cap_s_WALLET_DAILY_CAP := F_cap_s_WALLET_DAILY_CAP.other W5 (Or.inl ne_s_WALLET_DAILY_CAP_b1)
  have F_value_s_WALLET := F_value_s_WALLET.other W5 (Or.inl ne_s_WALLET_b1)
  have F_cap_s_WALLET := F_cap_s_WALLET.other W5 (Or.inl ne_s_WALLET_b1)
  have N5 := Fr.snoc X5 N3 g_b1
  have Z5 : n0 ≤ h5.size := Nat.le_trans Z3 (Keep.of_wr W5).1
  have K5 := K3.wr W5 (Or.inr sz_b1)
  refine OutW.back st5 ?_
  show OutW _ _ _ _ _ _ _ (T5.setTop (mkF m 17 #[.val (.int p1), .unset, .unset, .unset] [(.ref b1)]))
  refine OutW.back (fun t k => XS.dup X5.here hx rfl (hb hby at_17) rfl rfl k) ?_
  show OutW _ _ _ _ _ _ _ (T5.setTop (mkF m 18 #[.val (.int p1), .unset, .unset, .unset] [(.ref b1), (.ref b1)]))
  refine OutW.back (fun t k => XS.iconst X5.here hx rfl (hb hby at_18) k) ?_
  show OutW _ _ _ _ _ _ _ (T5.setTop (mkF m 19 #[.val (.int p1), .unset, .unset, .unset] [(.int (2 : Int32)), (.ref b1), (.ref b1)]))
  obtain ⟨T6, X6, e6, st6⟩ := getS2 X5 hx hZ hown (host := "") (Or.inl (hw _ (List.mem_of_getElem? (i := 8) rfl))) Via.refl e5 S_TOTAL_CAP (g := (mkF m 19 #[.val (.int p1), .unset, .unset, .unset] [(.int (2 : Int32)), (.ref b1), (.ref b1)])) rfl (hb hby at_19)
  refine OutW.back st6 ?_
  show OutW _ _ _ _ _ _ _ (T6.setTop (mkF m 22 #[.val (.int p1), .unset, .unset, .unset] [(.ref s_TOTAL_CAP), (.int (2 : Int32)), (.ref b1), (.ref b1)]))
  obtain ⟨cl7, Ar7, q7, Sz7, Nn7, Hh7, Gg7⟩ := V_b1_5
  have hin7 : ¬ ((2 : Int32) < 0 ∨ cl7.slots.size ≤ ((2 : Int32)).toNatClampNeg) := inb_of Sz7 ⟨by decide, by decide⟩
  obtain ⟨T7, h7, X7, e7, W7, st7⟩ := stR X6 hx hZ e6 Ar7 (j := (2 : Int32)) hin7 rfl (Sto.ofV Ar7 q7 O1 (Ins.self E_s_TOTAL_CAP)) (g := (mkF m 22 #[.val (.int p1), .unset, .unset, .unset] [(.ref s_TOTAL_CAP), (.int (2 : Int32)), (.ref b1), (.ref b1)])) rfl rfl (hb hby at_22)
  have V_b1_7 : Arv Z h7 b1 k1 (.object "com/example/daily_spend_pacer/dailyspendpacer/io/ReplayEvent$Kind") (11 : Int32) [(.ref s_DAILY_CAP), (.ref s_MONTHLY_CAP), (.ref s_TOTAL_CAP), .null, .null, .null, .null, .null, .null, .null, .null] .null := Arv.set Ar7 q7 Sz7 Nn7 Hh7 Gg7 rfl W7 2 rfl (Nat.le_of_ble_eq_true rfl)
  have S_DAILY_CAP := S_DAILY_CAP.wr W7
  have S_MONTHLY_CAP := S_MONTHLY_CAP.wr W7
  have S_TOTAL_CAP := S_TOTAL_CAP.wr W7
  have S_CHARGE := S_CHARGE.wr W7
  have S_AVERAGE_DAILY_LIMIT := S_AVERAGE_DAILY_LIMIT.wr W7
  have S_WEEKLY_AVERAGE_DAILY_LIMIT := S_WEEKLY_AVERAGE_DAILY_LIMIT.wr W7
  have S_REMOVE_AVERAGE_DAILY_LIMIT := S_REMOVE_AVERAGE_DAILY_LIMIT.wr W7
  have S_END_DATE := S_END_DATE.wr W7
  have S_LIFETIME_BUDGET := S_LIFETIME_BUDGET.wr W7
  have S_WALLET_DAILY_CAP := S_WALLET_DAILY_CAP.wr W7
  have S_WALLET := S_WALLET.wr W7
  have S_CAP := S_CAP.wr W7
  have E_s_DAILY_CAP := E_s_DAILY_CAP.wr W7
  have E_s_MONTHLY_CAP := E_s_MONTHLY_CAP.wr W7
  have E_s_TOTAL_CAP := E_s_TOTAL_CAP.wr W7
  have E_s_CHARGE := E_s_CHARGE.wr W7
  have E_s_AVERAGE_DAILY_LIMIT := E_s_AVERAGE_DAILY_LIMIT.wr W7
  have E_s_WEEKLY_AVERAGE_DAILY_LIMIT := E_s_WEEKLY_AVERAGE_DAILY_LIMIT.wr W7
  have E_s_REMOVE_AVERAGE_DAILY_LIMIT := E_s_REMOVE_AVERAGE_DAILY_LIMIT.wr W7
  have E_s_END_DATE := E_s_END_DATE.wr W7
  have E_s_LIFETIME_BUDGET := E_s_LIFETIME_BUDGET.wr W7
  have E_s_WALLET_DAILY_CAP := E_s_WALLET_DAILY_CAP.wr W7
  have E_s_WALLET := E_s_WALLET.wr W7
  have F_value_s_DAILY_CAP := F_value_s_DAILY_CAP.other W7 (Or.inl ne_s_DAILY_CAP_b1)
  have F_cap_s_DAILY_CAP := F_cap_s_DAILY_CAP.other W7 (Or.inl ne_s_DAILY_CAP_b1)
  have F_value_s_MONTHLY_CAP := F_value_s_MONTHLY_CAP.other W7 (Or.inl ne_s_MONTHLY_CAP_b1)
  have F_cap_s_MONTHLY_CAP := F_cap_s_MONTHLY_CAP.other W7 (Or.inl ne_s_MONTHLY_CAP_b1)
  have F_value_s_TOTAL_CAP := F_value_s_TOTAL_CAP.other W7 (Or.inl ne_s_TOTAL_CAP_b1)
  have F_cap_s_TOTAL_CAP := F_cap_s_TOTAL_CAP.other W7 (Or.inl ne_s_TOTAL_CAP_b1)
  have F_value_s_CHARGE := F_value_s_CHARGE.other W7 (Or.inl ne_s_CHARGE_b1)
  have F_cap_s_CHARGE := F_cap_s_CHARGE.other W7 (Or.inl ne_s_CHARGE_b1)
  have F_value_s_AVERAGE_DAILY_LIMIT := F_value_s_AVERAGE_DAILY_LIMIT.other W7 (Or.inl ne_s_AVERAGE_DAILY_LIMIT_b1)
  have F_cap_s_AVERAGE_DAILY_LIMIT := F_cap_s_AVERAGE_DAILY_LIMIT.other W7 (Or.inl ne_s_AVERAGE_DAILY_LIMIT_b1)
  have F_value_s_WEEKLY_AVERAGE_DAILY_LIMIT := F_value_s_WEEKLY_AVERAGE_DAILY_LIMIT.other W7 (Or.inl ne_s_WEEKLY_AVERAGE_DAILY_LIMIT_b1)
  have F_cap_s_WEEKLY_AVERAGE_DAILY_LIMIT := F_cap_s_WEEKLY_AVERAGE_DAILY_LIMIT.other W7 (Or.inl ne_s_WEEKLY_AVERAGE_DAILY_LIMIT_b1)
  have F_value_s_REMOVE_AVERAGE_DAILY_LIMIT := F_value_s_REMOVE_AVERAGE_DAILY_LIMIT.other W7 (Or.inl ne_s_REMOVE_AVERAGE_DAILY_LIMIT_b1)
  have F_cap_s_REMOVE_AVERAGE_DAILY_LIMIT := F_cap_s_REMOVE_AVERAGE_DAILY_LIMIT.other W7 (Or.inl ne_s_REMOVE_AVERAGE_DAILY_LIMIT_b1)
  have F_value_s_END_DATE := F_value_s_END_DATE.other W7 (Or.inl ne_s_END_DATE_b1)
  have F_cap_s_END_DATE := F_cap_s_END_DATE.other W7 (Or.inl ne_s_END_DATE_b1)
  have F_value_s_LIFETIME_BUDGET := F_value_s_LIFETIME_BUDGET.other W7 (Or.inl ne_s_LIFETIME_BUDGET_b1)
  have F_cap_s_LIFETIME_BUDGET := F_cap_s_LIFETIME_BUDGET.other W7 (Or.inl ne_s_LIFETIME_BUDGET_b1)
  have F_value_s_WALLET_DAILY_CAP := F_value_s_WALLET_DAILY_CAP.other W7 (Or.inl ne_s_WALLET_DAILY_CAP_b1)
  have F_cap_s_WALLET_DAILY_CAP := F_cap_s_WALLET_DAILY_CAP.other W7 (Or.inl ne_s_WALLET_DAILY_CAP_b1)
  have F_value_s_WALLET := F_value_s_WALLET.other W7 (Or.inl ne_s_WALLET_b1)
  have F_cap_s_WALLET := F_cap_s_WALLET.other W7 (Or.inl ne_s_WALLET_b1)
  have N7 := Fr.snoc X7 N5 g_b1
  have Z7 : n0 ≤ h7.size := Nat.le_trans Z5 (Keep.of_wr W7).1
  have K7 := K5.wr W7 (Or.inr sz_b1)
  refine OutW.back st7 ?_
  show OutW _ _ _ _ _ _ _ (T7.setTop (mkF m 23 #[.val (.int p1), .unset, .unset, .unset] [(.ref b1)]))
  refine OutW.back (fun t k => XS.dup X7.here hx rfl (hb hby at_23) rfl rfl k) ?_
  show OutW _ _ _ _ _ _ _ (T7.setTop (mkF m 24 #[.val (.int p1), .unset, .unset, .unset] [(.ref b1), (.ref b1)]))
  refine OutW.back (fun t k => XS.iconst X7.here hx rfl (hb hby at_24) k) ?_
  show OutW _ _ _ _ _ _ _ (T7.setTop (mkF m 25 #[.val (.int p1), .unset, .unset, .unset] [(.int (3 : Int32)), (.ref b1), (.ref b1)]))
  obtain ⟨T8, X8, e8, st8⟩ := getS2 X7 hx hZ hown (host := "") (Or.inl (hw _ (List.mem_of_getElem? (i := 10) rfl))) Via.refl e7 S_CHARGE (g := (mkF m 25 #[.val (.int p1), .unset, .unset, .unset] [(.int (3 : Int32)), (.ref b1), (.ref b1)])) rfl (hb hby at_25)
  refine OutW.back st8 ?_
  show OutW _ _ _ _ _ _ _ (T8.setTop (mkF m 28 #[.val (.int p1), .unset, .unset, .unset] [(.ref s_CHARGE), (.int (3 : Int32)), (.ref b1), (.ref b1)]))
  obtain ⟨cl9, Ar9, q9, Sz9, Nn9, Hh9, Gg9⟩ := V_b1_7
  have hin9 : ¬ ((3 : Int32) < 0 ∨ cl9.slots.size ≤ ((3 : Int32)).toNatClampNeg) := inb_of Sz9 ⟨by decide, by decide⟩
  obtain ⟨T9, h9, X9, e9, W9, st9⟩ := stR X8 hx hZ e8 Ar9 (j := (3 : Int32)) hin9 rfl (Sto.ofV Ar9 q9 O1 (Ins.self E_s_CHARGE)) (g := (mkF m 28 #[.val (.int p1), .unset, .unset, .unset] [(.ref s_CHARGE), (.int (3 : Int32)), (.ref b1), (.ref b1)])) rfl rfl (hb hby at_28)
  have V_b1_9 : Arv Z h9 b1 k1 (.object "com/example/daily_spend_pacer/dailyspendpacer/io/ReplayEvent$Kind") (11 : Int32) [(.ref s_DAILY_CAP), (.ref s_MONTHLY_CAP), (.ref s_TOTAL_CAP), (.ref s_CHARGE), .null, .null, .null, .null, .null, .null, .null] .null := Arv.set Ar9 q9 Sz9 Nn9 Hh9 Gg9 rfl W9 3 rfl (Nat.le_of_ble_eq_true rfl)
  have S_DAILY_CAP := S_DAILY_CAP.wr W9
  have S_MONTHLY_CAP := S_MONTHLY_CAP.wr W9
  have S_TOTAL_CAP := S_TOTAL_CAP.wr W9
  have S_CHARGE := S_CHARGE.wr W9
  have S_AVERAGE_DAILY_LIMIT := S_AVERAGE_DAILY_LIMIT.wr W9
  have S_WEEKLY_AVERAGE_DAILY_LIMIT := S_WEEKLY_AVERAGE_DAILY_LIMIT.wr W9
  have S_REMOVE_AVERAGE_DAILY_LIMIT := S_REMOVE_AVERAGE_DAILY_LIMIT.wr W9
  have S_END_DATE := S_END_DATE.wr W9
  have S_LIFETIME_BUDGET := S_LIFETIME_BUDGET.wr W9
  have S_WALLET_DAILY_CAP := S_WALLET_DAILY_CAP.wr W9
  have S_WALLET := S_WALLET.wr W9
  have S_CAP := S_CAP.wr W9
  have E_s_DAILY_CAP := E_s_DAILY_CAP.wr W9
  have E_s_MONTHLY_CAP := E_s_MONTHLY_CAP.wr W9
  have E_s_TOTAL_CAP := E_s_TOTAL_CAP.wr W9
  have E_s_CHARGE := E_s_CHARGE.wr W9
  have E_s_AVERAGE_DAILY_LIMIT := E_s_AVERAGE_DAILY_LIMIT.wr W9
  have E_s_WEEKLY_AVERAGE_DAILY_LIMIT := E_s_WEEKLY_AVERAGE_DAILY_LIMIT.wr W9
  have E_s_REMOVE_AVERAGE_DAILY_LIMIT := E_s_REMOVE_AVERAGE_DAILY_LIMIT.wr W9
  have E_s_END_DATE := E_s_END_DATE.wr W9
  have E_s_LIFETIME_BUDGET := E_s_LIFETIME_BUDGET.wr W9
  have E_s_WALLET_DAILY_CAP := E_s_WALLET_DAILY_CAP.wr W9
  have E_s_WALLET := E_s_WALLET.wr W9
  have F_value_s_DAILY_CAP := F_value_s_DAILY_CAP.other W9 (Or.inl ne_s_DAILY_CAP_b1)
  have F_cap_s_DAILY_CAP := F_cap_s_DAILY_CAP.other W9 (Or.inl ne_s_DAILY_CAP_b1)
  have F_value_s_MONTHLY_CAP := F_value_s_MONTHLY_CAP.other W9 (Or.inl ne_s_MONTHLY_CAP_b1)
  have F_cap_s_MONTHLY_CAP := F_cap_s_MONTHLY_CAP.other W9 (Or.inl ne_s_MONTHLY_CAP_b1)
  have F_value_s_TOTAL_CAP := F_value_s_TOTAL_CAP.other W9 (Or.inl ne_s_TOTAL_CAP_b1)
  have F_cap_s_TOTAL_CAP := F_cap_s_TOTAL_CAP.other W9 (Or.inl ne_s_TOTAL_CAP_b1)
  have F_value_s_CHARGE := F_value_s_CHARGE.other W9 (Or.inl ne_s_CHARGE_b1)
  have F_cap_s_CHARGE := F_cap_s_CHARGE.other W9 (Or.inl ne_s_CHARGE_b1)
  have F_value_s_AVERAGE_DAILY_LIMIT := F_value_s_AVERAGE_DAILY_LIMIT.other W9 (Or.inl ne_s_AVERAGE_DAILY_LIMIT_b1)
  have F_cap_s_AVERAGE_DAILY_LIMIT := F_cap_s_AVERAGE_DAILY_LIMIT.other W9 (Or.inl ne_s_AVERAGE_DAILY_LIMIT_b1)
  have F_value_s_WEEKLY_AVERAGE_DAILY_LIMIT := F_value_s_WEEKLY_AVERAGE_DAILY_LIMIT.other W9 (Or.inl ne_s_WEEKLY_AVERAGE_DAILY_LIMIT_b1)
  have F_cap_s_WEEKLY_AVERAGE_DAILY_LIMIT := F_cap_s_WEEKLY_AVERAGE_DAILY_LIMIT.other W9 (Or.inl ne_s_WEEKLY_AVERAGE_DAILY_LIMIT_b1)
  have F_value_s_REMOVE_AVERAGE_DAILY_LIMIT := F_value_s_REMOVE_AVERAGE_DAILY_LIMIT.other W9 (Or.inl ne_s_REMOVE_AVERAGE_DAILY_LIMIT_b1)
  have F_cap_s_REMOVE_AVERAGE_DAILY_LIMIT := F_cap_s_REMOVE_AVERAGE_DAILY_LIMIT.other W9 (Or.inl ne_s_REMOVE_AVERAGE_DAILY_LIMIT_b1)
  have F_value_s_END_DATE := F_value_s_END_DATE.other W9 (Or.inl ne_s_END_DATE_b1)
  have F_cap_s_END_DATE := F_cap_s_END_DATE.other W9 (Or.inl ne_s_END_DATE_b1)
  have F_value_s_LIFETIME_BUDGET := F_value_s_LIFETIME_BUDGET.other W9 (Or.inl ne_s_LIFETIME_BUDGET_b1)
  have F_cap_s_LIFETIME_BUDGET := F_cap_s_LIFETIME_BUDGET.other W9 (Or.inl ne_s_LIFETIME_BUDGET_b1)
  have F_value_s_WALLET_DAILY_CAP := F_value_s_WALLET_DAILY_CAP.other W9 (Or.inl ne_s_WALLET_DAILY_CAP_b1)
  have F_cap_s_WALLET_DAILY_CAP := F_cap_s_WALLET_DAILY_CAP.other W9 (Or.inl ne_s_WALLET_DAILY_CAP_b1)
  have F_value_s_WALLET := F_value_s_WALLET.other W9 (Or.inl ne_s_WALLET_b1)
  have F_cap_s_WALLET := F_cap_s_WALLET.other W9 (Or.inl ne_s_WALLET_b1)
  have N9 := Fr.snoc X9 N7 g_b1
  have Z9 : n0 ≤ h9.size := Nat.le_trans Z7 (Keep.of_wr W9).1
  have K9 := K7.wr W9 (Or.inr sz_b1)
  refine OutW.back st9 ?_
  show OutW _ _ _ _ _ _ _ (T9.setTop (mkF m 29 #[.val (.int p1), .unset, .unset, .unset] [(.ref b1)]))
  refine OutW.back (fun t k => XS.dup X9.here hx rfl (hb hby at_29) rfl rfl k) ?_
  show OutW _ _ _ _ _ _ _ (T9.setTop (mkF m 30 #[.val (.int p1), .unset, .unset, .unset] [(.ref b1), (.ref b1)]))
  refine OutW.back (fun t k => XS.iconst X9.here hx rfl (hb hby at_30) k) ?_
  show OutW _ _ _ _ _ _ _ (T9.setTop (mkF m 31 #[.val (.int p1), .unset, .unset, .unset] [(.int (4 : Int32)), (.ref b1), (.ref b1)]))
  obtain ⟨T10, X10, e10, st10⟩ := getS2 X9 hx hZ hown (host := "") (Or.inl (hw _ (List.mem_of_getElem? (i := 12) rfl))) Via.refl e9 S_AVERAGE_DAILY_LIMIT (g := (mkF m 31 #[.val (.int p1), .unset, .unset, .unset] [(.int (4 : Int32)), (.ref b1), (.ref b1)])) rfl (hb hby at_31)
  refine OutW.back st10 ?_
  show OutW _ _ _ _ _ _ _ (T10.setTop (mkF m 34 #[.val (.int p1), .unset, .unset, .unset] [(.ref s_AVERAGE_DAILY_LIMIT), (.int (4 : Int32)), (.ref b1), (.ref b1)]))
  obtain ⟨cl11, Ar11, q11, Sz11, Nn11, Hh11, Gg11⟩ := V_b1_9
  have hin11 : ¬ ((4 : Int32) < 0 ∨ cl11.slots.size ≤ ((4 : Int32)).toNatClampNeg) := inb_of Sz11 ⟨by decide, by decide⟩
  obtain ⟨T11, h11, X11, e11, W11, st11⟩ := stR X10 hx hZ e10 Ar11 (j := (4 : Int32)) hin11 rfl (Sto.ofV Ar11 q11 O1 (Ins.self E_s_AVERAGE_DAILY_LIMIT)) (g := (mkF m 34 #[.val (.int p1), .unset, .unset, .unset] [(.ref s_AVERAGE_DAILY_LIMIT), (.int (4 : Int32)), (.ref b1), (.ref b1)])) rfl rfl (hb hby at_34)
  have V_b1_11 : Arv Z h11 b1 k1 (.object "com/example/daily_spend_pacer/dailyspendpacer/io/ReplayEvent$Kind") (11 : Int32) [(.ref s_DAILY_CAP), (.ref s_MONTHLY_CAP), (.ref s_TOTAL_CAP), (.ref s_CHARGE), (.ref s_AVERAGE_DAILY_LIMIT), .null, .null, .null, .null, .null, .null] .null := Arv.set Ar11 q11 Sz11 Nn11 Hh11 Gg11 rfl W11 4 rfl (Nat.le_of_ble_eq_true rfl)
  have S_DAILY_CAP := S_DAILY_CAP.wr W11
  have S_MONTHLY_CAP := S_MONTHLY_CAP.wr W11
  have S_TOTAL_CAP := S_TOTAL_CAP.wr W11
  have S_CHARGE := S_CHARGE.wr W11
  have S_AVERAGE_DAILY_LIMIT := S_AVERAGE_DAILY_LIMIT.wr W11
  have S_WEEKLY_AVERAGE_DAILY_LIMIT := S_WEEKLY_AVERAGE_DAILY_LIMIT.wr W11
  have S_REMOVE_AVERAGE_DAILY_LIMIT := S_REMOVE_AVERAGE_DAILY_LIMIT.wr W11
  have S_END_DATE := S_END_DATE.wr W11
  have S_LIFETIME_BUDGET := S_LIFETIME_BUDGET.wr W11
  have S_WALLET_DAILY_CAP := S_WALLET_DAILY_CAP.wr W11
  have S_WALLET := S_WALLET.wr W11
  have S_CAP := S_CAP.wr W11
  have E_s_DAILY_CAP := E_s_DAILY_CAP.wr W11
  have E_s_MONTHLY_CAP := E_s_MONTHLY_CAP.wr W11
  have E_s_TOTAL_CAP := E_s_TOTAL_CAP.wr W11
  have E_s_CHARGE := E_s_CHARGE.wr W11
  have E_s_AVERAGE_DAILY_LIMIT := E_s_AVERAGE_DAILY_LIMIT.wr W11
  have E_s_WEEKLY_AVERAGE_DAILY_LIMIT := E_s_WEEKLY_AVERAGE_DAILY_LIMIT.wr W11
  have E_s_REMOVE_AVERAGE_DAILY_LIMIT := E_s_REMOVE_AVERAGE_DAILY_LIMIT.wr W11
  have E_s_END_DATE := E_s_END_DATE.wr W11
  have E_s_LIFETIME_BUDGET := E_s_LIFETIME_BUDGET.wr W11
  have E_s_WALLET_DAILY_CAP := E_s_WALLET_DAILY_CAP.wr W11
  have E_s_WALLET := E_s_WALLET.wr W11
  have F_value_s_DAILY_CAP := F_value_s_DAILY_CAP.other W11 (Or.inl ne_s_DAILY_CAP_b1)
  have F_cap_s_DAILY_CAP := F_cap_s_DAILY_CAP.other W11 (Or.inl ne_s_DAILY_CAP_b1)
  have F_value_s_MONTHLY_CAP := F_value_s_MONTHLY_CAP.other W11 (Or.inl ne_s_MONTHLY_CAP_b1)
  have F_cap_s_MONTHLY_CAP := F_cap_s_MONTHLY_CAP.other W11 (Or.inl ne_s_MONTHLY_CAP_b1)
  have F_value_s_TOTAL_CAP := F_value_s_TOTAL_CAP.other W11 (Or.inl ne_s_TOTAL_CAP_b1)
  have F_cap_s_TOTAL_CAP := F_cap_s_TOTAL_CAP.other W11 (Or.inl ne_s_TOTAL_CAP_b1)
  have F_value_s_CHARGE := F_value_s_CHARGE.other W11 (Or.inl ne_s_CHARGE_b1)
  have F_cap_s_CHARGE := F_cap_s_CHARGE.other W11 (Or.inl ne_s_CHARGE_b1)
  have F_value_s_AVERAGE_DAILY_LIMIT := F_value_s_AVERAGE_DAILY_LIMIT.other W11 (Or.inl ne_s_AVERAGE_DAILY_LIMIT_b1)
  have F_cap_s_AVERAGE_DAILY_LIMIT := F_cap_s_AVERAGE_DAILY_LIMIT.other W11 (Or.inl ne_s_AVERAGE_DAILY_LIMIT_b1)
  have F_value_s_WEEKLY_AVERAGE_DAILY_LIMIT := F_value_s_WEEKLY_AVERAGE_DAILY_LIMIT.other W11 (Or.inl ne_s_WEEKLY_AVERAGE_DAILY_LIMIT_b1)
  have F_cap_s_WEEKLY_AVERAGE_DAILY_LIMIT := F_cap_s_WEEKLY_AVERAGE_DAILY_LIMIT.other W11 (Or.inl ne_s_WEEKLY_AVERAGE_DAILY_LIMIT_b1)
  have F_value_s_REMOVE_AVERAGE_DAILY_LIMIT := F_value_s_REMOVE_AVERAGE_DAILY_LIMIT.other W11 (Or.inl ne_s_REMOVE_AVERAGE_DAILY_LIMIT_b1)
  have F_cap_s_REMOVE_AVERAGE_DAILY_LIMIT := F_cap_s_REMOVE_AVERAGE_DAILY_LIMIT.other W11 (Or.inl ne_s_REMOVE_AVERAGE_DAILY_LIMIT_b1)
  have F_value_s_END_DATE := F_value_s_END_DATE.other W11 (Or.inl ne_s_END_DATE_b1)
  have F_cap_s_END_DATE := F_cap_s_END_DATE.other W11 (Or.inl ne_s_END_DATE_b1)
  have F_value_s_LIFETIME_BUDGET := F_value_s_LIFETIME_BUDGET.other W11 (Or.inl ne_s_LIFETIME_BUDGET_b1)
  have F_cap_s_LIFETIME_BUDGET := F_cap_s_LIFETIME_BUDGET.other W11 (Or.inl ne_s_LIFETIME_BUDGET_b1)
  have F_value_s_WALLET_DAILY_CAP := F_value_s_WALLET_DAILY_CAP.other W11 (Or.inl ne_s_WALLET_DAILY_CAP_b1)
  have F_cap_s_WALLET_DAILY_CAP := F_cap_s_WALLET_DAILY_CAP.other W11 (Or.inl ne_s_WALLET_DAILY_CAP_b1)
  have F_value_s_WALLET := F_value_s_WALLET.other W11 (Or.inl ne_s_WALLET_b1)
  have F_cap_s_WALLET := F_cap_s_WALLET.other W11 (Or.inl ne_s_WALLET_b1)
  have N11 := Fr.snoc X11 N9 g_b1
  have Z11 : n0 ≤ h11.size := Nat.le_trans Z9 (Keep.of_wr W11).1
  have K11 := K9.wr W11 (Or.inr sz_b1)
  refine OutW.back st11 ?_
  show OutW _ _ _ _ _ _ _ (T11.setTop (mkF m 35 #[.val (.int p1), .unset, .unset, .unset] [(.ref b1)]))
  refine OutW.back (fun t k => XS.dup X11.here hx rfl (hb hby at_35) rfl rfl k) ?_
  show OutW _ _ _ _ _ _ _ (T11.setTop (mkF m 36 #[.val (.int p1), .unset, .unset, .unset] [(.ref b1), (.ref b1)]))
  refine OutW.back (fun t k => XS.iconst X11.here hx rfl (hb hby at_36) k) ?_
  show OutW _ _ _ _ _ _ _ (T11.setTop (mkF m 37 #[.val (.int p1), .unset, .unset, .unset] [(.int (5 : Int32)), (.ref b1), (.ref b1)]))
  obtain ⟨T12, X12, e12, st12⟩ := getS2 X11 hx hZ hown (host := "") (Or.inl (hw _ (List.mem_of_getElem? (i := 14) rfl))) Via.refl e11 S_WEEKLY_AVERAGE_DAILY_LIMIT (g := (mkF m 37 #[.val (.int p1), .unset, .unset, .unset] [(.int (5 : Int32)), (.ref b1), (.ref b1)])) rfl (hb hby at_37)
  refine OutW.back st12 ?_
  show OutW _ _ _ _ _ _ _ (T12.setTop (mkF m 40 #[.val (.int p1), .unset, .unset, .unset] [(.ref s_WEEKLY_AVERAGE_DAILY_LIMIT), (.int (5 : Int32)), (.ref b1), (.ref b1)]))
  obtain ⟨cl13, Ar13, q13, Sz13, Nn13, Hh13, Gg13⟩ := V_b1_11
  have hin13 : ¬ ((5 : Int32) < 0 ∨ cl13.slots.size ≤ ((5 : Int32)).toNatClampNeg) := inb_of Sz13 ⟨by decide, by decide⟩
  obtain ⟨T13, h13, X13, e13, W13, st13⟩ := stR X12 hx hZ e12 Ar13 (j := (5 : Int32)) hin13 rfl (Sto.ofV Ar13 q13 O1 (Ins.self E_s_WEEKLY_AVERAGE_DAILY_LIMIT)) (g := (mkF m 40 #[.val (.int p1), .unset, .unset, .unset] [(.ref s_WEEKLY_AVERAGE_DAILY_LIMIT), (.int (5 : Int32)), (.ref b1), (.ref b1)])) rfl rfl (hb hby at_40)
  have V_b1_13 : Arv Z h13 b1 k1 (.object "com/example/daily_spend_pacer/dailyspendpacer/io/ReplayEvent$Kind") (11 : Int32) [(.ref s_DAILY_CAP), (.ref s_MONTHLY_CAP), (.ref s_TOTAL_CAP), (.ref s_CHARGE), (.ref s_AVERAGE_DAILY_LIMIT), (.ref s_WEEKLY_AVERAGE_DAILY_LIMIT), .null, .null, .null, .null, .null] .null := Arv.set Ar13 q13 Sz13 Nn13 Hh13 Gg13 rfl W13 5 rfl (Nat.le_of_ble_eq_true rfl)
  have S_DAILY_CAP := S_DAILY_CAP.wr W13
  have S_MONTHLY_CAP := S_MONTHLY_CAP.wr W13
  have S_TOTAL_CAP := S_TOTAL_CAP.wr W13
  have S_CHARGE := S_CHARGE.wr W13
  have S_AVERAGE_DAILY_LIMIT := S_AVERAGE_DAILY_LIMIT.wr W13
  have S_WEEKLY_AVERAGE_DAILY_LIMIT := S_WEEKLY_AVERAGE_DAILY_LIMIT.wr W13
  have S_REMOVE_AVERAGE_DAILY_LIMIT := S_REMOVE_AVERAGE_DAILY_LIMIT.wr W13
  have S_END_DATE := S_END_DATE.wr W13
  have S_LIFETIME_BUDGET := S_LIFETIME_BUDGET.wr W13
  have S_WALLET_DAILY_CAP := S_WALLET_DAILY_CAP.wr W13
  have S_WALLET := S_WALLET.wr W13
  have S_CAP := S_CAP.wr W13
  have E_s_DAILY_CAP := E_s_DAILY_CAP.wr W13
  have E_s_MONTHLY_CAP := E_s_MONTHLY_CAP.wr W13
  have E_s_TOTAL_CAP := E_s_TOTAL_CAP.wr W13
  have E_s_CHARGE := E_s_CHARGE.wr W13
  have E_s_AVERAGE_DAILY_LIMIT := E_s_AVERAGE_DAILY_LIMIT.wr W13
  have E_s_WEEKLY_AVERAGE_DAILY_LIMIT := E_s_WEEKLY_AVERAGE_DAILY_LIMIT.wr W13
  have E_s_REMOVE_AVERAGE_DAILY_LIMIT := E_s_REMOVE_AVERAGE_DAILY_LIMIT.wr W13
  have E_s_END_DATE := E_s_END_DATE.wr W13
  have E_s_LIFETIME_BUDGET := E_s_LIFETIME_BUDGET.wr W13
  have E_s_WALLET_DAILY_CAP := E_s_WALLET_DAILY_CAP.wr W13
  have E_s_WALLET := E_s_WALLET.wr W13
  have F_value_s_DAILY_CAP := F_value_s_DAILY_CAP.other W13 (Or.inl ne_s_DAILY_CAP_b1)
  have F_cap_s_DAILY_CAP := F_cap_s_DAILY_CAP.other W13 (Or.inl ne_s_DAILY_CAP_b1)
  have F_value_s_MONTHLY_CAP := F_value_s_MONTHLY_CAP.other W13 (Or.inl ne_s_MONTHLY_CAP_b1)
  have F_cap_s_MONTHLY_CAP := F_cap_s_MONTHLY_CAP.other W13 (Or.inl ne_s_MONTHLY_CAP_b1)
  have F_value_s_TOTAL_CAP := F_value_s_TOTAL_CAP.other W13 (Or.inl ne_s_TOTAL_CAP_b1)
  have F_cap_s_TOTAL_CAP := F_cap_s_TOTAL_CAP.other W13 (Or.inl ne_s_TOTAL_CAP_b1)
  have F_value_s_CHARGE := F_value_s_CHARGE.other W13 (Or.inl ne_s_CHARGE_b1)
  have F_cap_s_CHARGE := F_cap_s_CHARGE.other W13 (Or.inl ne_s_CHARGE_b1)
  have F_value_s_AVERAGE_DAILY_LIMIT := F_value_s_AVERAGE_DAILY_LIMIT.other W13 (Or.inl ne_s_AVERAGE_DAILY_LIMIT_b1)
  have F_cap_s_AVERAGE_DAILY_LIMIT := F_cap_s_AVERAGE_DAILY_LIMIT.other W13 (Or.inl ne_s_AVERAGE_DAILY_LIMIT_b1)
  have F_value_s_WEEKLY_AVERAGE_DAILY_LIMIT := F_value_s_WEEKLY_AVERAGE_DAILY_LIMIT.other W13 (Or.inl ne_s_WEEKLY_AVERAGE_DAILY_LIMIT_b1)
  have F_cap_s_WEEKLY_AVERAGE_DAILY_LIMIT := F_cap_s_WEEKLY_AVERAGE_DAILY_LIMIT.other W13 (Or.inl ne_s_WEEKLY_AVERAGE_DAILY_LIMIT_b1)
  have F_value_s_REMOVE_AVERAGE_DAILY_LIMIT := F_value_s_REMOVE_AVERAGE_DAILY_LIMIT.other W13 (Or.inl ne_s_REMOVE_AVERAGE_DAILY_LIMIT_b1)
  have F_cap_s_REMOVE_AVERAGE_DAILY_LIMIT := F_cap_s_REMOVE_AVERAGE_DAILY_LIMIT.other W13 (Or.inl ne_s_REMOVE_AVERAGE_DAILY_LIMIT_b1)
  have F_value_s_END_DATE := F_value_s_END_DATE.other W13 (Or.inl ne_s_END_DATE_b1)
  have F_cap_s_END_DATE := F_cap_s_END_DATE.other W13 (Or.inl ne_s_END_DATE_b1)
  have F_value_s_LIFETIME_BUDGET := F_value_s_LIFETIME_BUDGET.other W13 (Or.inl ne_s_LIFETIME_BUDGET_b1)
  have F_cap_s_LIFETIME_BUDGET := F_cap_s_LIFETIME_BUDGET.other W13 (Or.inl ne_s_LIFETIME_BUDGET_b1)
  have F_value_s_WALLET_DAILY_CAP := F_value_s_WALLET_DAILY_CAP.other W13 (Or.inl ne_s_WALLET_DAILY_CAP_b1)
  have F_cap_s_WALLET_DAILY_CAP := F_cap_s_WALLET_DAILY_CAP.other W13 (Or.inl ne_s_WALLET_DAILY_CAP_b1)
  have F_value_s_WALLET := F_value_s_WALLET.other W13 (Or.inl ne_s_WALLET_b1)
  have F_cap_s_WALLET := F_cap_s_WALLET.other W13 (Or.inl ne_s_WALLET_b1)
  have N13 := Fr.snoc X13 N11 g_b1
  have Z13 : n0 ≤ h13.size := Nat.le_trans Z11 (Keep.of_wr W13).1
  have K13 := K11.wr W13 (Or.inr sz_b1)
  refine OutW.back st13 ?_
  show OutW _ _ _ _ _ _ _ (T13.setTop (mkF m 41 #[.val (.int p1), .unset, .unset, .unset] [(.ref b1)]))
  refine OutW.back (fun t k => XS.dup X13.here hx rfl (hb hby at_41) rfl rfl k) ?_
  show OutW _ _ _ _ _ _ _ (T13.setTop (mkF m 42 #[.val (.int p1), .unset, .unset, .unset] [(.ref b1), (.ref b1)]))
  refine OutW.back (fun t k => XS.bipush X13.here hx rfl (hb hby at_42) k) ?_
  show OutW _ _ _ _ _ _ _ (T13.setTop (mkF m 44 #[.val (.int p1), .unset, .unset, .unset] [(.int (6 : Int32)), (.ref b1), (.ref b1)]))
  obtain ⟨T14, X14, e14, st14⟩ := getS2 X13 hx hZ hown (host := "") (Or.inl (hw _ (List.mem_of_getElem? (i := 16) rfl))) Via.refl e13 S_REMOVE_AVERAGE_DAILY_LIMIT (g := (mkF m 44 #[.val (.int p1), .unset, .unset, .unset] [(.int (6 : Int32)), (.ref b1), (.ref b1)])) rfl (hb hby at_44)
  refine OutW.back st14 ?_
  show OutW _ _ _ _ _ _ _ (T14.setTop (mkF m 47 #[.val (.int p1), .unset, .unset, .unset] [(.ref s_REMOVE_AVERAGE_DAILY_LIMIT), (.int (6 : Int32)), (.ref b1), (.ref b1)]))
  obtain ⟨cl15, Ar15, q15, Sz15, Nn15, Hh15, Gg15⟩ := V_b1_13
  have hin15 : ¬ ((6 : Int32) < 0 ∨ cl15.slots.size ≤ ((6 : Int32)).toNatClampNeg) := inb_of Sz15 ⟨by decide, by decide⟩
  obtain ⟨T15, h15, X15, e15, W15, st15⟩ := stR X14 hx hZ e14 Ar15 (j := (6 : Int32)) hin15 rfl (Sto.ofV Ar15 q15 O1 (Ins.self E_s_REMOVE_AVERAGE_DAILY_LIMIT)) (g := (mkF m 47 #[.val (.int p1), .unset, .unset, .unset] [(.ref s_REMOVE_AVERAGE_DAILY_LIMIT), (.int (6 : Int32)), (.ref b1), (.ref b1)])) rfl rfl (hb hby at_47)
  have V_b1_15 : Arv Z h15 b1 k1 (.object "com/example/daily_spend_pacer/dailyspendpacer/io/ReplayEvent$Kind") (11 : Int32) [(.ref s_DAILY_CAP), (.ref s_MONTHLY_CAP), (.ref s_TOTAL_CAP), (.ref s_CHARGE), (.ref s_AVERAGE_DAILY_LIMIT), (.ref s_WEEKLY_AVERAGE_DAILY_LIMIT), (.ref s_REMOVE_AVERAGE_DAILY_LIMIT), .null, .null, .null, .null] .null := Arv.set Ar15 q15 Sz15 Nn15 Hh15 Gg15 rfl W15 6 rfl (Nat.le_of_ble_eq_true rfl)
  have S_DAILY_CAP := S_DAILY_CAP.wr W15
  have S_MONTHLY_CAP := S_MONTHLY_CAP.wr W15
  have S_TOTAL_CAP := S_TOTAL_CAP.wr W15
  have S_CHARGE := S_CHARGE.wr W15
  have S_AVERAGE_DAILY_LIMIT := S_AVERAGE_DAILY_LIMIT.wr W15
  have S_WEEKLY_AVERAGE_DAILY_LIMIT := S_WEEKLY_AVERAGE_DAILY_LIMIT.wr W15
  have S_REMOVE_AVERAGE_DAILY_LIMIT := S_REMOVE_AVERAGE_DAILY_LIMIT.wr W15
  have S_END_DATE := S_END_DATE.wr W15
  have S_LIFETIME_BUDGET := S_LIFETIME_BUDGET.wr W15
  have S_WALLET_DAILY_CAP := S_WALLET_DAILY_CAP.wr W15
  have S_WALLET := S_WALLET.wr W15
  have S_CAP := S_CAP.wr W15
  have E_s_DAILY_CAP := E_s_DAILY_CAP.wr W15
  have E_s_MONTHLY_CAP := E_s_MONTHLY_CAP.wr W15
  have E_s_TOTAL_CAP := E_s_TOTAL_CAP.wr W15
  have E_s_CHARGE := E_s_CHARGE.wr W15
  have E_s_AVERAGE_DAILY_LIMIT := E_s_AVERAGE_DAILY_LIMIT.wr W15
  have E_s_WEEKLY_AVERAGE_DAILY_LIMIT := E_s_WEEKLY_AVERAGE_DAILY_LIMIT.wr W15
  have E_s_REMOVE_AVERAGE_DAILY_LIMIT := E_s_REMOVE_AVERAGE_DAILY_LIMIT.wr W15
  have E_s_END_DATE := E_s_END_DATE.wr W15
  have E_s_LIFETIME_BUDGET := E_s_LIFETIME_BUDGET.wr W15
  have E_s_WALLET_DAILY_CAP := E_s_WALLET_DAILY_CAP.wr W15
  have E_s_WALLET := E_s_WALLET.wr W15
  have F_value_s_DAILY_CAP := F_value_s_DAILY_CAP.other W15 (Or.inl ne_s_DAILY_CAP_b1)
  have F_cap_s_DAILY_CAP := F_cap_s_DAILY_CAP.other W15 (Or.inl ne_s_DAILY_CAP_b1)
  have F_value_s_MONTHLY_CAP := F_value_s_MONTHLY_CAP.other W15 (Or.inl ne_s_MONTHLY_CAP_b1)
  have F_cap_s_MONTHLY_CAP := F_cap_s_MONTHLY_CAP.other W15 (Or.inl ne_s_MONTHLY_CAP_b1)
  have F_value_s_TOTAL_CAP := F_value_s_TOTAL_CAP.other W15 (Or.inl ne_s_TOTAL_CAP_b1)
  have F_cap_s_TOTAL_CAP := F_cap_s_TOTAL_CAP.other W15 (Or.inl ne_s_TOTAL_CAP_b1)
  have F_value_s_CHARGE := F_value_s_CHARGE.other W15 (Or.inl ne_s_CHARGE_b1)
  have F_cap_s_CHARGE := F_cap_s_CHARGE.other W15 (Or.inl ne_s_CHARGE_b1)
  have F_value_s_AVERAGE_DAILY_LIMIT := F_value_s_AVERAGE_DAILY_LIMIT.other W15 (Or.inl ne_s_AVERAGE_DAILY_LIMIT_b1)
  have F_cap_s_AVERAGE_DAILY_LIMIT := F_cap_s_AVERAGE_DAILY_LIMIT.other W15 (Or.inl ne_s_AVERAGE_DAILY_LIMIT_b1)
  have F_value_s_WEEKLY_AVERAGE_DAILY_LIMIT := F_value_s_WEEKLY_AVERAGE_DAILY_LIMIT.other W15 (Or.inl ne_s_WEEKLY_AVERAGE_DAILY_LIMIT_b1)
  have F_cap_s_WEEKLY_AVERAGE_DAILY_LIMIT := F_cap_s_WEEKLY_AVERAGE_DAILY_LIMIT.other W15 (Or.inl ne_s_WEEKLY_AVERAGE_DAILY_LIMIT_b1)
  have F_value_s_REMOVE_AVERAGE_DAILY_LIMIT := F_value_s_REMOVE_AVERAGE_DAILY_LIMIT.other W15 (Or.inl ne_s_REMOVE_AVERAGE_DAILY_LIMIT_b1)
  have F_cap_s_REMOVE_AVERAGE_DAILY_LIMIT := F_cap_s_REMOVE_AVERAGE_DAILY_LIMIT.other W15 (Or.inl ne_s_REMOVE_AVERAGE_DAILY_LIMIT_b1)
  have F_value_s_END_DATE := F_value_s_END_DATE.other W15 (Or.inl ne_s_END_DATE_b1)
  have F_cap_s_END_DATE := F_cap_s_END_DATE.other W15 (Or.inl ne_s_END_DATE_b1)
  have F_value_s_LIFETIME_BUDGET := F_value_s_LIFETIME_BUDGET.other W15 (Or.inl ne_s_LIFETIME_BUDGET_b1)
  have F_cap_s_LIFETIME_BUDGET := F_cap_s_LIFETIME_BUDGET.other W15 (Or.inl ne_s_LIFETIME_BUDGET_b1)
  have F_value_s_WALLET_DAILY_CAP := F_value_s_WALLET_DAILY_CAP.other W15 (Or.inl ne_s_WALLET_DAILY_CAP_b1)
  have F_cap_s_WALLET_DAILY_CAP := F_cap_s_WALLET_DAILY_CAP.other W15 (Or.inl ne_s_WALLET_DAILY_CAP_b1)
  have F_value_s_WALLET := F_value_s_WALLET.other W15 (Or.inl ne_s_WALLET_b1)
  have F_cap_s_WALLET := F_cap_s_WALLET.other W15 (Or.inl ne_s_WALLET_b1)
  have N15 := Fr.snoc X15 N13 g_b1
  have Z15 : n0 ≤ h15.size := Nat.le_trans Z13 (Keep.of_wr W15).1
  have K15 := K13.wr W15 (Or.inr sz_b1)
  refine OutW.back st15 ?_
  show OutW _ _ _ _ _ _ _ (T15.setTop (mkF m 48 #[.val (.int p1), .unset, .unset, .unset] [(.ref b1)]))
  refine OutW.back (fun t k => XS.dup X15.here hx rfl (hb hby at_48) rfl rfl k) ?_
  show OutW _ _ _ _ _ _ _ (T15.setTop (mkF m 49 #[.val (.int p1), .unset, .unset, .unset] [(.ref b1), (.ref b1)]))
  refine OutW.back (fun t k => XS.bipush X15.here hx rfl (hb hby at_49) k) ?_
  show OutW _ _ _ _ _ _ _ (T15.setTop (mkF m 51 #[.val (.int p1), .unset, .unset, .unset] [(.int (7 : Int32)), (.ref b1), (.ref b1)]))
  obtain ⟨T16, X16, e16, st16⟩ := getS2 X15 hx hZ hown (host := "") (Or.inl (hw _ (List.mem_of_getElem? (i := 18) rfl))) Via.refl e15 S_END_DATE (g := (mkF m 51 #[.val (.int p1), .unset, .unset, .unset] [(.int (7 : Int32)), (.ref b1), (.ref b1)])) rfl (hb hby at_51)
  refine OutW.back st16 ?_
  show OutW _ _ _ _ _ _ _ (T16.setTop (mkF m 54 #[.val (.int p1), .unset, .unset, .unset] [(.ref s_END_DATE), (.int (7 : Int32)), (.ref b1), (.ref b1)]))
  obtain ⟨cl17, Ar17, q17, Sz17, Nn17, Hh17, Gg17⟩ := V_b1_15
  have hin17 : ¬ ((7 : Int32) < 0 ∨ cl17.slots.size ≤ ((7 : Int32)).toNatClampNeg) := inb_of Sz17 ⟨by decide, by decide⟩
  obtain ⟨T17, h17, X17, e17, W17, st17⟩ := stR X16 hx hZ e16 Ar17 (j := (7 : Int32)) hin17 rfl (Sto.ofV Ar17 q17 O1 (Ins.self E_s_END_DATE)) (g := (mkF m 54 #[.val (.int p1), .unset, .unset, .unset] [(.ref s_END_DATE), (.int (7 : Int32)), (.ref b1), (.ref b1)])) rfl rfl (hb hby at_54)
  have V_b1_17 : Arv Z h17 b1 k1 (.object "com/example/daily_spend_pacer/dailyspendpacer/io/ReplayEvent$Kind") (11 : Int32) [(.ref s_DAILY_CAP), (.ref s_MONTHLY_CAP), (.ref s_TOTAL_CAP), (.ref s_CHARGE), (.ref s_AVERAGE_DAILY_LIMIT), (.ref s_WEEKLY_AVERAGE_DAILY_LIMIT), (.ref s_REMOVE_AVERAGE_DAILY_LIMIT), (.ref s_END_DATE), .null, .null, .null] .null := Arv.set Ar17 q17 Sz17 Nn17 Hh17 Gg17 rfl W17 7 rfl (Nat.le_of_ble_eq_true rfl)
  have S_DAILY_CAP := S_DAILY_CAP.wr W17
  have S_MONTHLY_CAP := S_MONTHLY_CAP.wr W17
  have S_TOTAL_CAP := S_TOTAL_CAP.wr W17
  have S_CHARGE := S_CHARGE.wr W17
  have S_AVERAGE_DAILY_LIMIT := S_AVERAGE_DAILY_LIMIT.wr W17
  have S_WEEKLY_AVERAGE_DAILY_LIMIT := S_WEEKLY_AVERAGE_DAILY_LIMIT.wr W17
  have S_REMOVE_AVERAGE_DAILY_LIMIT := S_REMOVE_AVERAGE_DAILY_LIMIT.wr W17
  have S_END_DATE := S_END_DATE.wr W17
  have S_LIFETIME_BUDGET := S_LIFETIME_BUDGET.wr W17
  have S_WALLET_DAILY_CAP := S_WALLET_DAILY_CAP.wr W17
  have S_WALLET := S_WALLET.wr W17
  have S_CAP := S_CAP.wr W17
  have E_s_DAILY_CAP := E_s_DAILY_CAP.wr W17
  have E_s_MONTHLY_CAP := E_s_MONTHLY_CAP.wr W17
  have E_s_TOTAL_CAP := E_s_TOTAL_CAP.wr W17
  have E_s_CHARGE := E_s_CHARGE.wr W17
  have E_s_AVERAGE_DAILY_LIMIT := E_s_AVERAGE_DAILY_LIMIT.wr W17
  have E_s_WEEKLY_AVERAGE_DAILY_LIMIT := E_s_WEEKLY_AVERAGE_DAILY_LIMIT.wr W17
  have E_s_REMOVE_AVERAGE_DAILY_LIMIT := E_s_REMOVE_AVERAGE_DAILY_LIMIT.wr W17
  have E_s_END_DATE := E_s_END_DATE.wr W17
  have E_s_LIFETIME_BUDGET := E_s_LIFETIME_BUDGET.wr W17
  have E_s_WALLET_DAILY_CAP := E_s_WALLET_DAILY_CAP.wr W17
  have E_s_WALLET := E_s_WALLET.wr W17
  have F_value_s_DAILY_CAP := F_value_s_DAILY_CAP.other W17 (Or.inl ne_s_DAILY_CAP_b1)
  have F_cap_s_DAILY_CAP := F_cap_s_DAILY_CAP.other W17 (Or.inl ne_s_DAILY_CAP_b1)
  have F_value_s_MONTHLY_CAP := F_value_s_MONTHLY_CAP.other W17 (Or.inl ne_s_MONTHLY_CAP_b1)
  have F_cap_s_MONTHLY_CAP := F_cap_s_MONTHLY_CAP.other W17 (Or.inl ne_s_MONTHLY_CAP_b1)
  have F_value_s_TOTAL_CAP := F_value_s_TOTAL_CAP.other W17 (Or.inl ne_s_TOTAL_CAP_b1)
  have F_cap_s_TOTAL_CAP := F_cap_s_TOTAL_CAP.other W17 (Or.inl ne_s_TOTAL_CAP_b1)
  have F_value_s_CHARGE := F_value_s_CHARGE.other W17 (Or.inl ne_s_CHARGE_b1)
  have F_cap_s_CHARGE := F_cap_s_CHARGE.other W17 (Or.inl ne_s_CHARGE_b1)
  have F_value_s_AVERAGE_DAILY_LIMIT := F_value_s_AVERAGE_DAILY_LIMIT.other W17 (Or.inl ne_s_AVERAGE_DAILY_LIMIT_b1)
  have F_cap_s_AVERAGE_DAILY_LIMIT := F_cap_s_AVERAGE_DAILY_LIMIT.other W17 (Or.inl ne_s_AVERAGE_DAILY_LIMIT_b1)
  have F_value_s_WEEKLY_AVERAGE_DAILY_LIMIT := F_value_s_WEEKLY_AVERAGE_DAILY_LIMIT.other W17 (Or.inl ne_s_WEEKLY_AVERAGE_DAILY_LIMIT_b1)
  have F_cap_s_WEEKLY_AVERAGE_DAILY_LIMIT := F_cap_s_WEEKLY_AVERAGE_DAILY_LIMIT.other W17 (Or.inl ne_s_WEEKLY_AVERAGE_DAILY_LIMIT_b1)
  have F_value_s_REMOVE_AVERAGE_DAILY_LIMIT := F_value_s_REMOVE_AVERAGE_DAILY_LIMIT.other W17 (Or.inl ne_s_REMOVE_AVERAGE_DAILY_LIMIT_b1)
  have F_cap_s_REMOVE_AVERAGE_DAILY_LIMIT := F_cap_s_REMOVE_AVERAGE_DAILY_LIMIT.other W17 (Or.inl ne_s_REMOVE_AVERAGE_DAILY_LIMIT_b1)
  have F_value_s_END_DATE := F_value_s_END_DATE.other W17 (Or.inl ne_s_END_DATE_b1)
  have F_cap_s_END_DATE := F_cap_s_END_DATE.other W17 (Or.inl ne_s_END_DATE_b1)
  have F_value_s_LIFETIME_BUDGET := F_value_s_LIFETIME_BUDGET.other W17 (Or.inl ne_s_LIFETIME_BUDGET_b1)
  have F_cap_s_LIFETIME_BUDGET := F_cap_s_LIFETIME_BUDGET.other W17 (Or.inl ne_s_LIFETIME_BUDGET_b1)
  have F_value_s_WALLET_DAILY_CAP := F_value_s_WALLET_DAILY_CAP.other W17 (Or.inl ne_s_WALLET_DAILY_CAP_b1)
  have F_cap_s_WALLET_DAILY_CAP := F_cap_s_WALLET_DAILY_CAP.other W17 (Or.inl ne_s_WALLET_DAILY_CAP_b1)
  have F_value_s_WALLET := F_value_s_WALLET.other W17 (Or.inl ne_s_WALLET_b1)
  have F_cap_s_WALLET := F_cap_s_WALLET.other W17 (Or.inl ne_s_WALLET_b1)
  have N17 := Fr.snoc X17 N15 g_b1
  have Z17 : n0 ≤ h17.size := Nat.le_trans Z15 (Keep.of_wr W17).1
  have K17 := K15.wr W17 (Or.inr sz_b1)
  refine OutW.back st17 ?_
  show OutW _ _ _ _ _ _ _ (T17.setTop (mkF m 55 #[.val (.int p1), .unset, .unset, .unset] [(.ref b1)]))
  refine OutW.back (fun t k => XS.dup X17.here hx rfl (hb hby at_55) rfl rfl k) ?_
  show OutW _ _ _ _ _ _ _ (T17.setTop (mkF m 56 #[.val (.int p1), .unset, .unset, .unset] [(.ref b1), (.ref b1)]))
  refine OutW.back (fun t k => XS.bipush X17.here hx rfl (hb hby at_56) k) ?_
  show OutW _ _ _ _ _ _ _ (T17.setTop (mkF m 58 #[.val (.int p1), .unset, .unset, .unset] [(.int (8 : Int32)), (.ref b1), (.ref b1)]))
  obtain ⟨T18, X18, e18, st18⟩ := getS2 X17 hx hZ hown (host := "") (Or.inl (hw _ (List.mem_of_getElem? (i := 20) rfl))) Via.refl e17 S_LIFETIME_BUDGET (g := (mkF m 58 #[.val (.int p1), .unset, .unset, .unset] [(.int (8 : Int32)), (.ref b1), (.ref b1)])) rfl (hb hby at_58)
  refine OutW.back st18 ?_
  show OutW _ _ _ _ _ _ _ (T18.setTop (mkF m 61 #[.val (.int p1), .unset, .unset, .unset] [(.ref s_LIFETIME_BUDGET), (.int (8 : Int32)), (.ref b1), (.ref b1)]))
  obtain ⟨cl19, Ar19, q19, Sz19, Nn19, Hh19, Gg19⟩ := V_b1_17
  have hin19 : ¬ ((8 : Int32) < 0 ∨ cl19.slots.size ≤ ((8 : Int32)).toNatClampNeg) := inb_of Sz19 ⟨by decide, by decide⟩
  obtain ⟨T19, h19, X19, e19, W19, st19⟩ := stR X18 hx hZ e18 Ar19 (j := (8 : Int32)) hin19 rfl (Sto.ofV Ar19 q19 O1 (Ins.self E_s_LIFETIME_BUDGET)) (g := (mkF m 61 #[.val (.int p1), .unset, .unset, .unset] [(.ref s_LIFETIME_BUDGET), (.int (8 : Int32)), (.ref b1), (.ref b1)])) rfl rfl (hb hby at_61)
  have V_b1_19 : Arv Z h19 b1 k1 (.object "com/example/daily_spend_pacer/dailyspendpacer/io/ReplayEvent$Kind") (11 : Int32) [(.ref s_DAILY_CAP), (.ref s_MONTHLY_CAP), (.ref s_TOTAL_CAP), (.ref s_CHARGE), (.ref s_AVERAGE_DAILY_LIMIT), (.ref s_WEEKLY_AVERAGE_DAILY_LIMIT), (.ref s_REMOVE_AVERAGE_DAILY_LIMIT), (.ref s_END_DATE), (.ref s_LIFETIME_BUDGET), .null, .null] .null := Arv.set Ar19 q19 Sz19 Nn19 Hh19 Gg19 rfl W19 8 rfl (Nat.le_of_ble_eq_true rfl)
  have S_DAILY_CAP := S_DAILY_CAP.wr W19
  have S_MONTHLY_CAP := S_MONTHLY_CAP.wr W19
  have S_TOTAL_CAP := S_TOTAL_CAP.wr W19
  have S_CHARGE := S_CHARGE.wr W19
  have S_AVERAGE_DAILY_LIMIT := S_AVERAGE_DAILY_LIMIT.wr W19
  have S_WEEKLY_AVERAGE_DAILY_LIMIT := S_WEEKLY_AVERAGE_DAILY_LIMIT.wr W19
  have S_REMOVE_AVERAGE_DAILY_LIMIT := S_REMOVE_AVERAGE_DAILY_LIMIT.wr W19
  have S_END_DATE := S_END_DATE.wr W19
  have S_LIFETIME_BUDGET := S_LIFETIME_BUDGET.wr W19
  have S_WALLET_DAILY_CAP := S_WALLET_DAILY_CAP.wr W19
  have S_WALLET := S_WALLET.wr W19
  have S_CAP := S_CAP.wr W19
  have E_s_DAILY_CAP := E_s_DAILY_CAP.wr W19
  have E_s_MONTHLY_CAP := E_s_MONTHLY_CAP.wr W19
  have E_s_TOTAL_CAP := E_s_TOTAL_CAP.wr W19
  have E_s_CHARGE := E_s_CHARGE.wr W19
  have E_s_AVERAGE_DAILY_LIMIT := E_s_AVERAGE_DAILY_LIMIT.wr W19
  have E_s_WEEKLY_AVERAGE_DAILY_LIMIT := E_s_WEEKLY_AVERAGE_DAILY_LIMIT.wr W19
  have E_s_REMOVE_AVERAGE_DAILY_LIMIT := E_s_REMOVE_AVERAGE_DAILY_LIMIT.wr W19
  have E_s_END_DATE := E_s_END_DATE.wr W19
  have E_s_LIFETIME_BUDGET := E_s_LIFETIME_BUDGET.wr W19
  have E_s_WALLET_DAILY_CAP := E_s_WALLET_DAILY_CAP.wr W19
  have E_s_WALLET := E_s_WALLET.wr W19
  have F_value_s_DAILY_CAP := F_value_s_DAILY_CAP.other W19 (Or.inl ne_s_DAILY_CAP_b1)
  have F_cap_s_DAILY_CAP := F_cap_s_DAILY_CAP.other W19 (Or.inl ne_s_DAILY_CAP_b1)
  have F_value_s_MONTHLY_CAP := F_value_s_MONTHLY_CAP.other W19 (Or.inl ne_s_MONTHLY_CAP_b1)
  have F_cap_s_MONTHLY_CAP := F_cap_s_MONTHLY_CAP.other W19 (Or.inl ne_s_MONTHLY_CAP_b1)
  have F_value_s_TOTAL_CAP := F_value_s_TOTAL_CAP.other W19 (Or.inl ne_s_TOTAL_CAP_b1)
  have F_cap_s_TOTAL_CAP := F_cap_s_TOTAL_CAP.other W19 (Or.inl ne_s_TOTAL_CAP_b1)
  have F_value_s_CHARGE := F_value_s_CHARGE.other W19 (Or.inl ne_s_CHARGE_b1)
  have F_cap_s_CHARGE := F_cap_s_CHARGE.other W19 (Or.inl ne_s_CHARGE_b1)
  have F_value_s_AVERAGE_DAILY_LIMIT := F_value_s_AVERAGE_DAILY_LIMIT.other W19 (Or.inl ne_s_AVERAGE_DAILY_LIMIT_b1)
  have F_cap_s_AVERAGE_DAILY_LIMIT := F_cap_s_AVERAGE_DAILY_LIMIT.other W19 (Or.inl ne_s_AVERAGE_DAILY_LIMIT_b1)
  have F_value_s_WEEKLY_AVERAGE_DAILY_LIMIT := F_value_s_WEEKLY_AVERAGE_DAILY_LIMIT.other W19 (Or.inl ne_s_WEEKLY_AVERAGE_DAILY_LIMIT_b1)
  have F_cap_s_WEEKLY_AVERAGE_DAILY_LIMIT := F_cap_s_WEEKLY_AVERAGE_DAILY_LIMIT.other W19 (Or.inl ne_s_WEEKLY_AVERAGE_DAILY_LIMIT_b1)
  have F_value_s_REMOVE_AVERAGE_DAILY_LIMIT := F_value_s_REMOVE_AVERAGE_DAILY_LIMIT.other W19 (Or.inl ne_s_REMOVE_AVERAGE_DAILY_LIMIT_b1)
  have F_cap_s_REMOVE_AVERAGE_DAILY_LIMIT := F_cap_s_REMOVE_AVERAGE_DAILY_LIMIT.other W19 (Or.inl ne_s_REMOVE_AVERAGE_DAILY_LIMIT_b1)
  have F_value_s_END_DATE := F_value_s_END_DATE.other W19 (Or.inl ne_s_END_DATE_b1)
  have F_cap_s_END_DATE := F_cap_s_END_DATE.other W19 (Or.inl ne_s_END_DATE_b1)
  have F_value_s_LIFETIME_BUDGET := F_value_s_LIFETIME_BUDGET.other W19 (Or.inl ne_s_LIFETIME_BUDGET_b1)
  have F_cap_s_LIFETIME_BUDGET := F_cap_s_LIFETIME_BUDGET.other W19 (Or.inl ne_s_LIFETIME_BUDGET_b1)
  have F_value_s_WALLET_DAILY_CAP := F_value_s_WALLET_DAILY_CAP.other W19 (Or.inl ne_s_WALLET_DAILY_CAP_b1)
  have F_cap_s_WALLET_DAILY_CAP := F_cap_s_WALLET_DAILY_CAP.other W19 (Or.inl ne_s_WALLET_DAILY_CAP_b1)
  have F_value_s_WALLET := F_value_s_WALLET.other W19 (Or.inl ne_s_WALLET_b1)
  have F_cap_s_WALLET := F_cap_s_WALLET.other W19 (Or.inl ne_s_WALLET_b1)
  have N19 := Fr.snoc X19 N17 g_b1
  have Z19 : n0 ≤ h19.size := Nat.le_trans Z17 (Keep.of_wr W19).1
  have K19 := K17.wr W19 (Or.inr sz_b1)
  refine OutW.back st19 ?_
  show OutW _ _ _ _ _ _ _ (T19.setTop (mkF m 62 #[.val (.int p1), .unset, .unset, .unset] [(.ref b1)]))
  refine OutW.back (fun t k => XS.dup X19.here hx rfl (hb hby at_62) rfl rfl k) ?_
  show OutW _ _ _ _ _ _ _ (T19.setTop (mkF m 63 #[.val (.int p1), .unset, .unset, .unset] [(.ref b1), (.ref b1)]))
  refine OutW.back (fun t k => XS.bipush X19.here hx rfl (hb hby at_63) k) ?_
  show OutW _ _ _ _ _ _ _ (T19.setTop (mkF m 65 #[.val (.int p1), .unset, .unset, .unset] [(.int (9 : Int32)), (.ref b1), (.ref b1)]))
  obtain ⟨T20, X20, e20, st20⟩ := getS2 X19 hx hZ hown (host := "") (Or.inl (hw _ (List.mem_of_getElem? (i := 22) rfl))) Via.refl e19 S_WALLET_DAILY_CAP (g := (mkF m 65 #[.val (.int p1), .unset, .unset, .unset] [(.int (9 : Int32)), (.ref b1), (.ref b1)])) rfl (hb hby at_65)
  refine OutW.back st20 ?_
  show OutW _ _ _ _ _ _ _ (T20.setTop (mkF m 68 #[.val (.int p1), .unset, .unset, .unset] [(.ref s_WALLET_DAILY_CAP), (.int (9 : Int32)), (.ref b1), (.ref b1)]))
  obtain ⟨cl21, Ar21, q21, Sz21, Nn21, Hh21, Gg21⟩ := V_b1_19
  have hin21 : ¬ ((9 : Int32) < 0 ∨ cl21.slots.size ≤ ((9 : Int32)).toNatClampNeg) := inb_of Sz21 ⟨by decide, by decide⟩
  obtain ⟨T21, h21, X21, e21, W21, st21⟩ := stR X20 hx hZ e20 Ar21 (j := (9 : Int32)) hin21 rfl (Sto.ofV Ar21 q21 O1 (Ins.self E_s_WALLET_DAILY_CAP)) (g := (mkF m 68 #[.val (.int p1), .unset, .unset, .unset] [(.ref s_WALLET_DAILY_CAP), (.int (9 : Int32)), (.ref b1), (.ref b1)])) rfl rfl (hb hby at_68)
  have V_b1_21 : Arv Z h21 b1 k1 (.object "com/example/daily_spend_pacer/dailyspendpacer/io/ReplayEvent$Kind") (11 : Int32) [(.ref s_DAILY_CAP), (.ref s_MONTHLY_CAP), (.ref s_TOTAL_CAP), (.ref s_CHARGE), (.ref s_AVERAGE_DAILY_LIMIT), (.ref s_WEEKLY_AVERAGE_DAILY_LIMIT), (.ref s_REMOVE_AVERAGE_DAILY_LIMIT), (.ref s_END_DATE), (.ref s_LIFETIME_BUDGET), (.ref s_WALLET_DAILY_CAP), .null] .null := Arv.set Ar21 q21 Sz21 Nn21 Hh21 Gg21 rfl W21 9 rfl (Nat.le_of_ble_eq_true rfl)
  have S_DAILY_CAP := S_DAILY_CAP.wr W21
  have S_MONTHLY_CAP := S_MONTHLY_CAP.wr W21
  have S_TOTAL_CAP := S_TOTAL_CAP.wr W21
  have S_CHARGE := S_CHARGE.wr W21
  have S_AVERAGE_DAILY_LIMIT := S_AVERAGE_DAILY_LIMIT.wr W21
  have S_WEEKLY_AVERAGE_DAILY_LIMIT := S_WEEKLY_AVERAGE_DAILY_LIMIT.wr W21
  have S_REMOVE_AVERAGE_DAILY_LIMIT := S_REMOVE_AVERAGE_DAILY_LIMIT.wr W21
  have S_END_DATE := S_END_DATE.wr W21
  have S_LIFETIME_BUDGET := S_LIFETIME_BUDGET.wr W21
  have S_WALLET_DAILY_CAP := S_WALLET_DAILY_CAP.wr W21
  have S_WALLET := S_WALLET.wr W21
  have S_CAP := S_CAP.wr W21
  have E_s_DAILY_CAP := E_s_DAILY_CAP.wr W21
  have E_s_MONTHLY_CAP := E_s_MONTHLY_CAP.wr W21
  have E_s_TOTAL_CAP := E_s_TOTAL_CAP.wr W21
  have E_s_CHARGE := E_s_CHARGE.wr W21
  have E_s_AVERAGE_DAILY_LIMIT := E_s_AVERAGE_DAILY_LIMIT.wr W21
  have E_s_WEEKLY_AVERAGE_DAILY_LIMIT := E_s_WEEKLY_AVERAGE_DAILY_LIMIT.wr W21
  have E_s_REMOVE_AVERAGE_DAILY_LIMIT := E_s_REMOVE_AVERAGE_DAILY_LIMIT.wr W21
  have E_s_END_DATE := E_s_END_DATE.wr W21
  have E_s_LIFETIME_BUDGET := E_s_LIFETIME_BUDGET.wr W21
  have E_s_WALLET_DAILY_CAP := E_s_WALLET_DAILY_CAP.wr W21
  have E_s_WALLET := E_s_WALLET.wr W21
  have F_value_s_DAILY_CAP := F_value_s_DAILY_CAP.other W21 (Or.inl ne_s_DAILY_CAP_b1)
  have F_cap_s_DAILY_CAP := F_cap_s_DAILY_CAP.other W21 (Or.inl ne_s_DAILY_CAP_b1)
  have F_value_s_MONTHLY_CAP := F_value_s_MONTHLY_CAP.other W21 (Or.inl ne_s_MONTHLY_CAP_b1)
  have F_cap_s_MONTHLY_CAP := F_cap_s_MONTHLY_CAP.other W21 (Or.inl ne_s_MONTHLY_CAP_b1)
  have F_value_s_TOTAL_CAP := F_value_s_TOTAL_CAP.other W21 (Or.inl ne_s_TOTAL_CAP_b1)
  have F_cap_s_TOTAL_CAP := F_cap_s_TOTAL_CAP.other W21 (Or.inl ne_s_TOTAL_CAP_b1)
  have F_value_s_CHARGE := F_value_s_CHARGE.other W21 (Or.inl ne_s_CHARGE_b1)
  have F_cap_s_CHARGE := F_cap_s_CHARGE.other W21 (Or.inl ne_s_CHARGE_b1)
  have F_value_s_AVERAGE_DAILY_LIMIT := F_value_s_AVERAGE_DAILY_LIMIT.other W21 (Or.inl ne_s_AVERAGE_DAILY_LIMIT_b1)
  have F_cap_s_AVERAGE_DAILY_LIMIT := F_cap_s_AVERAGE_DAILY_LIMIT.other W21 (Or.inl ne_s_AVERAGE_DAILY_LIMIT_b1)
  have F_value_s_WEEKLY_AVERAGE_DAILY_LIMIT := F_value_s_WEEKLY_AVERAGE_DAILY_LIMIT.other W21 (Or.inl ne_s_WEEKLY_AVERAGE_DAILY_LIMIT_b1)
  have F_cap_s_WEEKLY_AVERAGE_DAILY_LIMIT := F_cap_s_WEEKLY_AVERAGE_DAILY_LIMIT.other W21 (Or.inl ne_s_WEEKLY_AVERAGE_DAILY_LIMIT_b1)
  have F_value_s_REMOVE_AVERAGE_DAILY_LIMIT := F_value_s_REMOVE_AVERAGE_DAILY_LIMIT.other W21 (Or.inl ne_s_REMOVE_AVERAGE_DAILY_LIMIT_b1)
  have F_cap_s_REMOVE_AVERAGE_DAILY_LIMIT := F_cap_s_REMOVE_AVERAGE_DAILY_LIMIT.other W21 (Or.inl ne_s_REMOVE_AVERAGE_DAILY_LIMIT_b1)
  have F_value_s_END_DATE := F_value_s_END_DATE.other W21 (Or.inl ne_s_END_DATE_b1)
  have F_cap_s_END_DATE := F_cap_s_END_DATE.other W21 (Or.inl ne_s_END_DATE_b1)
  have F_value_s_LIFETIME_BUDGET := F_value_s_LIFETIME_BUDGET.other W21 (Or.inl ne_s_LIFETIME_BUDGET_b1)
  have F_cap_s_LIFETIME_BUDGET := F_cap_s_LIFETIME_BUDGET.other W21 (Or.inl ne_s_LIFETIME_BUDGET_b1)
  have F_value_s_WALLET_DAILY_CAP := F_value_s_WALLET_DAILY_CAP.other W21 (Or.inl ne_s_WALLET_DAILY_CAP_b1)
  have F_cap_s_WALLET_DAILY_CAP := F_cap_s_WALLET_DAILY_CAP.other W21 (Or.inl ne_s_WALLET_DAILY_CAP_b1)
  have F_value_s_WALLET := F_value_s_WALLET.other W21 (Or.inl ne_s_WALLET_b1)
  have F_cap_s_WALLET := F_cap_s_WALLET.other W21 (Or.inl ne_s_WALLET_b1)
  have N21 := Fr.snoc X21 N19 g_b1
  have Z21 : n0 ≤ h21.size := Nat.le_trans Z19 (Keep.of_wr W21).1
  have K21 := K19.wr W21 (Or.inr sz_b1)
  refine OutW.back st21 ?_
  show OutW _ _ _ _ _ _ _ (T21.setTop (mkF m 69 #[.val (.int p1), .unset, .unset, .unset] [(.ref b1)]))
  refine OutW.back (fun t k => XS.dup X21.here hx rfl (hb hby at_69) rfl rfl k) ?_
  show OutW _ _ _ _ _ _ _ (T21.setTop (mkF m 70 #[.val (.int p1), .unset, .unset, .unset] [(.ref b1), (.ref b1)]))
  refine OutW.back (fun t k => XS.bipush X21.here hx rfl (hb hby at_70) k) ?_
  show OutW _ _ _ _ _ _ _ (T21.setTop (mkF m 72 #[.val (.int p1), .unset, .unset, .unset] [(.int (10 : Int32)), (.ref b1), (.ref b1)]))
  obtain ⟨T22, X22, e22, st22⟩ := getS2 X21 hx hZ hown (host := "") (Or.inl (hw _ (List.mem_of_getElem? (i := 24) rfl))) Via.refl e21 S_WALLET (g := (mkF m 72 #[.val (.int p1), .unset, .unset, .unset] [(.int (10 : Int32)), (.ref b1), (.ref b1)])) rfl (hb hby at_72)
  refine OutW.back st22 ?_
  show OutW _ _ _ _ _ _ _ (T22.setTop (mkF m 75 #[.val (.int p1), .unset, .unset, .unset] [(.ref s_WALLET), (.int (10 : Int32)), (.ref b1), (.ref b1)]))
  obtain ⟨cl23, Ar23, q23, Sz23, Nn23, Hh23, Gg23⟩ := V_b1_21
  have hin23 : ¬ ((10 : Int32) < 0 ∨ cl23.slots.size ≤ ((10 : Int32)).toNatClampNeg) := inb_of Sz23 ⟨by decide, by decide⟩
  obtain ⟨T23, h23, X23, e23, W23, st23⟩ := stR X22 hx hZ e22 Ar23 (j := (10 : Int32)) hin23 rfl (Sto.ofV Ar23 q23 O1 (Ins.self E_s_WALLET)) (g := (mkF m 75 #[.val (.int p1), .unset, .unset, .unset] [(.ref s_WALLET), (.int (10 : Int32)), (.ref b1), (.ref b1)])) rfl rfl (hb hby at_75)
  have V_b1_23 : Arv Z h23 b1 k1 (.object "com/example/daily_spend_pacer/dailyspendpacer/io/ReplayEvent$Kind") (11 : Int32) [(.ref s_DAILY_CAP), (.ref s_MONTHLY_CAP), (.ref s_TOTAL_CAP), (.ref s_CHARGE), (.ref s_AVERAGE_DAILY_LIMIT), (.ref s_WEEKLY_AVERAGE_DAILY_LIMIT), (.ref s_REMOVE_AVERAGE_DAILY_LIMIT), (.ref s_END_DATE), (.ref s_LIFETIME_BUDGET), (.ref s_WALLET_DAILY_CAP), (.ref s_WALLET)] .null := Arv.set Ar23 q23 Sz23 Nn23 Hh23 Gg23 rfl W23 10 rfl (Nat.le_of_ble_eq_true rfl)
  have S_DAILY_CAP := S_DAILY_CAP.wr W23
  have S_MONTHLY_CAP := S_MONTHLY_CAP.wr W23
  have S_TOTAL_CAP := S_TOTAL_CAP.wr W23
  have S_CHARGE := S_CHARGE.wr W23
  have S_AVERAGE_DAILY_LIMIT := S_AVERAGE_DAILY_LIMIT.wr W23
  have S_WEEKLY_AVERAGE_DAILY_LIMIT := S_WEEKLY_AVERAGE_DAILY_LIMIT.wr W23
  have S_REMOVE_AVERAGE_DAILY_LIMIT := S_REMOVE_AVERAGE_DAILY_LIMIT.wr W23
  have S_END_DATE := S_END_DATE.wr W23
  have S_LIFETIME_BUDGET := S_LIFETIME_BUDGET.wr W23
  have S_WALLET_DAILY_CAP := S_WALLET_DAILY_CAP.wr W23
  have S_WALLET := S_WALLET.wr W23
  have S_CAP := S_CAP.wr W23
  have E_s_DAILY_CAP := E_s_DAILY_CAP.wr W23
  have E_s_MONTHLY_CAP := E_s_MONTHLY_CAP.wr W23
  have E_s_TOTAL_CAP := E_s_TOTAL_CAP.wr W23
  have E_s_CHARGE := E_s_CHARGE.wr W23
  have E_s_AVERAGE_DAILY_LIMIT := E_s_AVERAGE_DAILY_LIMIT.wr W23
  have E_s_WEEKLY_AVERAGE_DAILY_LIMIT := E_s_WEEKLY_AVERAGE_DAILY_LIMIT.wr W23
  have E_s_REMOVE_AVERAGE_DAILY_LIMIT := E_s_REMOVE_AVERAGE_DAILY_LIMIT.wr W23
  have E_s_END_DATE := E_s_END_DATE.wr W23
  have E_s_LIFETIME_BUDGET := E_s_LIFETIME_BUDGET.wr W23
  have E_s_WALLET_DAILY_CAP := E_s_WALLET_DAILY_CAP.wr W23
  have E_s_WALLET := E_s_WALLET.wr W23
  have F_value_s_DAILY_CAP := F_value_s_DAILY_CAP.other W23 (Or.inl ne_s_DAILY_CAP_b1)
  have F_cap_s_DAILY_CAP := F_cap_s_DAILY_CAP.other W23 (Or.inl ne_s_DAILY_CAP_b1)
  have F_value_s_MONTHLY_CAP := F_value_s_MONTHLY_CAP.other W23 (Or.inl ne_s_MONTHLY_CAP_b1)
  have F_cap_s_MONTHLY_CAP := F_cap_s_MONTHLY_CAP.other W23 (Or.inl ne_s_MONTHLY_CAP_b1)
  have F_value_s_TOTAL_CAP := F_value_s_TOTAL_CAP.other W23 (Or.inl ne_s_TOTAL_CAP_b1)
  have F_cap_s_TOTAL_CAP := F_cap_s_TOTAL_CAP.other W23 (Or.inl ne_s_TOTAL_CAP_b1)
  have F_value_s_CHARGE := F_value_s_CHARGE.other W23 (Or.inl ne_s_CHARGE_b1)
  have F_cap_s_CHARGE := F_cap_s_CHARGE.other W23 (Or.inl ne_s_CHARGE_b1)
  have F_value_s_AVERAGE_DAILY_LIMIT := F_value_s_AVERAGE_DAILY_LIMIT.other W23 (Or.inl ne_s_AVERAGE_DAILY_LIMIT_b1)
  have F_cap_s_AVERAGE_DAILY_LIMIT := F_cap_s_AVERAGE_DAILY_LIMIT.other W23 (Or.inl ne_s_AVERAGE_DAILY_LIMIT_b1)
  have F_value_s_WEEKLY_AVERAGE_DAILY_LIMIT := F_value_s_WEEKLY_AVERAGE_DAILY_LIMIT.other W23 (Or.inl ne_s_WEEKLY_AVERAGE_DAILY_LIMIT_b1)
  have F_cap_s_WEEKLY_AVERAGE_DAILY_LIMIT := F_cap_s_WEEKLY_AVERAGE_DAILY_LIMIT.other W23 (Or.inl ne_s_WEEKLY_AVERAGE_DAILY_LIMIT_b1)
  have F_value_s_REMOVE_AVERAGE_DAILY_LIMIT := F_value_s_REMOVE_AVERAGE_DAILY_LIMIT.other W23 (Or.inl ne_s_REMOVE_AVERAGE_DAILY_LIMIT_b1)
  have F_cap_s_REMOVE_AVERAGE_DAILY_LIMIT := F_cap_s_REMOVE_AVERAGE_DAILY_LIMIT.other W23 (Or.inl ne_s_REMOVE_AVERAGE_DAILY_LIMIT_b1)
  have F_value_s_END_DATE := F_value_s_END_DATE.other W23 (Or.inl ne_s_END_DATE_b1)
  have F_cap_s_END_DATE := F_cap_s_END_DATE.other W23 (Or.inl ne_s_END_DATE_b1)
  have F_value_s_LIFETIME_BUDGET := F_value_s_LIFETIME_BUDGET.other W23 (Or.inl ne_s_LIFETIME_BUDGET_b1)
  have F_cap_s_LIFETIME_BUDGET := F_cap_s_LIFETIME_BUDGET.other W23 (Or.inl ne_s_LIFETIME_BUDGET_b1)
  have F_value_s_WALLET_DAILY_CAP := F_value_s_WALLET_DAILY_CAP.other W23 (Or.inl ne_s_WALLET_DAILY_CAP_b1)
  have F_cap_s_WALLET_DAILY_CAP := F_cap_s_WALLET_DAILY_CAP.other W23 (Or.inl ne_s_WALLET_DAILY_CAP_b1)
  have F_value_s_WALLET := F_value_s_WALLET.other W23 (Or.inl ne_s_WALLET_b1)
  have F_cap_s_WALLET := F_cap_s_WALLET.other W23 (Or.inl ne_s_WALLET_b1)
  have N23 := Fr.snoc X23 N21 g_b1
  have Z23 : n0 ≤ h23.size := Nat.le_trans Z21 (Keep.of_wr W23).1
  have K23 := K21.wr W23 (Or.inr sz_b1)
  refine OutW.back st23 ?_
  show OutW _ _ _ _ _ _ _ (T23.setTop (mkF m 76 #[.val (.int p1), .unset, .unset, .unset] [(.ref b1)]))
  refine OutW.back (fun t k => XS.astoreN X23.here hx rfl (hb hby at_76) rfl rfl (l' := #[.val (.int p1), .val (.ref b1), .unset, .unset]) rfl k) ?_
  show OutW _ _ _ _ _ _ _ (T23.setTop (mkF m 77 #[.val (.int p1), .val (.ref b1), .unset, .unset] []))
  refine OutW.back (fun t k => XS.aloadN X23.here hx rfl (hb hby at_77) rfl rfl  k) ?_
  show OutW _ _ _ _ _ _ _ (T23.setTop (mkF m 78 #[.val (.int p1), .val (.ref b1), .unset, .unset] [(.ref b1)]))
  refine OutW.back (fun t k => XS.iloadN X23.here hx rfl (hb hby at_78) rfl  k) ?_
  show OutW _ _ _ _ _ _ _ (T23.setTop (mkF m 79 #[.val (.int p1), .val (.ref b1), .unset, .unset] [(.int p1), (.ref b1)]))
  refine OutW.back (X23.ldcInt hx hown (mvT hZ (hw _ (List.mem_of_getElem? (i := 26) rfl))) (g := (mkF m 79 #[.val (.int p1), .val (.ref b1), .unset, .unset] [(.int p1), (.ref b1)])) rfl (hb hby at_79)) ?_
  show OutW _ _ _ _ _ _ _ (T23.setTop (mkF m 81 #[.val (.int p1), .val (.ref b1), .unset, .unset] [(.int (2147483647 : Int32)), (.int p1), (.ref b1)]))
  refine OutW.back (fun t k => XS.iand X23.here hx rfl (hb hby at_81) rfl k) ?_
  show OutW _ _ _ _ _ _ _ (T23.setTop (mkF m 82 #[.val (.int p1), .val (.ref b1), .unset, .unset] [(.int (p1 &&& (2147483647 : Int32))), (.ref b1)]))
  refine OutW.back (fun t k => XS.bipush X23.here hx rfl (hb hby at_82) k) ?_
  show OutW _ _ _ _ _ _ _ (T23.setTop (mkF m 84 #[.val (.int p1), .val (.ref b1), .unset, .unset] [(.int (11 : Int32)), (.int (p1 &&& (2147483647 : Int32))), (.ref b1)]))
  refine OutW.back (fun t k => iremM X23 hx rfl (hb hby at_84) rfl (by decide) k) ?_
  show OutW _ _ _ _ _ _ _ (T23.setTop (mkF m 85 #[.val (.int p1), .val (.ref b1), .unset, .unset] [(.int ((p1 &&& (2147483647 : Int32)) % (11 : Int32))), (.ref b1)]))
  generalize hv_ix : ((p1 &&& (2147483647 : Int32)) % (11 : Int32)) = vix
  have sp24 : vix = (0 : Int32) ∨ vix = (1 : Int32) ∨ vix = (2 : Int32) ∨ vix = (3 : Int32) ∨ vix = (4 : Int32) ∨ vix = (5 : Int32) ∨ vix = (6 : Int32) ∨ vix = (7 : Int32) ∨ vix = (8 : Int32) ∨ vix = (9 : Int32) ∨ vix = (10 : Int32) := own_eleven _ _ hv_ix
  rcases sp24 with rfl | rfl | rfl | rfl | rfl | rfl | rfl | rfl | rfl | rfl | rfl
  · skip
    show OutW _ _ _ _ _ _ _ (T23.setTop (mkF m 85 #[.val (.int p1), .val (.ref b1), .unset, .unset] [(.int (0 : Int32)), (.ref b1)]))
    obtain ⟨cl25, Ar25, q25, Sz25, Nn25, Hh25, Gg25⟩ := V_b1_23
    have hin25 : ¬ ((0 : Int32) < 0 ∨ cl25.slots.size ≤ ((0 : Int32)).toNatClampNeg) := inb_of Sz25 ⟨by decide, by decide⟩
    refine OutW.back (X23.aaload hx (j := (0 : Int32)) (v := (.ref s_DAILY_CAP)) (by rw [e23]; exact Ar25.1) (State.isArrayOf_alike hZ.alike Ar25.2.1) rfl Ar25.2.2 hin25 (Hh25.at hin25 (by rfl)) (g := (mkF m 85 #[.val (.int p1), .val (.ref b1), .unset, .unset] [(.int (0 : Int32)), (.ref b1)])) rfl rfl (hb hby at_85)) ?_
    show OutW _ _ _ _ _ _ _ (T23.setTop (mkF m 86 #[.val (.int p1), .val (.ref b1), .unset, .unset] [(.ref s_DAILY_CAP)]))
    refine OutW.back (fun t k => XS.astoreN X23.here hx rfl (hb hby at_86) rfl rfl (l' := #[.val (.int p1), .val (.ref b1), .val (.ref s_DAILY_CAP), .unset]) rfl k) ?_
    show OutW _ _ _ _ _ _ _ (T23.setTop (mkF m 87 #[.val (.int p1), .val (.ref b1), .val (.ref s_DAILY_CAP), .unset] []))
    refine OutW.back (fun t k => XS.aloadN X23.here hx rfl (hb hby at_87) rfl rfl  k) ?_
    show OutW _ _ _ _ _ _ _ (T23.setTop (mkF m 88 #[.val (.int p1), .val (.ref b1), .val (.ref s_DAILY_CAP), .unset] [(.ref s_DAILY_CAP)]))
    obtain ⟨T26, X26, e26, st26⟩ := getF X23 hx hZ hown (host := "") (Or.inl (hw _ (List.mem_of_getElem? (i := 27) rfl))) Via.refl e23 F_value_s_DAILY_CAP (g := (mkF m 88 #[.val (.int p1), .val (.ref b1), .val (.ref s_DAILY_CAP), .unset] [(.ref s_DAILY_CAP)])) rfl rfl (hb hby at_88)
    refine OutW.back st26 ?_
    show OutW _ _ _ _ _ _ _ (T26.setTop (mkF m 91 #[.val (.int p1), .val (.ref b1), .val (.ref s_DAILY_CAP), .unset] [(.ref s_CAP)]))
    obtain ⟨T27, X27, e27, st27⟩ := getS2 X26 hx hZ hown (host := "") (Or.inl (hw _ (List.mem_of_getElem? (i := 31) rfl))) Via.refl e26 S_CAP (g := (mkF m 91 #[.val (.int p1), .val (.ref b1), .val (.ref s_DAILY_CAP), .unset] [(.ref s_CAP)])) rfl (hb hby at_91)
    refine OutW.back st27 ?_
    show OutW _ _ _ _ _ _ _ (T27.setTop (mkF m 94 #[.val (.int p1), .val (.ref b1), .val (.ref s_DAILY_CAP), .unset] [(.ref s_CAP), (.ref s_CAP)]))
    refine OutW.back (fun t k => Jvm.RoadKit.acmp (g := (mkF m 94 #[.val (.int p1), .val (.ref b1), .val (.ref s_DAILY_CAP), .unset] [(.ref s_CAP), (.ref s_CAP)])) X27 hx rfl rfl rfl (pc0 := 94) (pc' := 97) (same := true) rfl (hb hby at_94) rfl (decide_eq_true rfl) (by decide) (by decide) k) ?_
    show OutW _ _ _ _ _ _ _ (T27.setTop (mkF m 97 #[.val (.int p1), .val (.ref b1), .val (.ref s_DAILY_CAP), .unset] []))
    refine OutW.back (fun t k => XS.aloadN X27.here hx rfl (hb hby at_97) rfl rfl  k) ?_
    show OutW _ _ _ _ _ _ _ (T27.setTop (mkF m 98 #[.val (.int p1), .val (.ref b1), .val (.ref s_DAILY_CAP), .unset] [(.ref s_DAILY_CAP)]))
    obtain ⟨T28, X28, e28, st28⟩ := getF X27 hx hZ hown (host := "") (Or.inl (hw _ (List.mem_of_getElem? (i := 32) rfl))) Via.refl e27 F_cap_s_DAILY_CAP (g := (mkF m 98 #[.val (.int p1), .val (.ref b1), .val (.ref s_DAILY_CAP), .unset] [(.ref s_DAILY_CAP)])) rfl rfl (hb hby at_98)
    refine OutW.back st28 ?_
    show OutW _ _ _ _ _ _ _ (T28.setTop (mkF m 101 #[.val (.int p1), .val (.ref b1), .val (.ref s_DAILY_CAP), .unset] [(.ref s_DAILY)]))
    refine OutW.back (fun t k => XS.ifnonnullYes X28.here hx rfl (pc0 := 101) (pc' := 108) rfl (hb hby at_101) rfl (by decide) (by decide) k) ?_
    show OutW _ _ _ _ _ _ _ (T28.setTop (mkF m 108 #[.val (.int p1), .val (.ref b1), .val (.ref s_DAILY_CAP), .unset] []))
    refine OutW.back (fun t k => XS.iconst X28.here hx rfl (hb hby at_108) k) ?_
    show OutW _ _ _ _ _ _ _ (T28.setTop (mkF m 109 #[.val (.int p1), .val (.ref b1), .val (.ref s_DAILY_CAP), .unset] [(.int (0 : Int32))]))
    refine OutW.back (fun t k => XS.istoreN X28.here hx rfl (hb hby at_109) rfl (l' := #[.val (.int p1), .val (.ref b1), .val (.ref s_DAILY_CAP), .val (.int (0 : Int32))]) rfl k) ?_
    show OutW _ _ _ _ _ _ _ (T28.setTop (mkF m 110 #[.val (.int p1), .val (.ref b1), .val (.ref s_DAILY_CAP), .val (.int (0 : Int32))] []))
    refine OutW.back (fun t k => XS.aloadN X28.here hx rfl (hb hby at_110) rfl rfl  k) ?_
    show OutW _ _ _ _ _ _ _ (T28.setTop (mkF m 111 #[.val (.int p1), .val (.ref b1), .val (.ref s_DAILY_CAP), .val (.int (0 : Int32))] [(.ref s_DAILY_CAP)]))
    obtain ⟨cq29, kq29, qa29, qb29, qc29⟩ := isOf hZ e28 E_s_DAILY_CAP
    obtain ⟨_, _, ⟨T29, L29, k29, n29⟩, -, X29, ⟨Lc29, hQ29, l29, y29, z29⟩, st29⟩ := X28.virtualBack hx (y := (⟨"com/example/daily_spend_pacer/dailyspendpacer/io/ReplayEvent$Kind", "ofWallet", "()Z"⟩ : MethodName)) (z := (⟨"com/example/daily_spend_pacer/dailyspendpacer/io/ReplayEvent$Kind", "ofWallet", "()Z"⟩ : MethodName)) hown (mvT hZ (hw _ (List.mem_of_getElem? (i := 36) rfl))) (mvT hZ (hw _ (List.mem_of_getElem? (i := 37) rfl))) (notFace_of_selects (args := #[]) (mvT hZ (hw _ (List.mem_of_getElem? (i := 39) rfl)))) (mvT hZ (hw _ (List.mem_of_getElem? (i := 39) rfl))) (mvT hZ (hw _ (List.mem_of_getElem? (i := 38) rfl))) (by decide) (backOf (W := 0) (rm1 l Z a0 hw [] s_DAILY_CAP s_WALLET_DAILY_CAP h23 n0 Z23 S_WALLET_DAILY_CAP) hZ (hw _ (List.mem_of_getElem? (i := 40) rfl)) (hw _ (List.mem_of_getElem? (i := 3) rfl)) (by decide) (by decide)) qa29 qc29 (g := (mkF m 111 #[.val (.int p1), .val (.ref b1), .val (.ref s_DAILY_CAP), .val (.int (0 : Int32))] [(.ref s_DAILY_CAP)])) rfl (by rw [hml]; rfl) (Steps.refl _) (argsL := []) (rest := []) (lenOf pd_0 rfl) rfl (by show 2 * 0 + _ ≤ _; exact Nat.le_of_eq rfl) (hb hby at_111) (fun _ _ => ⟨rfl, e28, (by decide : 1 + 0 ≤ _), (by decide : 11 + 0 ≤ _)⟩)
    dsimp only [Pt.U, Pt.locs, Pt.cells, Pt.slots] at X29 l29 y29 z29 st29 hQ29
    subst l29 y29 z29
    obtain ⟨rfl, Nq29, e29⟩ := hQ29
    have N29 := Fr.app N23 Nq29
    refine OutW.via st29 ?_
    show OutW _ _ _ _ _ _ _ (T29.setTop (mkF m 114 #[.val (.int p1), .val (.ref b1), .val (.ref s_DAILY_CAP), .val (.int (0 : Int32))] [(.int (ofW s_DAILY_CAP s_WALLET_DAILY_CAP))]))
    refine OutW.back (fun t k => XS.iloadN X29.here hx rfl (hb hby at_114) rfl  k) ?_
    show OutW _ _ _ _ _ _ _ (T29.setTop (mkF m 115 #[.val (.int p1), .val (.ref b1), .val (.ref s_DAILY_CAP), .val (.int (0 : Int32))] [(.int (0 : Int32)), (.int (ofW s_DAILY_CAP s_WALLET_DAILY_CAP))]))
    obtain ⟨v31, hv_v31⟩ : ∃ z : Int32, z = (if (ofW s_DAILY_CAP s_WALLET_DAILY_CAP) = (0 : Int32) then (1 : Int32) else (0 : Int32)) := ⟨_, rfl⟩
    have j32 : ∀ t, Steps p.tables e below (T29.setTop (mkF m 123 #[.val (.int p1), .val (.ref b1), .val (.ref s_DAILY_CAP), .val (.int (0 : Int32))] [(.int v31)])) t → Steps p.tables e below (T29.setTop (mkF m 115 #[.val (.int p1), .val (.ref b1), .val (.ref s_DAILY_CAP), .val (.int (0 : Int32))] [(.int (0 : Int32)), (.int (ofW s_DAILY_CAP s_WALLET_DAILY_CAP))])) t := by
      intro t k
      by_cases c115_33 : (ofW s_DAILY_CAP s_WALLET_DAILY_CAP) = (0 : Int32)
      · skip
        refine XS.icmpNo X29.here hx rfl (hb hby at_115) rfl (teq c115_33).2 ?_
        show Steps p.tables e below (T29.setTop (mkF m 118 #[.val (.int p1), .val (.ref b1), .val (.ref s_DAILY_CAP), .val (.int (0 : Int32))] [])) t
        refine XS.iconst X29.here hx rfl (hb hby at_118) ?_
        show Steps p.tables e below (T29.setTop (mkF m 119 #[.val (.int p1), .val (.ref b1), .val (.ref s_DAILY_CAP), .val (.int (0 : Int32))] [(.int (1 : Int32))])) t
        refine XS.goto X29.here hx rfl (pc0 := 119) (pc' := 123) rfl (hb hby at_119) (by decide) (by decide) ?_
        show Steps p.tables e below (T29.setTop (mkF m 123 #[.val (.int p1), .val (.ref b1), .val (.ref s_DAILY_CAP), .val (.int (0 : Int32))] [(.int (1 : Int32))])) t
        have q_v31 : v31 = (1 : Int32) := by rw [hv_v31, if_pos c115_33]
        rw [q_v31] at k
        exact k
      · skip
        refine XS.icmpYes X29.here hx rfl (pc0 := 115) (pc' := 122) rfl (hb hby at_115) rfl (feq c115_33).2 (by decide) (by decide) ?_
        show Steps p.tables e below (T29.setTop (mkF m 122 #[.val (.int p1), .val (.ref b1), .val (.ref s_DAILY_CAP), .val (.int (0 : Int32))] [])) t
        refine XS.iconst X29.here hx rfl (hb hby at_122) ?_
        show Steps p.tables e below (T29.setTop (mkF m 123 #[.val (.int p1), .val (.ref b1), .val (.ref s_DAILY_CAP), .val (.int (0 : Int32))] [(.int (0 : Int32))])) t
        have q_v31 : v31 = (0 : Int32) := by rw [hv_v31, if_neg c115_33]
        rw [q_v31] at k
        exact k
    refine OutW.back j32 ?_
    show OutW _ _ _ _ _ _ _ (T29.setTop (mkF m 123 #[.val (.int p1), .val (.ref b1), .val (.ref s_DAILY_CAP), .val (.int (0 : Int32))] [(.int v31)]))
    refine OutW.retN X29 hx (t := .boolean) (z' := 1) Bd.returns (by simp) hlk (hb hby at_123) ?hz (by decide) (by decide) ?_
    case hz =>
      have hfin : v31 = (1 : Int32) := by
        rw [hv_v31, ofW]
        simp [ne_s_DAILY_CAP_s_WALLET_DAILY_CAP, ne_s_MONTHLY_CAP_s_WALLET_DAILY_CAP, ne_s_TOTAL_CAP_s_WALLET_DAILY_CAP, ne_s_CHARGE_s_WALLET_DAILY_CAP, ne_s_AMOUNT_s_CAP, ne_s_AVERAGE_DAILY_LIMIT_s_WALLET_DAILY_CAP, ne_s_LIMIT_s_CAP, ne_s_WEEKLY_AVERAGE_DAILY_LIMIT_s_WALLET_DAILY_CAP, ne_s_REMOVE_AVERAGE_DAILY_LIMIT_s_WALLET_DAILY_CAP, ne_s_NONE_s_CAP, ne_s_END_DATE_s_WALLET_DAILY_CAP, ne_s_DATE_s_CAP, ne_s_LIFETIME_BUDGET_s_WALLET_DAILY_CAP, ne_s_WALLET_s_WALLET_DAILY_CAP, ne_s_ReplayEvent_Value_WALLET_s_CAP]
      rw [hfin]; rfl
    show Q0 Z p1 s_DAILY_CAP s_MONTHLY_CAP s_TOTAL_CAP s_CHARGE s_AVERAGE_DAILY_LIMIT s_WEEKLY_AVERAGE_DAILY_LIMIT s_REMOVE_AVERAGE_DAILY_LIMIT s_END_DATE s_LIFETIME_BUDGET s_WALLET_DAILY_CAP s_WALLET s_CAP s_DAILY s_MONTHLY s_TOTAL s_AMOUNT s_LIMIT s_NONE s_DATE s_ReplayEvent_Value_WALLET h0 n0 _ T29.heap _
    rw [e29]
    exact ⟨rfl, N29⟩
  · skip
    show OutW _ _ _ _ _ _ _ (T23.setTop (mkF m 85 #[.val (.int p1), .val (.ref b1), .unset, .unset] [(.int (1 : Int32)), (.ref b1)]))
    obtain ⟨cl34, Ar34, q34, Sz34, Nn34, Hh34, Gg34⟩ := V_b1_23
    have hin34 : ¬ ((1 : Int32) < 0 ∨ cl34.slots.size ≤ ((1 : Int32)).toNatClampNeg) := inb_of Sz34 ⟨by decide, by decide⟩
    refine OutW.back (X23.aaload hx (j := (1 : Int32)) (v := (.ref s_MONTHLY_CAP)) (by rw [e23]; exact Ar34.1) (State.isArrayOf_alike hZ.alike Ar34.2.1) rfl Ar34.2.2 hin34 (Hh34.at hin34 (by rfl)) (g := (mkF m 85 #[.val (.int p1), .val (.ref b1), .unset, .unset] [(.int (1 : Int32)), (.ref b1)])) rfl rfl (hb hby at_85)) ?_
    show OutW _ _ _ _ _ _ _ (T23.setTop (mkF m 86 #[.val (.int p1), .val (.ref b1), .unset, .unset] [(.ref s_MONTHLY_CAP)]))
    refine OutW.back (fun t k => XS.astoreN X23.here hx rfl (hb hby at_86) rfl rfl (l' := #[.val (.int p1), .val (.ref b1), .val (.ref s_MONTHLY_CAP), .unset]) rfl k) ?_
    show OutW _ _ _ _ _ _ _ (T23.setTop (mkF m 87 #[.val (.int p1), .val (.ref b1), .val (.ref s_MONTHLY_CAP), .unset] []))
    refine OutW.back (fun t k => XS.aloadN X23.here hx rfl (hb hby at_87) rfl rfl  k) ?_
    show OutW _ _ _ _ _ _ _ (T23.setTop (mkF m 88 #[.val (.int p1), .val (.ref b1), .val (.ref s_MONTHLY_CAP), .unset] [(.ref s_MONTHLY_CAP)]))
    obtain ⟨T35, X35, e35, st35⟩ := getF X23 hx hZ hown (host := "") (Or.inl (hw _ (List.mem_of_getElem? (i := 27) rfl))) Via.refl e23 F_value_s_MONTHLY_CAP (g := (mkF m 88 #[.val (.int p1), .val (.ref b1), .val (.ref s_MONTHLY_CAP), .unset] [(.ref s_MONTHLY_CAP)])) rfl rfl (hb hby at_88)
    refine OutW.back st35 ?_
    show OutW _ _ _ _ _ _ _ (T35.setTop (mkF m 91 #[.val (.int p1), .val (.ref b1), .val (.ref s_MONTHLY_CAP), .unset] [(.ref s_CAP)]))
    obtain ⟨T36, X36, e36, st36⟩ := getS2 X35 hx hZ hown (host := "") (Or.inl (hw _ (List.mem_of_getElem? (i := 31) rfl))) Via.refl e35 S_CAP (g := (mkF m 91 #[.val (.int p1), .val (.ref b1), .val (.ref s_MONTHLY_CAP), .unset] [(.ref s_CAP)])) rfl (hb hby at_91)
    refine OutW.back st36 ?_
    show OutW _ _ _ _ _ _ _ (T36.setTop (mkF m 94 #[.val (.int p1), .val (.ref b1), .val (.ref s_MONTHLY_CAP), .unset] [(.ref s_CAP), (.ref s_CAP)]))
    refine OutW.back (fun t k => Jvm.RoadKit.acmp (g := (mkF m 94 #[.val (.int p1), .val (.ref b1), .val (.ref s_MONTHLY_CAP), .unset] [(.ref s_CAP), (.ref s_CAP)])) X36 hx rfl rfl rfl (pc0 := 94) (pc' := 97) (same := true) rfl (hb hby at_94) rfl (decide_eq_true rfl) (by decide) (by decide) k) ?_
    show OutW _ _ _ _ _ _ _ (T36.setTop (mkF m 97 #[.val (.int p1), .val (.ref b1), .val (.ref s_MONTHLY_CAP), .unset] []))
    refine OutW.back (fun t k => XS.aloadN X36.here hx rfl (hb hby at_97) rfl rfl  k) ?_
    show OutW _ _ _ _ _ _ _ (T36.setTop (mkF m 98 #[.val (.int p1), .val (.ref b1), .val (.ref s_MONTHLY_CAP), .unset] [(.ref s_MONTHLY_CAP)]))
    obtain ⟨T37, X37, e37, st37⟩ := getF X36 hx hZ hown (host := "") (Or.inl (hw _ (List.mem_of_getElem? (i := 32) rfl))) Via.refl e36 F_cap_s_MONTHLY_CAP (g := (mkF m 98 #[.val (.int p1), .val (.ref b1), .val (.ref s_MONTHLY_CAP), .unset] [(.ref s_MONTHLY_CAP)])) rfl rfl (hb hby at_98)
    refine OutW.back st37 ?_
    show OutW _ _ _ _ _ _ _ (T37.setTop (mkF m 101 #[.val (.int p1), .val (.ref b1), .val (.ref s_MONTHLY_CAP), .unset] [(.ref s_MONTHLY)]))
    refine OutW.back (fun t k => XS.ifnonnullYes X37.here hx rfl (pc0 := 101) (pc' := 108) rfl (hb hby at_101) rfl (by decide) (by decide) k) ?_
    show OutW _ _ _ _ _ _ _ (T37.setTop (mkF m 108 #[.val (.int p1), .val (.ref b1), .val (.ref s_MONTHLY_CAP), .unset] []))
    refine OutW.back (fun t k => XS.iconst X37.here hx rfl (hb hby at_108) k) ?_
    show OutW _ _ _ _ _ _ _ (T37.setTop (mkF m 109 #[.val (.int p1), .val (.ref b1), .val (.ref s_MONTHLY_CAP), .unset] [(.int (0 : Int32))]))
    refine OutW.back (fun t k => XS.istoreN X37.here hx rfl (hb hby at_109) rfl (l' := #[.val (.int p1), .val (.ref b1), .val (.ref s_MONTHLY_CAP), .val (.int (0 : Int32))]) rfl k) ?_
    show OutW _ _ _ _ _ _ _ (T37.setTop (mkF m 110 #[.val (.int p1), .val (.ref b1), .val (.ref s_MONTHLY_CAP), .val (.int (0 : Int32))] []))
    refine OutW.back (fun t k => XS.aloadN X37.here hx rfl (hb hby at_110) rfl rfl  k) ?_
    show OutW _ _ _ _ _ _ _ (T37.setTop (mkF m 111 #[.val (.int p1), .val (.ref b1), .val (.ref s_MONTHLY_CAP), .val (.int (0 : Int32))] [(.ref s_MONTHLY_CAP)]))
    obtain ⟨cq38, kq38, qa38, qb38, qc38⟩ := isOf hZ e37 E_s_MONTHLY_CAP
    obtain ⟨_, _, ⟨T38, L38, k38, n38⟩, -, X38, ⟨Lc38, hQ38, l38, y38, z38⟩, st38⟩ := X37.virtualBack hx (y := (⟨"com/example/daily_spend_pacer/dailyspendpacer/io/ReplayEvent$Kind", "ofWallet", "()Z"⟩ : MethodName)) (z := (⟨"com/example/daily_spend_pacer/dailyspendpacer/io/ReplayEvent$Kind", "ofWallet", "()Z"⟩ : MethodName)) hown (mvT hZ (hw _ (List.mem_of_getElem? (i := 36) rfl))) (mvT hZ (hw _ (List.mem_of_getElem? (i := 37) rfl))) (notFace_of_selects (args := #[]) (mvT hZ (hw _ (List.mem_of_getElem? (i := 39) rfl)))) (mvT hZ (hw _ (List.mem_of_getElem? (i := 39) rfl))) (mvT hZ (hw _ (List.mem_of_getElem? (i := 38) rfl))) (by decide) (backOf (W := 0) (rm1 l Z a0 hw [] s_MONTHLY_CAP s_WALLET_DAILY_CAP h23 n0 Z23 S_WALLET_DAILY_CAP) hZ (hw _ (List.mem_of_getElem? (i := 40) rfl)) (hw _ (List.mem_of_getElem? (i := 3) rfl)) (by decide) (by decide)) qa38 qc38 (g := (mkF m 111 #[.val (.int p1), .val (.ref b1), .val (.ref s_MONTHLY_CAP), .val (.int (0 : Int32))] [(.ref s_MONTHLY_CAP)])) rfl (by rw [hml]; rfl) (Steps.refl _) (argsL := []) (rest := []) (lenOf pd_0 rfl) rfl (by show 2 * 0 + _ ≤ _; exact Nat.le_of_eq rfl) (hb hby at_111) (fun _ _ => ⟨rfl, e37, (by decide : 1 + 0 ≤ _), (by decide : 11 + 0 ≤ _)⟩)
    dsimp only [Pt.U, Pt.locs, Pt.cells, Pt.slots] at X38 l38 y38 z38 st38 hQ38
    subst l38 y38 z38
    obtain ⟨rfl, Nq38, e38⟩ := hQ38
    have N38 := Fr.app N23 Nq38
    refine OutW.via st38 ?_
    show OutW _ _ _ _ _ _ _ (T38.setTop (mkF m 114 #[.val (.int p1), .val (.ref b1), .val (.ref s_MONTHLY_CAP), .val (.int (0 : Int32))] [(.int (ofW s_MONTHLY_CAP s_WALLET_DAILY_CAP))]))
    refine OutW.back (fun t k => XS.iloadN X38.here hx rfl (hb hby at_114) rfl  k) ?_
    show OutW _ _ _ _ _ _ _ (T38.setTop (mkF m 115 #[.val (.int p1), .val (.ref b1), .val (.ref s_MONTHLY_CAP), .val (.int (0 : Int32))] [(.int (0 : Int32)), (.int (ofW s_MONTHLY_CAP s_WALLET_DAILY_CAP))]))
    obtain ⟨v40, hv_v40⟩ : ∃ z : Int32, z = (if (ofW s_MONTHLY_CAP s_WALLET_DAILY_CAP) = (0 : Int32) then (1 : Int32) else (0 : Int32)) := ⟨_, rfl⟩
    have j41 : ∀ t, Steps p.tables e below (T38.setTop (mkF m 123 #[.val (.int p1), .val (.ref b1), .val (.ref s_MONTHLY_CAP), .val (.int (0 : Int32))] [(.int v40)])) t → Steps p.tables e below (T38.setTop (mkF m 115 #[.val (.int p1), .val (.ref b1), .val (.ref s_MONTHLY_CAP), .val (.int (0 : Int32))] [(.int (0 : Int32)), (.int (ofW s_MONTHLY_CAP s_WALLET_DAILY_CAP))])) t := by
      intro t k
      by_cases c115_42 : (ofW s_MONTHLY_CAP s_WALLET_DAILY_CAP) = (0 : Int32)
      · skip
        refine XS.icmpNo X38.here hx rfl (hb hby at_115) rfl (teq c115_42).2 ?_
        show Steps p.tables e below (T38.setTop (mkF m 118 #[.val (.int p1), .val (.ref b1), .val (.ref s_MONTHLY_CAP), .val (.int (0 : Int32))] [])) t
        refine XS.iconst X38.here hx rfl (hb hby at_118) ?_
        show Steps p.tables e below (T38.setTop (mkF m 119 #[.val (.int p1), .val (.ref b1), .val (.ref s_MONTHLY_CAP), .val (.int (0 : Int32))] [(.int (1 : Int32))])) t
        refine XS.goto X38.here hx rfl (pc0 := 119) (pc' := 123) rfl (hb hby at_119) (by decide) (by decide) ?_
        show Steps p.tables e below (T38.setTop (mkF m 123 #[.val (.int p1), .val (.ref b1), .val (.ref s_MONTHLY_CAP), .val (.int (0 : Int32))] [(.int (1 : Int32))])) t
        have q_v40 : v40 = (1 : Int32) := by rw [hv_v40, if_pos c115_42]
        rw [q_v40] at k
        exact k
      · skip
        refine XS.icmpYes X38.here hx rfl (pc0 := 115) (pc' := 122) rfl (hb hby at_115) rfl (feq c115_42).2 (by decide) (by decide) ?_
        show Steps p.tables e below (T38.setTop (mkF m 122 #[.val (.int p1), .val (.ref b1), .val (.ref s_MONTHLY_CAP), .val (.int (0 : Int32))] [])) t
        refine XS.iconst X38.here hx rfl (hb hby at_122) ?_
        show Steps p.tables e below (T38.setTop (mkF m 123 #[.val (.int p1), .val (.ref b1), .val (.ref s_MONTHLY_CAP), .val (.int (0 : Int32))] [(.int (0 : Int32))])) t
        have q_v40 : v40 = (0 : Int32) := by rw [hv_v40, if_neg c115_42]
        rw [q_v40] at k
        exact k
    refine OutW.back j41 ?_
    show OutW _ _ _ _ _ _ _ (T38.setTop (mkF m 123 #[.val (.int p1), .val (.ref b1), .val (.ref s_MONTHLY_CAP), .val (.int (0 : Int32))] [(.int v40)]))
    refine OutW.retN X38 hx (t := .boolean) (z' := 1) Bd.returns (by simp) hlk (hb hby at_123) ?hz (by decide) (by decide) ?_
    case hz =>
      have hfin : v40 = (1 : Int32) := by
        rw [hv_v40, ofW]
        simp [ne_s_DAILY_CAP_s_WALLET_DAILY_CAP, ne_s_MONTHLY_CAP_s_WALLET_DAILY_CAP, ne_s_TOTAL_CAP_s_WALLET_DAILY_CAP, ne_s_CHARGE_s_WALLET_DAILY_CAP, ne_s_AMOUNT_s_CAP, ne_s_AVERAGE_DAILY_LIMIT_s_WALLET_DAILY_CAP, ne_s_LIMIT_s_CAP, ne_s_WEEKLY_AVERAGE_DAILY_LIMIT_s_WALLET_DAILY_CAP, ne_s_REMOVE_AVERAGE_DAILY_LIMIT_s_WALLET_DAILY_CAP, ne_s_NONE_s_CAP, ne_s_END_DATE_s_WALLET_DAILY_CAP, ne_s_DATE_s_CAP, ne_s_LIFETIME_BUDGET_s_WALLET_DAILY_CAP, ne_s_WALLET_s_WALLET_DAILY_CAP, ne_s_ReplayEvent_Value_WALLET_s_CAP]
      rw [hfin]; rfl
    show Q0 Z p1 s_DAILY_CAP s_MONTHLY_CAP s_TOTAL_CAP s_CHARGE s_AVERAGE_DAILY_LIMIT s_WEEKLY_AVERAGE_DAILY_LIMIT s_REMOVE_AVERAGE_DAILY_LIMIT s_END_DATE s_LIFETIME_BUDGET s_WALLET_DAILY_CAP s_WALLET s_CAP s_DAILY s_MONTHLY s_TOTAL s_AMOUNT s_LIMIT s_NONE s_DATE s_ReplayEvent_Value_WALLET h0 n0 _ T38.heap _
    rw [e38]
    exact ⟨rfl, N38⟩
  · skip
    show OutW _ _ _ _ _ _ _ (T23.setTop (mkF m 85 #[.val (.int p1), .val (.ref b1), .unset, .unset] [(.int (2 : Int32)), (.ref b1)]))
    obtain ⟨cl43, Ar43, q43, Sz43, Nn43, Hh43, Gg43⟩ := V_b1_23
    have hin43 : ¬ ((2 : Int32) < 0 ∨ cl43.slots.size ≤ ((2 : Int32)).toNatClampNeg) := inb_of Sz43 ⟨by decide, by decide⟩
    refine OutW.back (X23.aaload hx (j := (2 : Int32)) (v := (.ref s_TOTAL_CAP)) (by rw [e23]; exact Ar43.1) (State.isArrayOf_alike hZ.alike Ar43.2.1) rfl Ar43.2.2 hin43 (Hh43.at hin43 (by rfl)) (g := (mkF m 85 #[.val (.int p1), .val (.ref b1), .unset, .unset] [(.int (2 : Int32)), (.ref b1)])) rfl rfl (hb hby at_85)) ?_
    show OutW _ _ _ _ _ _ _ (T23.setTop (mkF m 86 #[.val (.int p1), .val (.ref b1), .unset, .unset] [(.ref s_TOTAL_CAP)]))
    refine OutW.back (fun t k => XS.astoreN X23.here hx rfl (hb hby at_86) rfl rfl (l' := #[.val (.int p1), .val (.ref b1), .val (.ref s_TOTAL_CAP), .unset]) rfl k) ?_
    show OutW _ _ _ _ _ _ _ (T23.setTop (mkF m 87 #[.val (.int p1), .val (.ref b1), .val (.ref s_TOTAL_CAP), .unset] []))
    refine OutW.back (fun t k => XS.aloadN X23.here hx rfl (hb hby at_87) rfl rfl  k) ?_
    show OutW _ _ _ _ _ _ _ (T23.setTop (mkF m 88 #[.val (.int p1), .val (.ref b1), .val (.ref s_TOTAL_CAP), .unset] [(.ref s_TOTAL_CAP)]))
    obtain ⟨T44, X44, e44, st44⟩ := getF X23 hx hZ hown (host := "") (Or.inl (hw _ (List.mem_of_getElem? (i := 27) rfl))) Via.refl e23 F_value_s_TOTAL_CAP (g := (mkF m 88 #[.val (.int p1), .val (.ref b1), .val (.ref s_TOTAL_CAP), .unset] [(.ref s_TOTAL_CAP)])) rfl rfl (hb hby at_88)
    refine OutW.back st44 ?_
    show OutW _ _ _ _ _ _ _ (T44.setTop (mkF m 91 #[.val (.int p1), .val (.ref b1), .val (.ref s_TOTAL_CAP), .unset] [(.ref s_CAP)]))
    obtain ⟨T45, X45, e45, st45⟩ := getS2 X44 hx hZ hown (host := "") (Or.inl (hw _ (List.mem_of_getElem? (i := 31) rfl))) Via.refl e44 S_CAP (g := (mkF m 91 #[.val (.int p1), .val (.ref b1), .val (.ref s_TOTAL_CAP), .unset] [(.ref s_CAP)])) rfl (hb hby at_91)
    refine OutW.back st45 ?_
    show OutW _ _ _ _ _ _ _ (T45.setTop (mkF m 94 #[.val (.int p1), .val (.ref b1), .val (.ref s_TOTAL_CAP), .unset] [(.ref s_CAP), (.ref s_CAP)]))
    refine OutW.back (fun t k => Jvm.RoadKit.acmp (g := (mkF m 94 #[.val (.int p1), .val (.ref b1), .val (.ref s_TOTAL_CAP), .unset] [(.ref s_CAP), (.ref s_CAP)])) X45 hx rfl rfl rfl (pc0 := 94) (pc' := 97) (same := true) rfl (hb hby at_94) rfl (decide_eq_true rfl) (by decide) (by decide) k) ?_
    show OutW _ _ _ _ _ _ _ (T45.setTop (mkF m 97 #[.val (.int p1), .val (.ref b1), .val (.ref s_TOTAL_CAP), .unset] []))
    refine OutW.back (fun t k => XS.aloadN X45.here hx rfl (hb hby at_97) rfl rfl  k) ?_
    show OutW _ _ _ _ _ _ _ (T45.setTop (mkF m 98 #[.val (.int p1), .val (.ref b1), .val (.ref s_TOTAL_CAP), .unset] [(.ref s_TOTAL_CAP)]))
    obtain ⟨T46, X46, e46, st46⟩ := getF X45 hx hZ hown (host := "") (Or.inl (hw _ (List.mem_of_getElem? (i := 32) rfl))) Via.refl e45 F_cap_s_TOTAL_CAP (g := (mkF m 98 #[.val (.int p1), .val (.ref b1), .val (.ref s_TOTAL_CAP), .unset] [(.ref s_TOTAL_CAP)])) rfl rfl (hb hby at_98)
    refine OutW.back st46 ?_
    show OutW _ _ _ _ _ _ _ (T46.setTop (mkF m 101 #[.val (.int p1), .val (.ref b1), .val (.ref s_TOTAL_CAP), .unset] [(.ref s_TOTAL)]))
    refine OutW.back (fun t k => XS.ifnonnullYes X46.here hx rfl (pc0 := 101) (pc' := 108) rfl (hb hby at_101) rfl (by decide) (by decide) k) ?_
    show OutW _ _ _ _ _ _ _ (T46.setTop (mkF m 108 #[.val (.int p1), .val (.ref b1), .val (.ref s_TOTAL_CAP), .unset] []))
    refine OutW.back (fun t k => XS.iconst X46.here hx rfl (hb hby at_108) k) ?_
    show OutW _ _ _ _ _ _ _ (T46.setTop (mkF m 109 #[.val (.int p1), .val (.ref b1), .val (.ref s_TOTAL_CAP), .unset] [(.int (0 : Int32))]))
    refine OutW.back (fun t k => XS.istoreN X46.here hx rfl (hb hby at_109) rfl (l' := #[.val (.int p1), .val (.ref b1), .val (.ref s_TOTAL_CAP), .val (.int (0 : Int32))]) rfl k) ?_
    show OutW _ _ _ _ _ _ _ (T46.setTop (mkF m 110 #[.val (.int p1), .val (.ref b1), .val (.ref s_TOTAL_CAP), .val (.int (0 : Int32))] []))
    refine OutW.back (fun t k => XS.aloadN X46.here hx rfl (hb hby at_110) rfl rfl  k) ?_
    show OutW _ _ _ _ _ _ _ (T46.setTop (mkF m 111 #[.val (.int p1), .val (.ref b1), .val (.ref s_TOTAL_CAP), .val (.int (0 : Int32))] [(.ref s_TOTAL_CAP)]))
    obtain ⟨cq47, kq47, qa47, qb47, qc47⟩ := isOf hZ e46 E_s_TOTAL_CAP
    obtain ⟨_, _, ⟨T47, L47, k47, n47⟩, -, X47, ⟨Lc47, hQ47, l47, y47, z47⟩, st47⟩ := X46.virtualBack hx (y := (⟨"com/example/daily_spend_pacer/dailyspendpacer/io/ReplayEvent$Kind", "ofWallet", "()Z"⟩ : MethodName)) (z := (⟨"com/example/daily_spend_pacer/dailyspendpacer/io/ReplayEvent$Kind", "ofWallet", "()Z"⟩ : MethodName)) hown (mvT hZ (hw _ (List.mem_of_getElem? (i := 36) rfl))) (mvT hZ (hw _ (List.mem_of_getElem? (i := 37) rfl))) (notFace_of_selects (args := #[]) (mvT hZ (hw _ (List.mem_of_getElem? (i := 39) rfl)))) (mvT hZ (hw _ (List.mem_of_getElem? (i := 39) rfl))) (mvT hZ (hw _ (List.mem_of_getElem? (i := 38) rfl))) (by decide) (backOf (W := 0) (rm1 l Z a0 hw [] s_TOTAL_CAP s_WALLET_DAILY_CAP h23 n0 Z23 S_WALLET_DAILY_CAP) hZ (hw _ (List.mem_of_getElem? (i := 40) rfl)) (hw _ (List.mem_of_getElem? (i := 3) rfl)) (by decide) (by decide)) qa47 qc47 (g := (mkF m 111 #[.val (.int p1), .val (.ref b1), .val (.ref s_TOTAL_CAP), .val (.int (0 : Int32))] [(.ref s_TOTAL_CAP)])) rfl (by rw [hml]; rfl) (Steps.refl _) (argsL := []) (rest := []) (lenOf pd_0 rfl) rfl (by show 2 * 0 + _ ≤ _; exact Nat.le_of_eq rfl) (hb hby at_111) (fun _ _ => ⟨rfl, e46, (by decide : 1 + 0 ≤ _), (by decide : 11 + 0 ≤ _)⟩)
    dsimp only [Pt.U, Pt.locs, Pt.cells, Pt.slots] at X47 l47 y47 z47 st47 hQ47
    subst l47 y47 z47
    obtain ⟨rfl, Nq47, e47⟩ := hQ47
    have N47 := Fr.app N23 Nq47
    refine OutW.via st47 ?_
    show OutW _ _ _ _ _ _ _ (T47.setTop (mkF m 114 #[.val (.int p1), .val (.ref b1), .val (.ref s_TOTAL_CAP), .val (.int (0 : Int32))] [(.int (ofW s_TOTAL_CAP s_WALLET_DAILY_CAP))]))
    refine OutW.back (fun t k => XS.iloadN X47.here hx rfl (hb hby at_114) rfl  k) ?_
    show OutW _ _ _ _ _ _ _ (T47.setTop (mkF m 115 #[.val (.int p1), .val (.ref b1), .val (.ref s_TOTAL_CAP), .val (.int (0 : Int32))] [(.int (0 : Int32)), (.int (ofW s_TOTAL_CAP s_WALLET_DAILY_CAP))]))
    obtain ⟨v49, hv_v49⟩ : ∃ z : Int32, z = (if (ofW s_TOTAL_CAP s_WALLET_DAILY_CAP) = (0 : Int32) then (1 : Int32) else (0 : Int32)) := ⟨_, rfl⟩
    have j50 : ∀ t, Steps p.tables e below (T47.setTop (mkF m 123 #[.val (.int p1), .val (.ref b1), .val (.ref s_TOTAL_CAP), .val (.int (0 : Int32))] [(.int v49)])) t → Steps p.tables e below (T47.setTop (mkF m 115 #[.val (.int p1), .val (.ref b1), .val (.ref s_TOTAL_CAP), .val (.int (0 : Int32))] [(.int (0 : Int32)), (.int (ofW s_TOTAL_CAP s_WALLET_DAILY_CAP))])) t := by
      intro t k
      by_cases c115_51 : (ofW s_TOTAL_CAP s_WALLET_DAILY_CAP) = (0 : Int32)
      · skip
        refine XS.icmpNo X47.here hx rfl (hb hby at_115) rfl (teq c115_51).2 ?_
        show Steps p.tables e below (T47.setTop (mkF m 118 #[.val (.int p1), .val (.ref b1), .val (.ref s_TOTAL_CAP), .val (.int (0 : Int32))] [])) t
        refine XS.iconst X47.here hx rfl (hb hby at_118) ?_
        show Steps p.tables e below (T47.setTop (mkF m 119 #[.val (.int p1), .val (.ref b1), .val (.ref s_TOTAL_CAP), .val (.int (0 : Int32))] [(.int (1 : Int32))])) t
        refine XS.goto X47.here hx rfl (pc0 := 119) (pc' := 123) rfl (hb hby at_119) (by decide) (by decide) ?_
        show Steps p.tables e below (T47.setTop (mkF m 123 #[.val (.int p1), .val (.ref b1), .val (.ref s_TOTAL_CAP), .val (.int (0 : Int32))] [(.int (1 : Int32))])) t
        have q_v49 : v49 = (1 : Int32) := by rw [hv_v49, if_pos c115_51]
        rw [q_v49] at k
        exact k
      · skip
        refine XS.icmpYes X47.here hx rfl (pc0 := 115) (pc' := 122) rfl (hb hby at_115) rfl (feq c115_51).2 (by decide) (by decide) ?_
        show Steps p.tables e below (T47.setTop (mkF m 122 #[.val (.int p1), .val (.ref b1), .val (.ref s_TOTAL_CAP), .val (.int (0 : Int32))] [])) t
        refine XS.iconst X47.here hx rfl (hb hby at_122) ?_
        show Steps p.tables e below (T47.setTop (mkF m 123 #[.val (.int p1), .val (.ref b1), .val (.ref s_TOTAL_CAP), .val (.int (0 : Int32))] [(.int (0 : Int32))])) t
        have q_v49 : v49 = (0 : Int32) := by rw [hv_v49, if_neg c115_51]
        rw [q_v49] at k
        exact k
    refine OutW.back j50 ?_
    show OutW _ _ _ _ _ _ _ (T47.setTop (mkF m 123 #[.val (.int p1), .val (.ref b1), .val (.ref s_TOTAL_CAP), .val (.int (0 : Int32))] [(.int v49)]))
    refine OutW.retN X47 hx (t := .boolean) (z' := 1) Bd.returns (by simp) hlk (hb hby at_123) ?hz (by decide) (by decide) ?_
    case hz =>
      have hfin : v49 = (1 : Int32) := by
        rw [hv_v49, ofW]
        simp [ne_s_DAILY_CAP_s_WALLET_DAILY_CAP, ne_s_MONTHLY_CAP_s_WALLET_DAILY_CAP, ne_s_TOTAL_CAP_s_WALLET_DAILY_CAP, ne_s_CHARGE_s_WALLET_DAILY_CAP, ne_s_AMOUNT_s_CAP, ne_s_AVERAGE_DAILY_LIMIT_s_WALLET_DAILY_CAP, ne_s_LIMIT_s_CAP, ne_s_WEEKLY_AVERAGE_DAILY_LIMIT_s_WALLET_DAILY_CAP, ne_s_REMOVE_AVERAGE_DAILY_LIMIT_s_WALLET_DAILY_CAP, ne_s_NONE_s_CAP, ne_s_END_DATE_s_WALLET_DAILY_CAP, ne_s_DATE_s_CAP, ne_s_LIFETIME_BUDGET_s_WALLET_DAILY_CAP, ne_s_WALLET_s_WALLET_DAILY_CAP, ne_s_ReplayEvent_Value_WALLET_s_CAP]
      rw [hfin]; rfl
    show Q0 Z p1 s_DAILY_CAP s_MONTHLY_CAP s_TOTAL_CAP s_CHARGE s_AVERAGE_DAILY_LIMIT s_WEEKLY_AVERAGE_DAILY_LIMIT s_REMOVE_AVERAGE_DAILY_LIMIT s_END_DATE s_LIFETIME_BUDGET s_WALLET_DAILY_CAP s_WALLET s_CAP s_DAILY s_MONTHLY s_TOTAL s_AMOUNT s_LIMIT s_NONE s_DATE s_ReplayEvent_Value_WALLET h0 n0 _ T47.heap _
    rw [e47]
    exact ⟨rfl, N47⟩
  · skip
    show OutW _ _ _ _ _ _ _ (T23.setTop (mkF m 85 #[.val (.int p1), .val (.ref b1), .unset, .unset] [(.int (3 : Int32)), (.ref b1)]))
    obtain ⟨cl52, Ar52, q52, Sz52, Nn52, Hh52, Gg52⟩ := V_b1_23
    have hin52 : ¬ ((3 : Int32) < 0 ∨ cl52.slots.size ≤ ((3 : Int32)).toNatClampNeg) := inb_of Sz52 ⟨by decide, by decide⟩
    refine OutW.back (X23.aaload hx (j := (3 : Int32)) (v := (.ref s_CHARGE)) (by rw [e23]; exact Ar52.1) (State.isArrayOf_alike hZ.alike Ar52.2.1) rfl Ar52.2.2 hin52 (Hh52.at hin52 (by rfl)) (g := (mkF m 85 #[.val (.int p1), .val (.ref b1), .unset, .unset] [(.int (3 : Int32)), (.ref b1)])) rfl rfl (hb hby at_85)) ?_
    show OutW _ _ _ _ _ _ _ (T23.setTop (mkF m 86 #[.val (.int p1), .val (.ref b1), .unset, .unset] [(.ref s_CHARGE)]))
    refine OutW.back (fun t k => XS.astoreN X23.here hx rfl (hb hby at_86) rfl rfl (l' := #[.val (.int p1), .val (.ref b1), .val (.ref s_CHARGE), .unset]) rfl k) ?_
    show OutW _ _ _ _ _ _ _ (T23.setTop (mkF m 87 #[.val (.int p1), .val (.ref b1), .val (.ref s_CHARGE), .unset] []))
    refine OutW.back (fun t k => XS.aloadN X23.here hx rfl (hb hby at_87) rfl rfl  k) ?_
    show OutW _ _ _ _ _ _ _ (T23.setTop (mkF m 88 #[.val (.int p1), .val (.ref b1), .val (.ref s_CHARGE), .unset] [(.ref s_CHARGE)]))
    obtain ⟨T53, X53, e53, st53⟩ := getF X23 hx hZ hown (host := "") (Or.inl (hw _ (List.mem_of_getElem? (i := 27) rfl))) Via.refl e23 F_value_s_CHARGE (g := (mkF m 88 #[.val (.int p1), .val (.ref b1), .val (.ref s_CHARGE), .unset] [(.ref s_CHARGE)])) rfl rfl (hb hby at_88)
    refine OutW.back st53 ?_
    show OutW _ _ _ _ _ _ _ (T53.setTop (mkF m 91 #[.val (.int p1), .val (.ref b1), .val (.ref s_CHARGE), .unset] [(.ref s_AMOUNT)]))
    obtain ⟨T54, X54, e54, st54⟩ := getS2 X53 hx hZ hown (host := "") (Or.inl (hw _ (List.mem_of_getElem? (i := 31) rfl))) Via.refl e53 S_CAP (g := (mkF m 91 #[.val (.int p1), .val (.ref b1), .val (.ref s_CHARGE), .unset] [(.ref s_AMOUNT)])) rfl (hb hby at_91)
    refine OutW.back st54 ?_
    show OutW _ _ _ _ _ _ _ (T54.setTop (mkF m 94 #[.val (.int p1), .val (.ref b1), .val (.ref s_CHARGE), .unset] [(.ref s_CAP), (.ref s_AMOUNT)]))
    refine OutW.back (fun t k => Jvm.RoadKit.acmp (g := (mkF m 94 #[.val (.int p1), .val (.ref b1), .val (.ref s_CHARGE), .unset] [(.ref s_CAP), (.ref s_AMOUNT)])) X54 hx rfl rfl rfl (pc0 := 94) (pc' := 108) (same := false) rfl (hb hby at_94) rfl (decide_eq_false (fun q => ne_s_AMOUNT_s_CAP (Value.ref.inj q))) (by decide) (by decide) k) ?_
    show OutW _ _ _ _ _ _ _ (T54.setTop (mkF m 108 #[.val (.int p1), .val (.ref b1), .val (.ref s_CHARGE), .unset] []))
    refine OutW.back (fun t k => XS.iconst X54.here hx rfl (hb hby at_108) k) ?_
    show OutW _ _ _ _ _ _ _ (T54.setTop (mkF m 109 #[.val (.int p1), .val (.ref b1), .val (.ref s_CHARGE), .unset] [(.int (0 : Int32))]))
    refine OutW.back (fun t k => XS.istoreN X54.here hx rfl (hb hby at_109) rfl (l' := #[.val (.int p1), .val (.ref b1), .val (.ref s_CHARGE), .val (.int (0 : Int32))]) rfl k) ?_
    show OutW _ _ _ _ _ _ _ (T54.setTop (mkF m 110 #[.val (.int p1), .val (.ref b1), .val (.ref s_CHARGE), .val (.int (0 : Int32))] []))
    refine OutW.back (fun t k => XS.aloadN X54.here hx rfl (hb hby at_110) rfl rfl  k) ?_
    show OutW _ _ _ _ _ _ _ (T54.setTop (mkF m 111 #[.val (.int p1), .val (.ref b1), .val (.ref s_CHARGE), .val (.int (0 : Int32))] [(.ref s_CHARGE)]))
    obtain ⟨cq55, kq55, qa55, qb55, qc55⟩ := isOf hZ e54 E_s_CHARGE
    obtain ⟨_, _, ⟨T55, L55, k55, n55⟩, -, X55, ⟨Lc55, hQ55, l55, y55, z55⟩, st55⟩ := X54.virtualBack hx (y := (⟨"com/example/daily_spend_pacer/dailyspendpacer/io/ReplayEvent$Kind", "ofWallet", "()Z"⟩ : MethodName)) (z := (⟨"com/example/daily_spend_pacer/dailyspendpacer/io/ReplayEvent$Kind", "ofWallet", "()Z"⟩ : MethodName)) hown (mvT hZ (hw _ (List.mem_of_getElem? (i := 36) rfl))) (mvT hZ (hw _ (List.mem_of_getElem? (i := 37) rfl))) (notFace_of_selects (args := #[]) (mvT hZ (hw _ (List.mem_of_getElem? (i := 39) rfl)))) (mvT hZ (hw _ (List.mem_of_getElem? (i := 39) rfl))) (mvT hZ (hw _ (List.mem_of_getElem? (i := 38) rfl))) (by decide) (backOf (W := 0) (rm1 l Z a0 hw [] s_CHARGE s_WALLET_DAILY_CAP h23 n0 Z23 S_WALLET_DAILY_CAP) hZ (hw _ (List.mem_of_getElem? (i := 40) rfl)) (hw _ (List.mem_of_getElem? (i := 3) rfl)) (by decide) (by decide)) qa55 qc55 (g := (mkF m 111 #[.val (.int p1), .val (.ref b1), .val (.ref s_CHARGE), .val (.int (0 : Int32))] [(.ref s_CHARGE)])) rfl (by rw [hml]; rfl) (Steps.refl _) (argsL := []) (rest := []) (lenOf pd_0 rfl) rfl (by show 2 * 0 + _ ≤ _; exact Nat.le_of_eq rfl) (hb hby at_111) (fun _ _ => ⟨rfl, e54, (by decide : 1 + 0 ≤ _), (by decide : 11 + 0 ≤ _)⟩)
    dsimp only [Pt.U, Pt.locs, Pt.cells, Pt.slots] at X55 l55 y55 z55 st55 hQ55
    subst l55 y55 z55
    obtain ⟨rfl, Nq55, e55⟩ := hQ55
    have N55 := Fr.app N23 Nq55
    refine OutW.via st55 ?_
    show OutW _ _ _ _ _ _ _ (T55.setTop (mkF m 114 #[.val (.int p1), .val (.ref b1), .val (.ref s_CHARGE), .val (.int (0 : Int32))] [(.int (ofW s_CHARGE s_WALLET_DAILY_CAP))]))
    refine OutW.back (fun t k => XS.iloadN X55.here hx rfl (hb hby at_114) rfl  k) ?_
    show OutW _ _ _ _ _ _ _ (T55.setTop (mkF m 115 #[.val (.int p1), .val (.ref b1), .val (.ref s_CHARGE), .val (.int (0 : Int32))] [(.int (0 : Int32)), (.int (ofW s_CHARGE s_WALLET_DAILY_CAP))]))
    obtain ⟨v57, hv_v57⟩ : ∃ z : Int32, z = (if (ofW s_CHARGE s_WALLET_DAILY_CAP) = (0 : Int32) then (1 : Int32) else (0 : Int32)) := ⟨_, rfl⟩
    have j58 : ∀ t, Steps p.tables e below (T55.setTop (mkF m 123 #[.val (.int p1), .val (.ref b1), .val (.ref s_CHARGE), .val (.int (0 : Int32))] [(.int v57)])) t → Steps p.tables e below (T55.setTop (mkF m 115 #[.val (.int p1), .val (.ref b1), .val (.ref s_CHARGE), .val (.int (0 : Int32))] [(.int (0 : Int32)), (.int (ofW s_CHARGE s_WALLET_DAILY_CAP))])) t := by
      intro t k
      by_cases c115_59 : (ofW s_CHARGE s_WALLET_DAILY_CAP) = (0 : Int32)
      · skip
        refine XS.icmpNo X55.here hx rfl (hb hby at_115) rfl (teq c115_59).2 ?_
        show Steps p.tables e below (T55.setTop (mkF m 118 #[.val (.int p1), .val (.ref b1), .val (.ref s_CHARGE), .val (.int (0 : Int32))] [])) t
        refine XS.iconst X55.here hx rfl (hb hby at_118) ?_
        show Steps p.tables e below (T55.setTop (mkF m 119 #[.val (.int p1), .val (.ref b1), .val (.ref s_CHARGE), .val (.int (0 : Int32))] [(.int (1 : Int32))])) t
        refine XS.goto X55.here hx rfl (pc0 := 119) (pc' := 123) rfl (hb hby at_119) (by decide) (by decide) ?_
        show Steps p.tables e below (T55.setTop (mkF m 123 #[.val (.int p1), .val (.ref b1), .val (.ref s_CHARGE), .val (.int (0 : Int32))] [(.int (1 : Int32))])) t
        have q_v57 : v57 = (1 : Int32) := by rw [hv_v57, if_pos c115_59]
        rw [q_v57] at k
        exact k
      · skip
        refine XS.icmpYes X55.here hx rfl (pc0 := 115) (pc' := 122) rfl (hb hby at_115) rfl (feq c115_59).2 (by decide) (by decide) ?_
        show Steps p.tables e below (T55.setTop (mkF m 122 #[.val (.int p1), .val (.ref b1), .val (.ref s_CHARGE), .val (.int (0 : Int32))] [])) t
        refine XS.iconst X55.here hx rfl (hb hby at_122) ?_
        show Steps p.tables e below (T55.setTop (mkF m 123 #[.val (.int p1), .val (.ref b1), .val (.ref s_CHARGE), .val (.int (0 : Int32))] [(.int (0 : Int32))])) t
        have q_v57 : v57 = (0 : Int32) := by rw [hv_v57, if_neg c115_59]
        rw [q_v57] at k
        exact k
    refine OutW.back j58 ?_
    show OutW _ _ _ _ _ _ _ (T55.setTop (mkF m 123 #[.val (.int p1), .val (.ref b1), .val (.ref s_CHARGE), .val (.int (0 : Int32))] [(.int v57)]))
    refine OutW.retN X55 hx (t := .boolean) (z' := 1) Bd.returns (by simp) hlk (hb hby at_123) ?hz (by decide) (by decide) ?_
    case hz =>
      have hfin : v57 = (1 : Int32) := by
        rw [hv_v57, ofW]
        simp [ne_s_DAILY_CAP_s_WALLET_DAILY_CAP, ne_s_MONTHLY_CAP_s_WALLET_DAILY_CAP, ne_s_TOTAL_CAP_s_WALLET_DAILY_CAP, ne_s_CHARGE_s_WALLET_DAILY_CAP, ne_s_AMOUNT_s_CAP, ne_s_AVERAGE_DAILY_LIMIT_s_WALLET_DAILY_CAP, ne_s_LIMIT_s_CAP, ne_s_WEEKLY_AVERAGE_DAILY_LIMIT_s_WALLET_DAILY_CAP, ne_s_REMOVE_AVERAGE_DAILY_LIMIT_s_WALLET_DAILY_CAP, ne_s_NONE_s_CAP, ne_s_END_DATE_s_WALLET_DAILY_CAP, ne_s_DATE_s_CAP, ne_s_LIFETIME_BUDGET_s_WALLET_DAILY_CAP, ne_s_WALLET_s_WALLET_DAILY_CAP, ne_s_ReplayEvent_Value_WALLET_s_CAP]
      rw [hfin]; rfl
    show Q0 Z p1 s_DAILY_CAP s_MONTHLY_CAP s_TOTAL_CAP s_CHARGE s_AVERAGE_DAILY_LIMIT s_WEEKLY_AVERAGE_DAILY_LIMIT s_REMOVE_AVERAGE_DAILY_LIMIT s_END_DATE s_LIFETIME_BUDGET s_WALLET_DAILY_CAP s_WALLET s_CAP s_DAILY s_MONTHLY s_TOTAL s_AMOUNT s_LIMIT s_NONE s_DATE s_ReplayEvent_Value_WALLET h0 n0 _ T55.heap _
    rw [e55]
    exact ⟨rfl, N55⟩
  · skip
    show OutW _ _ _ _ _ _ _ (T23.setTop (mkF m 85 #[.val (.int p1), .val (.ref b1), .unset, .unset] [(.int (4 : Int32)), (.ref b1)]))
    obtain ⟨cl60, Ar60, q60, Sz60, Nn60, Hh60, Gg60⟩ := V_b1_23
    have hin60 : ¬ ((4 : Int32) < 0 ∨ cl60.slots.size ≤ ((4 : Int32)).toNatClampNeg) := inb_of Sz60 ⟨by decide, by decide⟩
    refine OutW.back (X23.aaload hx (j := (4 : Int32)) (v := (.ref s_AVERAGE_DAILY_LIMIT)) (by rw [e23]; exact Ar60.1) (State.isArrayOf_alike hZ.alike Ar60.2.1) rfl Ar60.2.2 hin60 (Hh60.at hin60 (by rfl)) (g := (mkF m 85 #[.val (.int p1), .val (.ref b1), .unset, .unset] [(.int (4 : Int32)), (.ref b1)])) rfl rfl (hb hby at_85)) ?_
    show OutW _ _ _ _ _ _ _ (T23.setTop (mkF m 86 #[.val (.int p1), .val (.ref b1), .unset, .unset] [(.ref s_AVERAGE_DAILY_LIMIT)]))
    refine OutW.back (fun t k => XS.astoreN X23.here hx rfl (hb hby at_86) rfl rfl (l' := #[.val (.int p1), .val (.ref b1), .val (.ref s_AVERAGE_DAILY_LIMIT), .unset]) rfl k) ?_
    show OutW _ _ _ _ _ _ _ (T23.setTop (mkF m 87 #[.val (.int p1), .val (.ref b1), .val (.ref s_AVERAGE_DAILY_LIMIT), .unset] []))
    refine OutW.back (fun t k => XS.aloadN X23.here hx rfl (hb hby at_87) rfl rfl  k) ?_
    show OutW _ _ _ _ _ _ _ (T23.setTop (mkF m 88 #[.val (.int p1), .val (.ref b1), .val (.ref s_AVERAGE_DAILY_LIMIT), .unset] [(.ref s_AVERAGE_DAILY_LIMIT)]))
    obtain ⟨T61, X61, e61, st61⟩ := getF X23 hx hZ hown (host := "") (Or.inl (hw _ (List.mem_of_getElem? (i := 27) rfl))) Via.refl e23 F_value_s_AVERAGE_DAILY_LIMIT (g := (mkF m 88 #[.val (.int p1), .val (.ref b1), .val (.ref s_AVERAGE_DAILY_LIMIT), .unset] [(.ref s_AVERAGE_DAILY_LIMIT)])) rfl rfl (hb hby at_88)
    refine OutW.back st61 ?_
    show OutW _ _ _ _ _ _ _ (T61.setTop (mkF m 91 #[.val (.int p1), .val (.ref b1), .val (.ref s_AVERAGE_DAILY_LIMIT), .unset] [(.ref s_LIMIT)]))
    obtain ⟨T62, X62, e62, st62⟩ := getS2 X61 hx hZ hown (host := "") (Or.inl (hw _ (List.mem_of_getElem? (i := 31) rfl))) Via.refl e61 S_CAP (g := (mkF m 91 #[.val (.int p1), .val (.ref b1), .val (.ref s_AVERAGE_DAILY_LIMIT), .unset] [(.ref s_LIMIT)])) rfl (hb hby at_91)
    refine OutW.back st62 ?_
    show OutW _ _ _ _ _ _ _ (T62.setTop (mkF m 94 #[.val (.int p1), .val (.ref b1), .val (.ref s_AVERAGE_DAILY_LIMIT), .unset] [(.ref s_CAP), (.ref s_LIMIT)]))
    refine OutW.back (fun t k => Jvm.RoadKit.acmp (g := (mkF m 94 #[.val (.int p1), .val (.ref b1), .val (.ref s_AVERAGE_DAILY_LIMIT), .unset] [(.ref s_CAP), (.ref s_LIMIT)])) X62 hx rfl rfl rfl (pc0 := 94) (pc' := 108) (same := false) rfl (hb hby at_94) rfl (decide_eq_false (fun q => ne_s_LIMIT_s_CAP (Value.ref.inj q))) (by decide) (by decide) k) ?_
    show OutW _ _ _ _ _ _ _ (T62.setTop (mkF m 108 #[.val (.int p1), .val (.ref b1), .val (.ref s_AVERAGE_DAILY_LIMIT), .unset] []))
    refine OutW.back (fun t k => XS.iconst X62.here hx rfl (hb hby at_108) k) ?_
    show OutW _ _ _ _ _ _ _ (T62.setTop (mkF m 109 #[.val (.int p1), .val (.ref b1), .val (.ref s_AVERAGE_DAILY_LIMIT), .unset] [(.int (0 : Int32))]))
    refine OutW.back (fun t k => XS.istoreN X62.here hx rfl (hb hby at_109) rfl (l' := #[.val (.int p1), .val (.ref b1), .val (.ref s_AVERAGE_DAILY_LIMIT), .val (.int (0 : Int32))]) rfl k) ?_
    show OutW _ _ _ _ _ _ _ (T62.setTop (mkF m 110 #[.val (.int p1), .val (.ref b1), .val (.ref s_AVERAGE_DAILY_LIMIT), .val (.int (0 : Int32))] []))
    refine OutW.back (fun t k => XS.aloadN X62.here hx rfl (hb hby at_110) rfl rfl  k) ?_
    show OutW _ _ _ _ _ _ _ (T62.setTop (mkF m 111 #[.val (.int p1), .val (.ref b1), .val (.ref s_AVERAGE_DAILY_LIMIT), .val (.int (0 : Int32))] [(.ref s_AVERAGE_DAILY_LIMIT)]))
    obtain ⟨cq63, kq63, qa63, qb63, qc63⟩ := isOf hZ e62 E_s_AVERAGE_DAILY_LIMIT
    obtain ⟨_, _, ⟨T63, L63, k63, n63⟩, -, X63, ⟨Lc63, hQ63, l63, y63, z63⟩, st63⟩ := X62.virtualBack hx (y := (⟨"com/example/daily_spend_pacer/dailyspendpacer/io/ReplayEvent$Kind", "ofWallet", "()Z"⟩ : MethodName)) (z := (⟨"com/example/daily_spend_pacer/dailyspendpacer/io/ReplayEvent$Kind", "ofWallet", "()Z"⟩ : MethodName)) hown (mvT hZ (hw _ (List.mem_of_getElem? (i := 36) rfl))) (mvT hZ (hw _ (List.mem_of_getElem? (i := 37) rfl))) (notFace_of_selects (args := #[]) (mvT hZ (hw _ (List.mem_of_getElem? (i := 39) rfl)))) (mvT hZ (hw _ (List.mem_of_getElem? (i := 39) rfl))) (mvT hZ (hw _ (List.mem_of_getElem? (i := 38) rfl))) (by decide) (backOf (W := 0) (rm1 l Z a0 hw [] s_AVERAGE_DAILY_LIMIT s_WALLET_DAILY_CAP h23 n0 Z23 S_WALLET_DAILY_CAP) hZ (hw _ (List.mem_of_getElem? (i := 40) rfl)) (hw _ (List.mem_of_getElem? (i := 3) rfl)) (by decide) (by decide)) qa63 qc63 (g := (mkF m 111 #[.val (.int p1), .val (.ref b1), .val (.ref s_AVERAGE_DAILY_LIMIT), .val (.int (0 : Int32))] [(.ref s_AVERAGE_DAILY_LIMIT)])) rfl (by rw [hml]; rfl) (Steps.refl _) (argsL := []) (rest := []) (lenOf pd_0 rfl) rfl (by show 2 * 0 + _ ≤ _; exact Nat.le_of_eq rfl) (hb hby at_111) (fun _ _ => ⟨rfl, e62, (by decide : 1 + 0 ≤ _), (by decide : 11 + 0 ≤ _)⟩)
    dsimp only [Pt.U, Pt.locs, Pt.cells, Pt.slots] at X63 l63 y63 z63 st63 hQ63
    subst l63 y63 z63
    obtain ⟨rfl, Nq63, e63⟩ := hQ63
    have N63 := Fr.app N23 Nq63
    refine OutW.via st63 ?_
    show OutW _ _ _ _ _ _ _ (T63.setTop (mkF m 114 #[.val (.int p1), .val (.ref b1), .val (.ref s_AVERAGE_DAILY_LIMIT), .val (.int (0 : Int32))] [(.int (ofW s_AVERAGE_DAILY_LIMIT s_WALLET_DAILY_CAP))]))
    refine OutW.back (fun t k => XS.iloadN X63.here hx rfl (hb hby at_114) rfl  k) ?_
    show OutW _ _ _ _ _ _ _ (T63.setTop (mkF m 115 #[.val (.int p1), .val (.ref b1), .val (.ref s_AVERAGE_DAILY_LIMIT), .val (.int (0 : Int32))] [(.int (0 : Int32)), (.int (ofW s_AVERAGE_DAILY_LIMIT s_WALLET_DAILY_CAP))]))
    obtain ⟨v65, hv_v65⟩ : ∃ z : Int32, z = (if (ofW s_AVERAGE_DAILY_LIMIT s_WALLET_DAILY_CAP) = (0 : Int32) then (1 : Int32) else (0 : Int32)) := ⟨_, rfl⟩
    have j66 : ∀ t, Steps p.tables e below (T63.setTop (mkF m 123 #[.val (.int p1), .val (.ref b1), .val (.ref s_AVERAGE_DAILY_LIMIT), .val (.int (0 : Int32))] [(.int v65)])) t → Steps p.tables e below (T63.setTop (mkF m 115 #[.val (.int p1), .val (.ref b1), .val (.ref s_AVERAGE_DAILY_LIMIT), .val (.int (0 : Int32))] [(.int (0 : Int32)), (.int (ofW s_AVERAGE_DAILY_LIMIT s_WALLET_DAILY_CAP))])) t := by
      intro t k
      by_cases c115_67 : (ofW s_AVERAGE_DAILY_LIMIT s_WALLET_DAILY_CAP) = (0 : Int32)
      · skip
        refine XS.icmpNo X63.here hx rfl (hb hby at_115) rfl (teq c115_67).2 ?_
        show Steps p.tables e below (T63.setTop (mkF m 118 #[.val (.int p1), .val (.ref b1), .val (.ref s_AVERAGE_DAILY_LIMIT), .val (.int (0 : Int32))] [])) t
        refine XS.iconst X63.here hx rfl (hb hby at_118) ?_
        show Steps p.tables e below (T63.setTop (mkF m 119 #[.val (.int p1), .val (.ref b1), .val (.ref s_AVERAGE_DAILY_LIMIT), .val (.int (0 : Int32))] [(.int (1 : Int32))])) t
        refine XS.goto X63.here hx rfl (pc0 := 119) (pc' := 123) rfl (hb hby at_119) (by decide) (by decide) ?_
        show Steps p.tables e below (T63.setTop (mkF m 123 #[.val (.int p1), .val (.ref b1), .val (.ref s_AVERAGE_DAILY_LIMIT), .val (.int (0 : Int32))] [(.int (1 : Int32))])) t
        have q_v65 : v65 = (1 : Int32) := by rw [hv_v65, if_pos c115_67]
        rw [q_v65] at k
        exact k
      · skip
        refine XS.icmpYes X63.here hx rfl (pc0 := 115) (pc' := 122) rfl (hb hby at_115) rfl (feq c115_67).2 (by decide) (by decide) ?_
        show Steps p.tables e below (T63.setTop (mkF m 122 #[.val (.int p1), .val (.ref b1), .val (.ref s_AVERAGE_DAILY_LIMIT), .val (.int (0 : Int32))] [])) t
        refine XS.iconst X63.here hx rfl (hb hby at_122) ?_
        show Steps p.tables e below (T63.setTop (mkF m 123 #[.val (.int p1), .val (.ref b1), .val (.ref s_AVERAGE_DAILY_LIMIT), .val (.int (0 : Int32))] [(.int (0 : Int32))])) t
        have q_v65 : v65 = (0 : Int32) := by rw [hv_v65, if_neg c115_67]
        rw [q_v65] at k
        exact k
    refine OutW.back j66 ?_
    show OutW _ _ _ _ _ _ _ (T63.setTop (mkF m 123 #[.val (.int p1), .val (.ref b1), .val (.ref s_AVERAGE_DAILY_LIMIT), .val (.int (0 : Int32))] [(.int v65)]))
    refine OutW.retN X63 hx (t := .boolean) (z' := 1) Bd.returns (by simp) hlk (hb hby at_123) ?hz (by decide) (by decide) ?_
    case hz =>
      have hfin : v65 = (1 : Int32) := by
        rw [hv_v65, ofW]
        simp [ne_s_DAILY_CAP_s_WALLET_DAILY_CAP, ne_s_MONTHLY_CAP_s_WALLET_DAILY_CAP, ne_s_TOTAL_CAP_s_WALLET_DAILY_CAP, ne_s_CHARGE_s_WALLET_DAILY_CAP, ne_s_AMOUNT_s_CAP, ne_s_AVERAGE_DAILY_LIMIT_s_WALLET_DAILY_CAP, ne_s_LIMIT_s_CAP, ne_s_WEEKLY_AVERAGE_DAILY_LIMIT_s_WALLET_DAILY_CAP, ne_s_REMOVE_AVERAGE_DAILY_LIMIT_s_WALLET_DAILY_CAP, ne_s_NONE_s_CAP, ne_s_END_DATE_s_WALLET_DAILY_CAP, ne_s_DATE_s_CAP, ne_s_LIFETIME_BUDGET_s_WALLET_DAILY_CAP, ne_s_WALLET_s_WALLET_DAILY_CAP, ne_s_ReplayEvent_Value_WALLET_s_CAP]
      rw [hfin]; rfl
    show Q0 Z p1 s_DAILY_CAP s_MONTHLY_CAP s_TOTAL_CAP s_CHARGE s_AVERAGE_DAILY_LIMIT s_WEEKLY_AVERAGE_DAILY_LIMIT s_REMOVE_AVERAGE_DAILY_LIMIT s_END_DATE s_LIFETIME_BUDGET s_WALLET_DAILY_CAP s_WALLET s_CAP s_DAILY s_MONTHLY s_TOTAL s_AMOUNT s_LIMIT s_NONE s_DATE s_ReplayEvent_Value_WALLET h0 n0 _ T63.heap _
    rw [e63]
    exact ⟨rfl, N63⟩
  · skip
    show OutW _ _ _ _ _ _ _ (T23.setTop (mkF m 85 #[.val (.int p1), .val (.ref b1), .unset, .unset] [(.int (5 : Int32)), (.ref b1)]))
    obtain ⟨cl68, Ar68, q68, Sz68, Nn68, Hh68, Gg68⟩ := V_b1_23
    have hin68 : ¬ ((5 : Int32) < 0 ∨ cl68.slots.size ≤ ((5 : Int32)).toNatClampNeg) := inb_of Sz68 ⟨by decide, by decide⟩
    refine OutW.back (X23.aaload hx (j := (5 : Int32)) (v := (.ref s_WEEKLY_AVERAGE_DAILY_LIMIT)) (by rw [e23]; exact Ar68.1) (State.isArrayOf_alike hZ.alike Ar68.2.1) rfl Ar68.2.2 hin68 (Hh68.at hin68 (by rfl)) (g := (mkF m 85 #[.val (.int p1), .val (.ref b1), .unset, .unset] [(.int (5 : Int32)), (.ref b1)])) rfl rfl (hb hby at_85)) ?_
    show OutW _ _ _ _ _ _ _ (T23.setTop (mkF m 86 #[.val (.int p1), .val (.ref b1), .unset, .unset] [(.ref s_WEEKLY_AVERAGE_DAILY_LIMIT)]))
    refine OutW.back (fun t k => XS.astoreN X23.here hx rfl (hb hby at_86) rfl rfl (l' := #[.val (.int p1), .val (.ref b1), .val (.ref s_WEEKLY_AVERAGE_DAILY_LIMIT), .unset]) rfl k) ?_
    show OutW _ _ _ _ _ _ _ (T23.setTop (mkF m 87 #[.val (.int p1), .val (.ref b1), .val (.ref s_WEEKLY_AVERAGE_DAILY_LIMIT), .unset] []))
    refine OutW.back (fun t k => XS.aloadN X23.here hx rfl (hb hby at_87) rfl rfl  k) ?_
    show OutW _ _ _ _ _ _ _ (T23.setTop (mkF m 88 #[.val (.int p1), .val (.ref b1), .val (.ref s_WEEKLY_AVERAGE_DAILY_LIMIT), .unset] [(.ref s_WEEKLY_AVERAGE_DAILY_LIMIT)]))
    obtain ⟨T69, X69, e69, st69⟩ := getF X23 hx hZ hown (host := "") (Or.inl (hw _ (List.mem_of_getElem? (i := 27) rfl))) Via.refl e23 F_value_s_WEEKLY_AVERAGE_DAILY_LIMIT (g := (mkF m 88 #[.val (.int p1), .val (.ref b1), .val (.ref s_WEEKLY_AVERAGE_DAILY_LIMIT), .unset] [(.ref s_WEEKLY_AVERAGE_DAILY_LIMIT)])) rfl rfl (hb hby at_88)
    refine OutW.back st69 ?_
    show OutW _ _ _ _ _ _ _ (T69.setTop (mkF m 91 #[.val (.int p1), .val (.ref b1), .val (.ref s_WEEKLY_AVERAGE_DAILY_LIMIT), .unset] [(.ref s_LIMIT)]))
    obtain ⟨T70, X70, e70, st70⟩ := getS2 X69 hx hZ hown (host := "") (Or.inl (hw _ (List.mem_of_getElem? (i := 31) rfl))) Via.refl e69 S_CAP (g := (mkF m 91 #[.val (.int p1), .val (.ref b1), .val (.ref s_WEEKLY_AVERAGE_DAILY_LIMIT), .unset] [(.ref s_LIMIT)])) rfl (hb hby at_91)
    refine OutW.back st70 ?_
    show OutW _ _ _ _ _ _ _ (T70.setTop (mkF m 94 #[.val (.int p1), .val (.ref b1), .val (.ref s_WEEKLY_AVERAGE_DAILY_LIMIT), .unset] [(.ref s_CAP), (.ref s_LIMIT)]))
    refine OutW.back (fun t k => Jvm.RoadKit.acmp (g := (mkF m 94 #[.val (.int p1), .val (.ref b1), .val (.ref s_WEEKLY_AVERAGE_DAILY_LIMIT), .unset] [(.ref s_CAP), (.ref s_LIMIT)])) X70 hx rfl rfl rfl (pc0 := 94) (pc' := 108) (same := false) rfl (hb hby at_94) rfl (decide_eq_false (fun q => ne_s_LIMIT_s_CAP (Value.ref.inj q))) (by decide) (by decide) k) ?_
    show OutW _ _ _ _ _ _ _ (T70.setTop (mkF m 108 #[.val (.int p1), .val (.ref b1), .val (.ref s_WEEKLY_AVERAGE_DAILY_LIMIT), .unset] []))
    refine OutW.back (fun t k => XS.iconst X70.here hx rfl (hb hby at_108) k) ?_
    show OutW _ _ _ _ _ _ _ (T70.setTop (mkF m 109 #[.val (.int p1), .val (.ref b1), .val (.ref s_WEEKLY_AVERAGE_DAILY_LIMIT), .unset] [(.int (0 : Int32))]))
    refine OutW.back (fun t k => XS.istoreN X70.here hx rfl (hb hby at_109) rfl (l' := #[.val (.int p1), .val (.ref b1), .val (.ref s_WEEKLY_AVERAGE_DAILY_LIMIT), .val (.int (0 : Int32))]) rfl k) ?_
    show OutW _ _ _ _ _ _ _ (T70.setTop (mkF m 110 #[.val (.int p1), .val (.ref b1), .val (.ref s_WEEKLY_AVERAGE_DAILY_LIMIT), .val (.int (0 : Int32))] []))
    refine OutW.back (fun t k => XS.aloadN X70.here hx rfl (hb hby at_110) rfl rfl  k) ?_
    show OutW _ _ _ _ _ _ _ (T70.setTop (mkF m 111 #[.val (.int p1), .val (.ref b1), .val (.ref s_WEEKLY_AVERAGE_DAILY_LIMIT), .val (.int (0 : Int32))] [(.ref s_WEEKLY_AVERAGE_DAILY_LIMIT)]))
    obtain ⟨cq71, kq71, qa71, qb71, qc71⟩ := isOf hZ e70 E_s_WEEKLY_AVERAGE_DAILY_LIMIT
    obtain ⟨_, _, ⟨T71, L71, k71, n71⟩, -, X71, ⟨Lc71, hQ71, l71, y71, z71⟩, st71⟩ := X70.virtualBack hx (y := (⟨"com/example/daily_spend_pacer/dailyspendpacer/io/ReplayEvent$Kind", "ofWallet", "()Z"⟩ : MethodName)) (z := (⟨"com/example/daily_spend_pacer/dailyspendpacer/io/ReplayEvent$Kind", "ofWallet", "()Z"⟩ : MethodName)) hown (mvT hZ (hw _ (List.mem_of_getElem? (i := 36) rfl))) (mvT hZ (hw _ (List.mem_of_getElem? (i := 37) rfl))) (notFace_of_selects (args := #[]) (mvT hZ (hw _ (List.mem_of_getElem? (i := 39) rfl)))) (mvT hZ (hw _ (List.mem_of_getElem? (i := 39) rfl))) (mvT hZ (hw _ (List.mem_of_getElem? (i := 38) rfl))) (by decide) (backOf (W := 0) (rm1 l Z a0 hw [] s_WEEKLY_AVERAGE_DAILY_LIMIT s_WALLET_DAILY_CAP h23 n0 Z23 S_WALLET_DAILY_CAP) hZ (hw _ (List.mem_of_getElem? (i := 40) rfl)) (hw _ (List.mem_of_getElem? (i := 3) rfl)) (by decide) (by decide)) qa71 qc71 (g := (mkF m 111 #[.val (.int p1), .val (.ref b1), .val (.ref s_WEEKLY_AVERAGE_DAILY_LIMIT), .val (.int (0 : Int32))] [(.ref s_WEEKLY_AVERAGE_DAILY_LIMIT)])) rfl (by rw [hml]; rfl) (Steps.refl _) (argsL := []) (rest := []) (lenOf pd_0 rfl) rfl (by show 2 * 0 + _ ≤ _; exact Nat.le_of_eq rfl) (hb hby at_111) (fun _ _ => ⟨rfl, e70, (by decide : 1 + 0 ≤ _), (by decide : 11 + 0 ≤ _)⟩)
    dsimp only [Pt.U, Pt.locs, Pt.cells, Pt.slots] at X71 l71 y71 z71 st71 hQ71
    subst l71 y71 z71
    obtain ⟨rfl, Nq71, e71⟩ := hQ71
    have N71 := Fr.app N23 Nq71
    refine OutW.via st71 ?_
    show OutW _ _ _ _ _ _ _ (T71.setTop (mkF m 114 #[.val (.int p1), .val (.ref b1), .val (.ref s_WEEKLY_AVERAGE_DAILY_LIMIT), .val (.int (0 : Int32))] [(.int (ofW s_WEEKLY_AVERAGE_DAILY_LIMIT s_WALLET_DAILY_CAP))]))
    refine OutW.back (fun t k => XS.iloadN X71.here hx rfl (hb hby at_114) rfl  k) ?_
    show OutW _ _ _ _ _ _ _ (T71.setTop (mkF m 115 #[.val (.int p1), .val (.ref b1), .val (.ref s_WEEKLY_AVERAGE_DAILY_LIMIT), .val (.int (0 : Int32))] [(.int (0 : Int32)), (.int (ofW s_WEEKLY_AVERAGE_DAILY_LIMIT s_WALLET_DAILY_CAP))]))
    obtain ⟨v73, hv_v73⟩ : ∃ z : Int32, z = (if (ofW s_WEEKLY_AVERAGE_DAILY_LIMIT s_WALLET_DAILY_CAP) = (0 : Int32) then (1 : Int32) else (0 : Int32)) := ⟨_, rfl⟩
    have j74 : ∀ t, Steps p.tables e below (T71.setTop (mkF m 123 #[.val (.int p1), .val (.ref b1), .val (.ref s_WEEKLY_AVERAGE_DAILY_LIMIT), .val (.int (0 : Int32))] [(.int v73)])) t → Steps p.tables e below (T71.setTop (mkF m 115 #[.val (.int p1), .val (.ref b1), .val (.ref s_WEEKLY_AVERAGE_DAILY_LIMIT), .val (.int (0 : Int32))] [(.int (0 : Int32)), (.int (ofW s_WEEKLY_AVERAGE_DAILY_LIMIT s_WALLET_DAILY_CAP))])) t := by
      intro t k
      by_cases c115_75 : (ofW s_WEEKLY_AVERAGE_DAILY_LIMIT s_WALLET_DAILY_CAP) = (0 : Int32)
      · skip
        refine XS.icmpNo X71.here hx rfl (hb hby at_115) rfl (teq c115_75).2 ?_
        show Steps p.tables e below (T71.setTop (mkF m 118 #[.val (.int p1), .val (.ref b1), .val (.ref s_WEEKLY_AVERAGE_DAILY_LIMIT), .val (.int (0 : Int32))] [])) t
        refine XS.iconst X71.here hx rfl (hb hby at_118) ?_
        show Steps p.tables e below (T71.setTop (mkF m 119 #[.val (.int p1), .val (.ref b1), .val (.ref s_WEEKLY_AVERAGE_DAILY_LIMIT), .val (.int (0 : Int32))] [(.int (1 : Int32))])) t
        refine XS.goto X71.here hx rfl (pc0 := 119) (pc' := 123) rfl (hb hby at_119) (by decide) (by decide) ?_
        show Steps p.tables e below (T71.setTop (mkF m 123 #[.val (.int p1), .val (.ref b1), .val (.ref s_WEEKLY_AVERAGE_DAILY_LIMIT), .val (.int (0 : Int32))] [(.int (1 : Int32))])) t
        have q_v73 : v73 = (1 : Int32) := by rw [hv_v73, if_pos c115_75]
        rw [q_v73] at k
        exact k
      · skip
        refine XS.icmpYes X71.here hx rfl (pc0 := 115) (pc' := 122) rfl (hb hby at_115) rfl (feq c115_75).2 (by decide) (by decide) ?_
        show Steps p.tables e below (T71.setTop (mkF m 122 #[.val (.int p1), .val (.ref b1), .val (.ref s_WEEKLY_AVERAGE_DAILY_LIMIT), .val (.int (0 : Int32))] [])) t
        refine XS.iconst X71.here hx rfl (hb hby at_122) ?_
        show Steps p.tables e below (T71.setTop (mkF m 123 #[.val (.int p1), .val (.ref b1), .val (.ref s_WEEKLY_AVERAGE_DAILY_LIMIT), .val (.int (0 : Int32))] [(.int (0 : Int32))])) t
        have q_v73 : v73 = (0 : Int32) := by rw [hv_v73, if_neg c115_75]
        rw [q_v73] at k
        exact k
    refine OutW.back j74 ?_
    show OutW _ _ _ _ _ _ _ (T71.setTop (mkF m 123 #[.val (.int p1), .val (.ref b1), .val (.ref s_WEEKLY_AVERAGE_DAILY_LIMIT), .val (.int (0 : Int32))] [(.int v73)]))
    refine OutW.retN X71 hx (t := .boolean) (z' := 1) Bd.returns (by simp) hlk (hb hby at_123) ?hz (by decide) (by decide) ?_
    case hz =>
      have hfin : v73 = (1 : Int32) := by
        rw [hv_v73, ofW]
        simp [ne_s_DAILY_CAP_s_WALLET_DAILY_CAP, ne_s_MONTHLY_CAP_s_WALLET_DAILY_CAP, ne_s_TOTAL_CAP_s_WALLET_DAILY_CAP, ne_s_CHARGE_s_WALLET_DAILY_CAP, ne_s_AMOUNT_s_CAP, ne_s_AVERAGE_DAILY_LIMIT_s_WALLET_DAILY_CAP, ne_s_LIMIT_s_CAP, ne_s_WEEKLY_AVERAGE_DAILY_LIMIT_s_WALLET_DAILY_CAP, ne_s_REMOVE_AVERAGE_DAILY_LIMIT_s_WALLET_DAILY_CAP, ne_s_NONE_s_CAP, ne_s_END_DATE_s_WALLET_DAILY_CAP, ne_s_DATE_s_CAP, ne_s_LIFETIME_BUDGET_s_WALLET_DAILY_CAP, ne_s_WALLET_s_WALLET_DAILY_CAP, ne_s_ReplayEvent_Value_WALLET_s_CAP]
      rw [hfin]; rfl
    show Q0 Z p1 s_DAILY_CAP s_MONTHLY_CAP s_TOTAL_CAP s_CHARGE s_AVERAGE_DAILY_LIMIT s_WEEKLY_AVERAGE_DAILY_LIMIT s_REMOVE_AVERAGE_DAILY_LIMIT s_END_DATE s_LIFETIME_BUDGET s_WALLET_DAILY_CAP s_WALLET s_CAP s_DAILY s_MONTHLY s_TOTAL s_AMOUNT s_LIMIT s_NONE s_DATE s_ReplayEvent_Value_WALLET h0 n0 _ T71.heap _
    rw [e71]
    exact ⟨rfl, N71⟩
  · skip
    show OutW _ _ _ _ _ _ _ (T23.setTop (mkF m 85 #[.val (.int p1), .val (.ref b1), .unset, .unset] [(.int (6 : Int32)), (.ref b1)]))
    obtain ⟨cl76, Ar76, q76, Sz76, Nn76, Hh76, Gg76⟩ := V_b1_23
    have hin76 : ¬ ((6 : Int32) < 0 ∨ cl76.slots.size ≤ ((6 : Int32)).toNatClampNeg) := inb_of Sz76 ⟨by decide, by decide⟩
    refine OutW.back (X23.aaload hx (j := (6 : Int32)) (v := (.ref s_REMOVE_AVERAGE_DAILY_LIMIT)) (by rw [e23]; exact Ar76.1) (State.isArrayOf_alike hZ.alike Ar76.2.1) rfl Ar76.2.2 hin76 (Hh76.at hin76 (by rfl)) (g := (mkF m 85 #[.val (.int p1), .val (.ref b1), .unset, .unset] [(.int (6 : Int32)), (.ref b1)])) rfl rfl (hb hby at_85)) ?_
    show OutW _ _ _ _ _ _ _ (T23.setTop (mkF m 86 #[.val (.int p1), .val (.ref b1), .unset, .unset] [(.ref s_REMOVE_AVERAGE_DAILY_LIMIT)]))
    refine OutW.back (fun t k => XS.astoreN X23.here hx rfl (hb hby at_86) rfl rfl (l' := #[.val (.int p1), .val (.ref b1), .val (.ref s_REMOVE_AVERAGE_DAILY_LIMIT), .unset]) rfl k) ?_
    show OutW _ _ _ _ _ _ _ (T23.setTop (mkF m 87 #[.val (.int p1), .val (.ref b1), .val (.ref s_REMOVE_AVERAGE_DAILY_LIMIT), .unset] []))
    refine OutW.back (fun t k => XS.aloadN X23.here hx rfl (hb hby at_87) rfl rfl  k) ?_
    show OutW _ _ _ _ _ _ _ (T23.setTop (mkF m 88 #[.val (.int p1), .val (.ref b1), .val (.ref s_REMOVE_AVERAGE_DAILY_LIMIT), .unset] [(.ref s_REMOVE_AVERAGE_DAILY_LIMIT)]))
    obtain ⟨T77, X77, e77, st77⟩ := getF X23 hx hZ hown (host := "") (Or.inl (hw _ (List.mem_of_getElem? (i := 27) rfl))) Via.refl e23 F_value_s_REMOVE_AVERAGE_DAILY_LIMIT (g := (mkF m 88 #[.val (.int p1), .val (.ref b1), .val (.ref s_REMOVE_AVERAGE_DAILY_LIMIT), .unset] [(.ref s_REMOVE_AVERAGE_DAILY_LIMIT)])) rfl rfl (hb hby at_88)
    refine OutW.back st77 ?_
    show OutW _ _ _ _ _ _ _ (T77.setTop (mkF m 91 #[.val (.int p1), .val (.ref b1), .val (.ref s_REMOVE_AVERAGE_DAILY_LIMIT), .unset] [(.ref s_NONE)]))
    obtain ⟨T78, X78, e78, st78⟩ := getS2 X77 hx hZ hown (host := "") (Or.inl (hw _ (List.mem_of_getElem? (i := 31) rfl))) Via.refl e77 S_CAP (g := (mkF m 91 #[.val (.int p1), .val (.ref b1), .val (.ref s_REMOVE_AVERAGE_DAILY_LIMIT), .unset] [(.ref s_NONE)])) rfl (hb hby at_91)
    refine OutW.back st78 ?_
    show OutW _ _ _ _ _ _ _ (T78.setTop (mkF m 94 #[.val (.int p1), .val (.ref b1), .val (.ref s_REMOVE_AVERAGE_DAILY_LIMIT), .unset] [(.ref s_CAP), (.ref s_NONE)]))
    refine OutW.back (fun t k => Jvm.RoadKit.acmp (g := (mkF m 94 #[.val (.int p1), .val (.ref b1), .val (.ref s_REMOVE_AVERAGE_DAILY_LIMIT), .unset] [(.ref s_CAP), (.ref s_NONE)])) X78 hx rfl rfl rfl (pc0 := 94) (pc' := 108) (same := false) rfl (hb hby at_94) rfl (decide_eq_false (fun q => ne_s_NONE_s_CAP (Value.ref.inj q))) (by decide) (by decide) k) ?_
    show OutW _ _ _ _ _ _ _ (T78.setTop (mkF m 108 #[.val (.int p1), .val (.ref b1), .val (.ref s_REMOVE_AVERAGE_DAILY_LIMIT), .unset] []))
    refine OutW.back (fun t k => XS.iconst X78.here hx rfl (hb hby at_108) k) ?_
    show OutW _ _ _ _ _ _ _ (T78.setTop (mkF m 109 #[.val (.int p1), .val (.ref b1), .val (.ref s_REMOVE_AVERAGE_DAILY_LIMIT), .unset] [(.int (0 : Int32))]))
    refine OutW.back (fun t k => XS.istoreN X78.here hx rfl (hb hby at_109) rfl (l' := #[.val (.int p1), .val (.ref b1), .val (.ref s_REMOVE_AVERAGE_DAILY_LIMIT), .val (.int (0 : Int32))]) rfl k) ?_
    show OutW _ _ _ _ _ _ _ (T78.setTop (mkF m 110 #[.val (.int p1), .val (.ref b1), .val (.ref s_REMOVE_AVERAGE_DAILY_LIMIT), .val (.int (0 : Int32))] []))
    refine OutW.back (fun t k => XS.aloadN X78.here hx rfl (hb hby at_110) rfl rfl  k) ?_
    show OutW _ _ _ _ _ _ _ (T78.setTop (mkF m 111 #[.val (.int p1), .val (.ref b1), .val (.ref s_REMOVE_AVERAGE_DAILY_LIMIT), .val (.int (0 : Int32))] [(.ref s_REMOVE_AVERAGE_DAILY_LIMIT)]))
    obtain ⟨cq79, kq79, qa79, qb79, qc79⟩ := isOf hZ e78 E_s_REMOVE_AVERAGE_DAILY_LIMIT
    obtain ⟨_, _, ⟨T79, L79, k79, n79⟩, -, X79, ⟨Lc79, hQ79, l79, y79, z79⟩, st79⟩ := X78.virtualBack hx (y := (⟨"com/example/daily_spend_pacer/dailyspendpacer/io/ReplayEvent$Kind", "ofWallet", "()Z"⟩ : MethodName)) (z := (⟨"com/example/daily_spend_pacer/dailyspendpacer/io/ReplayEvent$Kind", "ofWallet", "()Z"⟩ : MethodName)) hown (mvT hZ (hw _ (List.mem_of_getElem? (i := 36) rfl))) (mvT hZ (hw _ (List.mem_of_getElem? (i := 37) rfl))) (notFace_of_selects (args := #[]) (mvT hZ (hw _ (List.mem_of_getElem? (i := 39) rfl)))) (mvT hZ (hw _ (List.mem_of_getElem? (i := 39) rfl))) (mvT hZ (hw _ (List.mem_of_getElem? (i := 38) rfl))) (by decide) (backOf (W := 0) (rm1 l Z a0 hw [] s_REMOVE_AVERAGE_DAILY_LIMIT s_WALLET_DAILY_CAP h23 n0 Z23 S_WALLET_DAILY_CAP) hZ (hw _ (List.mem_of_getElem? (i := 40) rfl)) (hw _ (List.mem_of_getElem? (i := 3) rfl)) (by decide) (by decide)) qa79 qc79 (g := (mkF m 111 #[.val (.int p1), .val (.ref b1), .val (.ref s_REMOVE_AVERAGE_DAILY_LIMIT), .val (.int (0 : Int32))] [(.ref s_REMOVE_AVERAGE_DAILY_LIMIT)])) rfl (by rw [hml]; rfl) (Steps.refl _) (argsL := []) (rest := []) (lenOf pd_0 rfl) rfl (by show 2 * 0 + _ ≤ _; exact Nat.le_of_eq rfl) (hb hby at_111) (fun _ _ => ⟨rfl, e78, (by decide : 1 + 0 ≤ _), (by decide : 11 + 0 ≤ _)⟩)
    dsimp only [Pt.U, Pt.locs, Pt.cells, Pt.slots] at X79 l79 y79 z79 st79 hQ79
    subst l79 y79 z79
    obtain ⟨rfl, Nq79, e79⟩ := hQ79
    have N79 := Fr.app N23 Nq79
    refine OutW.via st79 ?_
    show OutW _ _ _ _ _ _ _ (T79.setTop (mkF m 114 #[.val (.int p1), .val (.ref b1), .val (.ref s_REMOVE_AVERAGE_DAILY_LIMIT), .val (.int (0 : Int32))] [(.int (ofW s_REMOVE_AVERAGE_DAILY_LIMIT s_WALLET_DAILY_CAP))]))
    refine OutW.back (fun t k => XS.iloadN X79.here hx rfl (hb hby at_114) rfl  k) ?_
    show OutW _ _ _ _ _ _ _ (T79.setTop (mkF m 115 #[.val (.int p1), .val (.ref b1), .val (.ref s_REMOVE_AVERAGE_DAILY_LIMIT), .val (.int (0 : Int32))] [(.int (0 : Int32)), (.int (ofW s_REMOVE_AVERAGE_DAILY_LIMIT s_WALLET_DAILY_CAP))]))
    obtain ⟨v81, hv_v81⟩ : ∃ z : Int32, z = (if (ofW s_REMOVE_AVERAGE_DAILY_LIMIT s_WALLET_DAILY_CAP) = (0 : Int32) then (1 : Int32) else (0 : Int32)) := ⟨_, rfl⟩
    have j82 : ∀ t, Steps p.tables e below (T79.setTop (mkF m 123 #[.val (.int p1), .val (.ref b1), .val (.ref s_REMOVE_AVERAGE_DAILY_LIMIT), .val (.int (0 : Int32))] [(.int v81)])) t → Steps p.tables e below (T79.setTop (mkF m 115 #[.val (.int p1), .val (.ref b1), .val (.ref s_REMOVE_AVERAGE_DAILY_LIMIT), .val (.int (0 : Int32))] [(.int (0 : Int32)), (.int (ofW s_REMOVE_AVERAGE_DAILY_LIMIT s_WALLET_DAILY_CAP))])) t := by
      intro t k
      by_cases c115_83 : (ofW s_REMOVE_AVERAGE_DAILY_LIMIT s_WALLET_DAILY_CAP) = (0 : Int32)
      · skip
        refine XS.icmpNo X79.here hx rfl (hb hby at_115) rfl (teq c115_83).2 ?_
        show Steps p.tables e below (T79.setTop (mkF m 118 #[.val (.int p1), .val (.ref b1), .val (.ref s_REMOVE_AVERAGE_DAILY_LIMIT), .val (.int (0 : Int32))] [])) t
        refine XS.iconst X79.here hx rfl (hb hby at_118) ?_
        show Steps p.tables e below (T79.setTop (mkF m 119 #[.val (.int p1), .val (.ref b1), .val (.ref s_REMOVE_AVERAGE_DAILY_LIMIT), .val (.int (0 : Int32))] [(.int (1 : Int32))])) t
        refine XS.goto X79.here hx rfl (pc0 := 119) (pc' := 123) rfl (hb hby at_119) (by decide) (by decide) ?_
        show Steps p.tables e below (T79.setTop (mkF m 123 #[.val (.int p1), .val (.ref b1), .val (.ref s_REMOVE_AVERAGE_DAILY_LIMIT), .val (.int (0 : Int32))] [(.int (1 : Int32))])) t
        have q_v81 : v81 = (1 : Int32) := by rw [hv_v81, if_pos c115_83]
        rw [q_v81] at k
        exact k
      · skip
        refine XS.icmpYes X79.here hx rfl (pc0 := 115) (pc' := 122) rfl (hb hby at_115) rfl (feq c115_83).2 (by decide) (by decide) ?_
        show Steps p.tables e below (T79.setTop (mkF m 122 #[.val (.int p1), .val (.ref b1), .val (.ref s_REMOVE_AVERAGE_DAILY_LIMIT), .val (.int (0 : Int32))] [])) t
        refine XS.iconst X79.here hx rfl (hb hby at_122) ?_
        show Steps p.tables e below (T79.setTop (mkF m 123 #[.val (.int p1), .val (.ref b1), .val (.ref s_REMOVE_AVERAGE_DAILY_LIMIT), .val (.int (0 : Int32))] [(.int (0 : Int32))])) t
        have q_v81 : v81 = (0 : Int32) := by rw [hv_v81, if_neg c115_83]
        rw [q_v81] at k
        exact k
    refine OutW.back j82 ?_
    show OutW _ _ _ _ _ _ _ (T79.setTop (mkF m 123 #[.val (.int p1), .val (.ref b1), .val (.ref s_REMOVE_AVERAGE_DAILY_LIMIT), .val (.int (0 : Int32))] [(.int v81)]))
    refine OutW.retN X79 hx (t := .boolean) (z' := 1) Bd.returns (by simp) hlk (hb hby at_123) ?hz (by decide) (by decide) ?_
    case hz =>
      have hfin : v81 = (1 : Int32) := by
        rw [hv_v81, ofW]
        simp [ne_s_DAILY_CAP_s_WALLET_DAILY_CAP, ne_s_MONTHLY_CAP_s_WALLET_DAILY_CAP, ne_s_TOTAL_CAP_s_WALLET_DAILY_CAP, ne_s_CHARGE_s_WALLET_DAILY_CAP, ne_s_AMOUNT_s_CAP, ne_s_AVERAGE_DAILY_LIMIT_s_WALLET_DAILY_CAP, ne_s_LIMIT_s_CAP, ne_s_WEEKLY_AVERAGE_DAILY_LIMIT_s_WALLET_DAILY_CAP, ne_s_REMOVE_AVERAGE_DAILY_LIMIT_s_WALLET_DAILY_CAP, ne_s_NONE_s_CAP, ne_s_END_DATE_s_WALLET_DAILY_CAP, ne_s_DATE_s_CAP, ne_s_LIFETIME_BUDGET_s_WALLET_DAILY_CAP, ne_s_WALLET_s_WALLET_DAILY_CAP, ne_s_ReplayEvent_Value_WALLET_s_CAP]
      rw [hfin]; rfl
    show Q0 Z p1 s_DAILY_CAP s_MONTHLY_CAP s_TOTAL_CAP s_CHARGE s_AVERAGE_DAILY_LIMIT s_WEEKLY_AVERAGE_DAILY_LIMIT s_REMOVE_AVERAGE_DAILY_LIMIT s_END_DATE s_LIFETIME_BUDGET s_WALLET_DAILY_CAP s_WALLET s_CAP s_DAILY s_MONTHLY s_TOTAL s_AMOUNT s_LIMIT s_NONE s_DATE s_ReplayEvent_Value_WALLET h0 n0 _ T79.heap _
    rw [e79]
    exact ⟨rfl, N79⟩
  · skip
    show OutW _ _ _ _ _ _ _ (T23.setTop (mkF m 85 #[.val (.int p1), .val (.ref b1), .unset, .unset] [(.int (7 : Int32)), (.ref b1)]))
    obtain ⟨cl84, Ar84, q84, Sz84, Nn84, Hh84, Gg84⟩ := V_b1_23
    have hin84 : ¬ ((7 : Int32) < 0 ∨ cl84.slots.size ≤ ((7 : Int32)).toNatClampNeg) := inb_of Sz84 ⟨by decide, by decide⟩
    refine OutW.back (X23.aaload hx (j := (7 : Int32)) (v := (.ref s_END_DATE)) (by rw [e23]; exact Ar84.1) (State.isArrayOf_alike hZ.alike Ar84.2.1) rfl Ar84.2.2 hin84 (Hh84.at hin84 (by rfl)) (g := (mkF m 85 #[.val (.int p1), .val (.ref b1), .unset, .unset] [(.int (7 : Int32)), (.ref b1)])) rfl rfl (hb hby at_85)) ?_
    show OutW _ _ _ _ _ _ _ (T23.setTop (mkF m 86 #[.val (.int p1), .val (.ref b1), .unset, .unset] [(.ref s_END_DATE)]))
    refine OutW.back (fun t k => XS.astoreN X23.here hx rfl (hb hby at_86) rfl rfl (l' := #[.val (.int p1), .val (.ref b1), .val (.ref s_END_DATE), .unset]) rfl k) ?_
    show OutW _ _ _ _ _ _ _ (T23.setTop (mkF m 87 #[.val (.int p1), .val (.ref b1), .val (.ref s_END_DATE), .unset] []))
    refine OutW.back (fun t k => XS.aloadN X23.here hx rfl (hb hby at_87) rfl rfl  k) ?_
    show OutW _ _ _ _ _ _ _ (T23.setTop (mkF m 88 #[.val (.int p1), .val (.ref b1), .val (.ref s_END_DATE), .unset] [(.ref s_END_DATE)]))
    obtain ⟨T85, X85, e85, st85⟩ := getF X23 hx hZ hown (host := "") (Or.inl (hw _ (List.mem_of_getElem? (i := 27) rfl))) Via.refl e23 F_value_s_END_DATE (g := (mkF m 88 #[.val (.int p1), .val (.ref b1), .val (.ref s_END_DATE), .unset] [(.ref s_END_DATE)])) rfl rfl (hb hby at_88)
    refine OutW.back st85 ?_
    show OutW _ _ _ _ _ _ _ (T85.setTop (mkF m 91 #[.val (.int p1), .val (.ref b1), .val (.ref s_END_DATE), .unset] [(.ref s_DATE)]))
    obtain ⟨T86, X86, e86, st86⟩ := getS2 X85 hx hZ hown (host := "") (Or.inl (hw _ (List.mem_of_getElem? (i := 31) rfl))) Via.refl e85 S_CAP (g := (mkF m 91 #[.val (.int p1), .val (.ref b1), .val (.ref s_END_DATE), .unset] [(.ref s_DATE)])) rfl (hb hby at_91)
    refine OutW.back st86 ?_
    show OutW _ _ _ _ _ _ _ (T86.setTop (mkF m 94 #[.val (.int p1), .val (.ref b1), .val (.ref s_END_DATE), .unset] [(.ref s_CAP), (.ref s_DATE)]))
    refine OutW.back (fun t k => Jvm.RoadKit.acmp (g := (mkF m 94 #[.val (.int p1), .val (.ref b1), .val (.ref s_END_DATE), .unset] [(.ref s_CAP), (.ref s_DATE)])) X86 hx rfl rfl rfl (pc0 := 94) (pc' := 108) (same := false) rfl (hb hby at_94) rfl (decide_eq_false (fun q => ne_s_DATE_s_CAP (Value.ref.inj q))) (by decide) (by decide) k) ?_
    show OutW _ _ _ _ _ _ _ (T86.setTop (mkF m 108 #[.val (.int p1), .val (.ref b1), .val (.ref s_END_DATE), .unset] []))
    refine OutW.back (fun t k => XS.iconst X86.here hx rfl (hb hby at_108) k) ?_
    show OutW _ _ _ _ _ _ _ (T86.setTop (mkF m 109 #[.val (.int p1), .val (.ref b1), .val (.ref s_END_DATE), .unset] [(.int (0 : Int32))]))
    refine OutW.back (fun t k => XS.istoreN X86.here hx rfl (hb hby at_109) rfl (l' := #[.val (.int p1), .val (.ref b1), .val (.ref s_END_DATE), .val (.int (0 : Int32))]) rfl k) ?_
    show OutW _ _ _ _ _ _ _ (T86.setTop (mkF m 110 #[.val (.int p1), .val (.ref b1), .val (.ref s_END_DATE), .val (.int (0 : Int32))] []))
    refine OutW.back (fun t k => XS.aloadN X86.here hx rfl (hb hby at_110) rfl rfl  k) ?_
    show OutW _ _ _ _ _ _ _ (T86.setTop (mkF m 111 #[.val (.int p1), .val (.ref b1), .val (.ref s_END_DATE), .val (.int (0 : Int32))] [(.ref s_END_DATE)]))
    obtain ⟨cq87, kq87, qa87, qb87, qc87⟩ := isOf hZ e86 E_s_END_DATE
    obtain ⟨_, _, ⟨T87, L87, k87, n87⟩, -, X87, ⟨Lc87, hQ87, l87, y87, z87⟩, st87⟩ := X86.virtualBack hx (y := (⟨"com/example/daily_spend_pacer/dailyspendpacer/io/ReplayEvent$Kind", "ofWallet", "()Z"⟩ : MethodName)) (z := (⟨"com/example/daily_spend_pacer/dailyspendpacer/io/ReplayEvent$Kind", "ofWallet", "()Z"⟩ : MethodName)) hown (mvT hZ (hw _ (List.mem_of_getElem? (i := 36) rfl))) (mvT hZ (hw _ (List.mem_of_getElem? (i := 37) rfl))) (notFace_of_selects (args := #[]) (mvT hZ (hw _ (List.mem_of_getElem? (i := 39) rfl)))) (mvT hZ (hw _ (List.mem_of_getElem? (i := 39) rfl))) (mvT hZ (hw _ (List.mem_of_getElem? (i := 38) rfl))) (by decide) (backOf (W := 0) (rm1 l Z a0 hw [] s_END_DATE s_WALLET_DAILY_CAP h23 n0 Z23 S_WALLET_DAILY_CAP) hZ (hw _ (List.mem_of_getElem? (i := 40) rfl)) (hw _ (List.mem_of_getElem? (i := 3) rfl)) (by decide) (by decide)) qa87 qc87 (g := (mkF m 111 #[.val (.int p1), .val (.ref b1), .val (.ref s_END_DATE), .val (.int (0 : Int32))] [(.ref s_END_DATE)])) rfl (by rw [hml]; rfl) (Steps.refl _) (argsL := []) (rest := []) (lenOf pd_0 rfl) rfl (by show 2 * 0 + _ ≤ _; exact Nat.le_of_eq rfl) (hb hby at_111) (fun _ _ => ⟨rfl, e86, (by decide : 1 + 0 ≤ _), (by decide : 11 + 0 ≤ _)⟩)
    dsimp only [Pt.U, Pt.locs, Pt.cells, Pt.slots] at X87 l87 y87 z87 st87 hQ87
    subst l87 y87 z87
    obtain ⟨rfl, Nq87, e87⟩ := hQ87
    have N87 := Fr.app N23 Nq87
    refine OutW.via st87 ?_
    show OutW _ _ _ _ _ _ _ (T87.setTop (mkF m 114 #[.val (.int p1), .val (.ref b1), .val (.ref s_END_DATE), .val (.int (0 : Int32))] [(.int (ofW s_END_DATE s_WALLET_DAILY_CAP))]))
    refine OutW.back (fun t k => XS.iloadN X87.here hx rfl (hb hby at_114) rfl  k) ?_
    show OutW _ _ _ _ _ _ _ (T87.setTop (mkF m 115 #[.val (.int p1), .val (.ref b1), .val (.ref s_END_DATE), .val (.int (0 : Int32))] [(.int (0 : Int32)), (.int (ofW s_END_DATE s_WALLET_DAILY_CAP))]))
    obtain ⟨v89, hv_v89⟩ : ∃ z : Int32, z = (if (ofW s_END_DATE s_WALLET_DAILY_CAP) = (0 : Int32) then (1 : Int32) else (0 : Int32)) := ⟨_, rfl⟩
    have j90 : ∀ t, Steps p.tables e below (T87.setTop (mkF m 123 #[.val (.int p1), .val (.ref b1), .val (.ref s_END_DATE), .val (.int (0 : Int32))] [(.int v89)])) t → Steps p.tables e below (T87.setTop (mkF m 115 #[.val (.int p1), .val (.ref b1), .val (.ref s_END_DATE), .val (.int (0 : Int32))] [(.int (0 : Int32)), (.int (ofW s_END_DATE s_WALLET_DAILY_CAP))])) t := by
      intro t k
      by_cases c115_91 : (ofW s_END_DATE s_WALLET_DAILY_CAP) = (0 : Int32)
      · skip
        refine XS.icmpNo X87.here hx rfl (hb hby at_115) rfl (teq c115_91).2 ?_
        show Steps p.tables e below (T87.setTop (mkF m 118 #[.val (.int p1), .val (.ref b1), .val (.ref s_END_DATE), .val (.int (0 : Int32))] [])) t
        refine XS.iconst X87.here hx rfl (hb hby at_118) ?_
        show Steps p.tables e below (T87.setTop (mkF m 119 #[.val (.int p1), .val (.ref b1), .val (.ref s_END_DATE), .val (.int (0 : Int32))] [(.int (1 : Int32))])) t
        refine XS.goto X87.here hx rfl (pc0 := 119) (pc' := 123) rfl (hb hby at_119) (by decide) (by decide) ?_
        show Steps p.tables e below (T87.setTop (mkF m 123 #[.val (.int p1), .val (.ref b1), .val (.ref s_END_DATE), .val (.int (0 : Int32))] [(.int (1 : Int32))])) t
        have q_v89 : v89 = (1 : Int32) := by rw [hv_v89, if_pos c115_91]
        rw [q_v89] at k
        exact k
      · skip
        refine XS.icmpYes X87.here hx rfl (pc0 := 115) (pc' := 122) rfl (hb hby at_115) rfl (feq c115_91).2 (by decide) (by decide) ?_
        show Steps p.tables e below (T87.setTop (mkF m 122 #[.val (.int p1), .val (.ref b1), .val (.ref s_END_DATE), .val (.int (0 : Int32))] [])) t
        refine XS.iconst X87.here hx rfl (hb hby at_122) ?_
        show Steps p.tables e below (T87.setTop (mkF m 123 #[.val (.int p1), .val (.ref b1), .val (.ref s_END_DATE), .val (.int (0 : Int32))] [(.int (0 : Int32))])) t
        have q_v89 : v89 = (0 : Int32) := by rw [hv_v89, if_neg c115_91]
        rw [q_v89] at k
        exact k
    refine OutW.back j90 ?_
    show OutW _ _ _ _ _ _ _ (T87.setTop (mkF m 123 #[.val (.int p1), .val (.ref b1), .val (.ref s_END_DATE), .val (.int (0 : Int32))] [(.int v89)]))
    refine OutW.retN X87 hx (t := .boolean) (z' := 1) Bd.returns (by simp) hlk (hb hby at_123) ?hz (by decide) (by decide) ?_
    case hz =>
      have hfin : v89 = (1 : Int32) := by
        rw [hv_v89, ofW]
        simp [ne_s_DAILY_CAP_s_WALLET_DAILY_CAP, ne_s_MONTHLY_CAP_s_WALLET_DAILY_CAP, ne_s_TOTAL_CAP_s_WALLET_DAILY_CAP, ne_s_CHARGE_s_WALLET_DAILY_CAP, ne_s_AMOUNT_s_CAP, ne_s_AVERAGE_DAILY_LIMIT_s_WALLET_DAILY_CAP, ne_s_LIMIT_s_CAP, ne_s_WEEKLY_AVERAGE_DAILY_LIMIT_s_WALLET_DAILY_CAP, ne_s_REMOVE_AVERAGE_DAILY_LIMIT_s_WALLET_DAILY_CAP, ne_s_NONE_s_CAP, ne_s_END_DATE_s_WALLET_DAILY_CAP, ne_s_DATE_s_CAP, ne_s_LIFETIME_BUDGET_s_WALLET_DAILY_CAP, ne_s_WALLET_s_WALLET_DAILY_CAP, ne_s_ReplayEvent_Value_WALLET_s_CAP]
      rw [hfin]; rfl
    show Q0 Z p1 s_DAILY_CAP s_MONTHLY_CAP s_TOTAL_CAP s_CHARGE s_AVERAGE_DAILY_LIMIT s_WEEKLY_AVERAGE_DAILY_LIMIT s_REMOVE_AVERAGE_DAILY_LIMIT s_END_DATE s_LIFETIME_BUDGET s_WALLET_DAILY_CAP s_WALLET s_CAP s_DAILY s_MONTHLY s_TOTAL s_AMOUNT s_LIMIT s_NONE s_DATE s_ReplayEvent_Value_WALLET h0 n0 _ T87.heap _
    rw [e87]
    exact ⟨rfl, N87⟩
  · skip
    show OutW _ _ _ _ _ _ _ (T23.setTop (mkF m 85 #[.val (.int p1), .val (.ref b1), .unset, .unset] [(.int (8 : Int32)), (.ref b1)]))
    obtain ⟨cl92, Ar92, q92, Sz92, Nn92, Hh92, Gg92⟩ := V_b1_23
    have hin92 : ¬ ((8 : Int32) < 0 ∨ cl92.slots.size ≤ ((8 : Int32)).toNatClampNeg) := inb_of Sz92 ⟨by decide, by decide⟩
    refine OutW.back (X23.aaload hx (j := (8 : Int32)) (v := (.ref s_LIFETIME_BUDGET)) (by rw [e23]; exact Ar92.1) (State.isArrayOf_alike hZ.alike Ar92.2.1) rfl Ar92.2.2 hin92 (Hh92.at hin92 (by rfl)) (g := (mkF m 85 #[.val (.int p1), .val (.ref b1), .unset, .unset] [(.int (8 : Int32)), (.ref b1)])) rfl rfl (hb hby at_85)) ?_
    show OutW _ _ _ _ _ _ _ (T23.setTop (mkF m 86 #[.val (.int p1), .val (.ref b1), .unset, .unset] [(.ref s_LIFETIME_BUDGET)]))
    refine OutW.back (fun t k => XS.astoreN X23.here hx rfl (hb hby at_86) rfl rfl (l' := #[.val (.int p1), .val (.ref b1), .val (.ref s_LIFETIME_BUDGET), .unset]) rfl k) ?_
    show OutW _ _ _ _ _ _ _ (T23.setTop (mkF m 87 #[.val (.int p1), .val (.ref b1), .val (.ref s_LIFETIME_BUDGET), .unset] []))
    refine OutW.back (fun t k => XS.aloadN X23.here hx rfl (hb hby at_87) rfl rfl  k) ?_
    show OutW _ _ _ _ _ _ _ (T23.setTop (mkF m 88 #[.val (.int p1), .val (.ref b1), .val (.ref s_LIFETIME_BUDGET), .unset] [(.ref s_LIFETIME_BUDGET)]))
    obtain ⟨T93, X93, e93, st93⟩ := getF X23 hx hZ hown (host := "") (Or.inl (hw _ (List.mem_of_getElem? (i := 27) rfl))) Via.refl e23 F_value_s_LIFETIME_BUDGET (g := (mkF m 88 #[.val (.int p1), .val (.ref b1), .val (.ref s_LIFETIME_BUDGET), .unset] [(.ref s_LIFETIME_BUDGET)])) rfl rfl (hb hby at_88)
    refine OutW.back st93 ?_
    show OutW _ _ _ _ _ _ _ (T93.setTop (mkF m 91 #[.val (.int p1), .val (.ref b1), .val (.ref s_LIFETIME_BUDGET), .unset] [(.ref s_AMOUNT)]))
    obtain ⟨T94, X94, e94, st94⟩ := getS2 X93 hx hZ hown (host := "") (Or.inl (hw _ (List.mem_of_getElem? (i := 31) rfl))) Via.refl e93 S_CAP (g := (mkF m 91 #[.val (.int p1), .val (.ref b1), .val (.ref s_LIFETIME_BUDGET), .unset] [(.ref s_AMOUNT)])) rfl (hb hby at_91)
    refine OutW.back st94 ?_
    show OutW _ _ _ _ _ _ _ (T94.setTop (mkF m 94 #[.val (.int p1), .val (.ref b1), .val (.ref s_LIFETIME_BUDGET), .unset] [(.ref s_CAP), (.ref s_AMOUNT)]))
    refine OutW.back (fun t k => Jvm.RoadKit.acmp (g := (mkF m 94 #[.val (.int p1), .val (.ref b1), .val (.ref s_LIFETIME_BUDGET), .unset] [(.ref s_CAP), (.ref s_AMOUNT)])) X94 hx rfl rfl rfl (pc0 := 94) (pc' := 108) (same := false) rfl (hb hby at_94) rfl (decide_eq_false (fun q => ne_s_AMOUNT_s_CAP (Value.ref.inj q))) (by decide) (by decide) k) ?_
    show OutW _ _ _ _ _ _ _ (T94.setTop (mkF m 108 #[.val (.int p1), .val (.ref b1), .val (.ref s_LIFETIME_BUDGET), .unset] []))
    refine OutW.back (fun t k => XS.iconst X94.here hx rfl (hb hby at_108) k) ?_
    show OutW _ _ _ _ _ _ _ (T94.setTop (mkF m 109 #[.val (.int p1), .val (.ref b1), .val (.ref s_LIFETIME_BUDGET), .unset] [(.int (0 : Int32))]))
    refine OutW.back (fun t k => XS.istoreN X94.here hx rfl (hb hby at_109) rfl (l' := #[.val (.int p1), .val (.ref b1), .val (.ref s_LIFETIME_BUDGET), .val (.int (0 : Int32))]) rfl k) ?_
    show OutW _ _ _ _ _ _ _ (T94.setTop (mkF m 110 #[.val (.int p1), .val (.ref b1), .val (.ref s_LIFETIME_BUDGET), .val (.int (0 : Int32))] []))
    refine OutW.back (fun t k => XS.aloadN X94.here hx rfl (hb hby at_110) rfl rfl  k) ?_
    show OutW _ _ _ _ _ _ _ (T94.setTop (mkF m 111 #[.val (.int p1), .val (.ref b1), .val (.ref s_LIFETIME_BUDGET), .val (.int (0 : Int32))] [(.ref s_LIFETIME_BUDGET)]))
    obtain ⟨cq95, kq95, qa95, qb95, qc95⟩ := isOf hZ e94 E_s_LIFETIME_BUDGET
    obtain ⟨_, _, ⟨T95, L95, k95, n95⟩, -, X95, ⟨Lc95, hQ95, l95, y95, z95⟩, st95⟩ := X94.virtualBack hx (y := (⟨"com/example/daily_spend_pacer/dailyspendpacer/io/ReplayEvent$Kind", "ofWallet", "()Z"⟩ : MethodName)) (z := (⟨"com/example/daily_spend_pacer/dailyspendpacer/io/ReplayEvent$Kind", "ofWallet", "()Z"⟩ : MethodName)) hown (mvT hZ (hw _ (List.mem_of_getElem? (i := 36) rfl))) (mvT hZ (hw _ (List.mem_of_getElem? (i := 37) rfl))) (notFace_of_selects (args := #[]) (mvT hZ (hw _ (List.mem_of_getElem? (i := 39) rfl)))) (mvT hZ (hw _ (List.mem_of_getElem? (i := 39) rfl))) (mvT hZ (hw _ (List.mem_of_getElem? (i := 38) rfl))) (by decide) (backOf (W := 0) (rm1 l Z a0 hw [] s_LIFETIME_BUDGET s_WALLET_DAILY_CAP h23 n0 Z23 S_WALLET_DAILY_CAP) hZ (hw _ (List.mem_of_getElem? (i := 40) rfl)) (hw _ (List.mem_of_getElem? (i := 3) rfl)) (by decide) (by decide)) qa95 qc95 (g := (mkF m 111 #[.val (.int p1), .val (.ref b1), .val (.ref s_LIFETIME_BUDGET), .val (.int (0 : Int32))] [(.ref s_LIFETIME_BUDGET)])) rfl (by rw [hml]; rfl) (Steps.refl _) (argsL := []) (rest := []) (lenOf pd_0 rfl) rfl (by show 2 * 0 + _ ≤ _; exact Nat.le_of_eq rfl) (hb hby at_111) (fun _ _ => ⟨rfl, e94, (by decide : 1 + 0 ≤ _), (by decide : 11 + 0 ≤ _)⟩)
    dsimp only [Pt.U, Pt.locs, Pt.cells, Pt.slots] at X95 l95 y95 z95 st95 hQ95
    subst l95 y95 z95
    obtain ⟨rfl, Nq95, e95⟩ := hQ95
    have N95 := Fr.app N23 Nq95
    refine OutW.via st95 ?_
    show OutW _ _ _ _ _ _ _ (T95.setTop (mkF m 114 #[.val (.int p1), .val (.ref b1), .val (.ref s_LIFETIME_BUDGET), .val (.int (0 : Int32))] [(.int (ofW s_LIFETIME_BUDGET s_WALLET_DAILY_CAP))]))
    refine OutW.back (fun t k => XS.iloadN X95.here hx rfl (hb hby at_114) rfl  k) ?_
    show OutW _ _ _ _ _ _ _ (T95.setTop (mkF m 115 #[.val (.int p1), .val (.ref b1), .val (.ref s_LIFETIME_BUDGET), .val (.int (0 : Int32))] [(.int (0 : Int32)), (.int (ofW s_LIFETIME_BUDGET s_WALLET_DAILY_CAP))]))
    obtain ⟨v97, hv_v97⟩ : ∃ z : Int32, z = (if (ofW s_LIFETIME_BUDGET s_WALLET_DAILY_CAP) = (0 : Int32) then (1 : Int32) else (0 : Int32)) := ⟨_, rfl⟩
    have j98 : ∀ t, Steps p.tables e below (T95.setTop (mkF m 123 #[.val (.int p1), .val (.ref b1), .val (.ref s_LIFETIME_BUDGET), .val (.int (0 : Int32))] [(.int v97)])) t → Steps p.tables e below (T95.setTop (mkF m 115 #[.val (.int p1), .val (.ref b1), .val (.ref s_LIFETIME_BUDGET), .val (.int (0 : Int32))] [(.int (0 : Int32)), (.int (ofW s_LIFETIME_BUDGET s_WALLET_DAILY_CAP))])) t := by
      intro t k
      by_cases c115_99 : (ofW s_LIFETIME_BUDGET s_WALLET_DAILY_CAP) = (0 : Int32)
      · skip
        refine XS.icmpNo X95.here hx rfl (hb hby at_115) rfl (teq c115_99).2 ?_
        show Steps p.tables e below (T95.setTop (mkF m 118 #[.val (.int p1), .val (.ref b1), .val (.ref s_LIFETIME_BUDGET), .val (.int (0 : Int32))] [])) t
        refine XS.iconst X95.here hx rfl (hb hby at_118) ?_
        show Steps p.tables e below (T95.setTop (mkF m 119 #[.val (.int p1), .val (.ref b1), .val (.ref s_LIFETIME_BUDGET), .val (.int (0 : Int32))] [(.int (1 : Int32))])) t
        refine XS.goto X95.here hx rfl (pc0 := 119) (pc' := 123) rfl (hb hby at_119) (by decide) (by decide) ?_
        show Steps p.tables e below (T95.setTop (mkF m 123 #[.val (.int p1), .val (.ref b1), .val (.ref s_LIFETIME_BUDGET), .val (.int (0 : Int32))] [(.int (1 : Int32))])) t
        have q_v97 : v97 = (1 : Int32) := by rw [hv_v97, if_pos c115_99]
        rw [q_v97] at k
        exact k
      · skip
        refine XS.icmpYes X95.here hx rfl (pc0 := 115) (pc' := 122) rfl (hb hby at_115) rfl (feq c115_99).2 (by decide) (by decide) ?_
        show Steps p.tables e below (T95.setTop (mkF m 122 #[.val (.int p1), .val (.ref b1), .val (.ref s_LIFETIME_BUDGET), .val (.int (0 : Int32))] [])) t
        refine XS.iconst X95.here hx rfl (hb hby at_122) ?_
        show Steps p.tables e below (T95.setTop (mkF m 123 #[.val (.int p1), .val (.ref b1), .val (.ref s_LIFETIME_BUDGET), .val (.int (0 : Int32))] [(.int (0 : Int32))])) t
        have q_v97 : v97 = (0 : Int32) := by rw [hv_v97, if_neg c115_99]
        rw [q_v97] at k
        exact k
    refine OutW.back j98 ?_
    show OutW _ _ _ _ _ _ _ (T95.setTop (mkF m 123 #[.val (.int p1), .val (.ref b1), .val (.ref s_LIFETIME_BUDGET), .val (.int (0 : Int32))] [(.int v97)]))
    refine OutW.retN X95 hx (t := .boolean) (z' := 1) Bd.returns (by simp) hlk (hb hby at_123) ?hz (by decide) (by decide) ?_
    case hz =>
      have hfin : v97 = (1 : Int32) := by
        rw [hv_v97, ofW]
        simp [ne_s_DAILY_CAP_s_WALLET_DAILY_CAP, ne_s_MONTHLY_CAP_s_WALLET_DAILY_CAP, ne_s_TOTAL_CAP_s_WALLET_DAILY_CAP, ne_s_CHARGE_s_WALLET_DAILY_CAP, ne_s_AMOUNT_s_CAP, ne_s_AVERAGE_DAILY_LIMIT_s_WALLET_DAILY_CAP, ne_s_LIMIT_s_CAP, ne_s_WEEKLY_AVERAGE_DAILY_LIMIT_s_WALLET_DAILY_CAP, ne_s_REMOVE_AVERAGE_DAILY_LIMIT_s_WALLET_DAILY_CAP, ne_s_NONE_s_CAP, ne_s_END_DATE_s_WALLET_DAILY_CAP, ne_s_DATE_s_CAP, ne_s_LIFETIME_BUDGET_s_WALLET_DAILY_CAP, ne_s_WALLET_s_WALLET_DAILY_CAP, ne_s_ReplayEvent_Value_WALLET_s_CAP]
      rw [hfin]; rfl
    show Q0 Z p1 s_DAILY_CAP s_MONTHLY_CAP s_TOTAL_CAP s_CHARGE s_AVERAGE_DAILY_LIMIT s_WEEKLY_AVERAGE_DAILY_LIMIT s_REMOVE_AVERAGE_DAILY_LIMIT s_END_DATE s_LIFETIME_BUDGET s_WALLET_DAILY_CAP s_WALLET s_CAP s_DAILY s_MONTHLY s_TOTAL s_AMOUNT s_LIMIT s_NONE s_DATE s_ReplayEvent_Value_WALLET h0 n0 _ T95.heap _
    rw [e95]
    exact ⟨rfl, N95⟩
  · skip
    show OutW _ _ _ _ _ _ _ (T23.setTop (mkF m 85 #[.val (.int p1), .val (.ref b1), .unset, .unset] [(.int (9 : Int32)), (.ref b1)]))
    obtain ⟨cl100, Ar100, q100, Sz100, Nn100, Hh100, Gg100⟩ := V_b1_23
    have hin100 : ¬ ((9 : Int32) < 0 ∨ cl100.slots.size ≤ ((9 : Int32)).toNatClampNeg) := inb_of Sz100 ⟨by decide, by decide⟩
    refine OutW.back (X23.aaload hx (j := (9 : Int32)) (v := (.ref s_WALLET_DAILY_CAP)) (by rw [e23]; exact Ar100.1) (State.isArrayOf_alike hZ.alike Ar100.2.1) rfl Ar100.2.2 hin100 (Hh100.at hin100 (by rfl)) (g := (mkF m 85 #[.val (.int p1), .val (.ref b1), .unset, .unset] [(.int (9 : Int32)), (.ref b1)])) rfl rfl (hb hby at_85)) ?_
    show OutW _ _ _ _ _ _ _ (T23.setTop (mkF m 86 #[.val (.int p1), .val (.ref b1), .unset, .unset] [(.ref s_WALLET_DAILY_CAP)]))
    refine OutW.back (fun t k => XS.astoreN X23.here hx rfl (hb hby at_86) rfl rfl (l' := #[.val (.int p1), .val (.ref b1), .val (.ref s_WALLET_DAILY_CAP), .unset]) rfl k) ?_
    show OutW _ _ _ _ _ _ _ (T23.setTop (mkF m 87 #[.val (.int p1), .val (.ref b1), .val (.ref s_WALLET_DAILY_CAP), .unset] []))
    refine OutW.back (fun t k => XS.aloadN X23.here hx rfl (hb hby at_87) rfl rfl  k) ?_
    show OutW _ _ _ _ _ _ _ (T23.setTop (mkF m 88 #[.val (.int p1), .val (.ref b1), .val (.ref s_WALLET_DAILY_CAP), .unset] [(.ref s_WALLET_DAILY_CAP)]))
    obtain ⟨T101, X101, e101, st101⟩ := getF X23 hx hZ hown (host := "") (Or.inl (hw _ (List.mem_of_getElem? (i := 27) rfl))) Via.refl e23 F_value_s_WALLET_DAILY_CAP (g := (mkF m 88 #[.val (.int p1), .val (.ref b1), .val (.ref s_WALLET_DAILY_CAP), .unset] [(.ref s_WALLET_DAILY_CAP)])) rfl rfl (hb hby at_88)
    refine OutW.back st101 ?_
    show OutW _ _ _ _ _ _ _ (T101.setTop (mkF m 91 #[.val (.int p1), .val (.ref b1), .val (.ref s_WALLET_DAILY_CAP), .unset] [(.ref s_CAP)]))
    obtain ⟨T102, X102, e102, st102⟩ := getS2 X101 hx hZ hown (host := "") (Or.inl (hw _ (List.mem_of_getElem? (i := 31) rfl))) Via.refl e101 S_CAP (g := (mkF m 91 #[.val (.int p1), .val (.ref b1), .val (.ref s_WALLET_DAILY_CAP), .unset] [(.ref s_CAP)])) rfl (hb hby at_91)
    refine OutW.back st102 ?_
    show OutW _ _ _ _ _ _ _ (T102.setTop (mkF m 94 #[.val (.int p1), .val (.ref b1), .val (.ref s_WALLET_DAILY_CAP), .unset] [(.ref s_CAP), (.ref s_CAP)]))
    refine OutW.back (fun t k => Jvm.RoadKit.acmp (g := (mkF m 94 #[.val (.int p1), .val (.ref b1), .val (.ref s_WALLET_DAILY_CAP), .unset] [(.ref s_CAP), (.ref s_CAP)])) X102 hx rfl rfl rfl (pc0 := 94) (pc' := 97) (same := true) rfl (hb hby at_94) rfl (decide_eq_true rfl) (by decide) (by decide) k) ?_
    show OutW _ _ _ _ _ _ _ (T102.setTop (mkF m 97 #[.val (.int p1), .val (.ref b1), .val (.ref s_WALLET_DAILY_CAP), .unset] []))
    refine OutW.back (fun t k => XS.aloadN X102.here hx rfl (hb hby at_97) rfl rfl  k) ?_
    show OutW _ _ _ _ _ _ _ (T102.setTop (mkF m 98 #[.val (.int p1), .val (.ref b1), .val (.ref s_WALLET_DAILY_CAP), .unset] [(.ref s_WALLET_DAILY_CAP)]))
    obtain ⟨T103, X103, e103, st103⟩ := getF X102 hx hZ hown (host := "") (Or.inl (hw _ (List.mem_of_getElem? (i := 32) rfl))) Via.refl e102 F_cap_s_WALLET_DAILY_CAP (g := (mkF m 98 #[.val (.int p1), .val (.ref b1), .val (.ref s_WALLET_DAILY_CAP), .unset] [(.ref s_WALLET_DAILY_CAP)])) rfl rfl (hb hby at_98)
    refine OutW.back st103 ?_
    show OutW _ _ _ _ _ _ _ (T103.setTop (mkF m 101 #[.val (.int p1), .val (.ref b1), .val (.ref s_WALLET_DAILY_CAP), .unset] [.null]))
    refine OutW.back (fun t k => XS.ifnonnullNo X103.here hx rfl (hb hby at_101) rfl k) ?_
    show OutW _ _ _ _ _ _ _ (T103.setTop (mkF m 104 #[.val (.int p1), .val (.ref b1), .val (.ref s_WALLET_DAILY_CAP), .unset] []))
    refine OutW.back (fun t k => XS.iconst X103.here hx rfl (hb hby at_104) k) ?_
    show OutW _ _ _ _ _ _ _ (T103.setTop (mkF m 105 #[.val (.int p1), .val (.ref b1), .val (.ref s_WALLET_DAILY_CAP), .unset] [(.int (1 : Int32))]))
    refine OutW.back (fun t k => XS.goto X103.here hx rfl (pc0 := 105) (pc' := 109) rfl (hb hby at_105) (by decide) (by decide) k) ?_
    show OutW _ _ _ _ _ _ _ (T103.setTop (mkF m 109 #[.val (.int p1), .val (.ref b1), .val (.ref s_WALLET_DAILY_CAP), .unset] [(.int (1 : Int32))]))
    refine OutW.back (fun t k => XS.istoreN X103.here hx rfl (hb hby at_109) rfl (l' := #[.val (.int p1), .val (.ref b1), .val (.ref s_WALLET_DAILY_CAP), .val (.int (1 : Int32))]) rfl k) ?_
    show OutW _ _ _ _ _ _ _ (T103.setTop (mkF m 110 #[.val (.int p1), .val (.ref b1), .val (.ref s_WALLET_DAILY_CAP), .val (.int (1 : Int32))] []))
    refine OutW.back (fun t k => XS.aloadN X103.here hx rfl (hb hby at_110) rfl rfl  k) ?_
    show OutW _ _ _ _ _ _ _ (T103.setTop (mkF m 111 #[.val (.int p1), .val (.ref b1), .val (.ref s_WALLET_DAILY_CAP), .val (.int (1 : Int32))] [(.ref s_WALLET_DAILY_CAP)]))
    obtain ⟨cq104, kq104, qa104, qb104, qc104⟩ := isOf hZ e103 E_s_WALLET_DAILY_CAP
    obtain ⟨_, _, ⟨T104, L104, k104, n104⟩, -, X104, ⟨Lc104, hQ104, l104, y104, z104⟩, st104⟩ := X103.virtualBack hx (y := (⟨"com/example/daily_spend_pacer/dailyspendpacer/io/ReplayEvent$Kind", "ofWallet", "()Z"⟩ : MethodName)) (z := (⟨"com/example/daily_spend_pacer/dailyspendpacer/io/ReplayEvent$Kind", "ofWallet", "()Z"⟩ : MethodName)) hown (mvT hZ (hw _ (List.mem_of_getElem? (i := 36) rfl))) (mvT hZ (hw _ (List.mem_of_getElem? (i := 37) rfl))) (notFace_of_selects (args := #[]) (mvT hZ (hw _ (List.mem_of_getElem? (i := 39) rfl)))) (mvT hZ (hw _ (List.mem_of_getElem? (i := 39) rfl))) (mvT hZ (hw _ (List.mem_of_getElem? (i := 38) rfl))) (by decide) (backOf (W := 0) (rm1 l Z a0 hw [] s_WALLET_DAILY_CAP s_WALLET_DAILY_CAP h23 n0 Z23 S_WALLET_DAILY_CAP) hZ (hw _ (List.mem_of_getElem? (i := 40) rfl)) (hw _ (List.mem_of_getElem? (i := 3) rfl)) (by decide) (by decide)) qa104 qc104 (g := (mkF m 111 #[.val (.int p1), .val (.ref b1), .val (.ref s_WALLET_DAILY_CAP), .val (.int (1 : Int32))] [(.ref s_WALLET_DAILY_CAP)])) rfl (by rw [hml]; rfl) (Steps.refl _) (argsL := []) (rest := []) (lenOf pd_0 rfl) rfl (by show 2 * 0 + _ ≤ _; exact Nat.le_of_eq rfl) (hb hby at_111) (fun _ _ => ⟨rfl, e103, (by decide : 1 + 0 ≤ _), (by decide : 11 + 0 ≤ _)⟩)
    dsimp only [Pt.U, Pt.locs, Pt.cells, Pt.slots] at X104 l104 y104 z104 st104 hQ104
    subst l104 y104 z104
    obtain ⟨rfl, Nq104, e104⟩ := hQ104
    have N104 := Fr.app N23 Nq104
    refine OutW.via st104 ?_
    show OutW _ _ _ _ _ _ _ (T104.setTop (mkF m 114 #[.val (.int p1), .val (.ref b1), .val (.ref s_WALLET_DAILY_CAP), .val (.int (1 : Int32))] [(.int (ofW s_WALLET_DAILY_CAP s_WALLET_DAILY_CAP))]))
    refine OutW.back (fun t k => XS.iloadN X104.here hx rfl (hb hby at_114) rfl  k) ?_
    show OutW _ _ _ _ _ _ _ (T104.setTop (mkF m 115 #[.val (.int p1), .val (.ref b1), .val (.ref s_WALLET_DAILY_CAP), .val (.int (1 : Int32))] [(.int (1 : Int32)), (.int (ofW s_WALLET_DAILY_CAP s_WALLET_DAILY_CAP))]))
    obtain ⟨v106, hv_v106⟩ : ∃ z : Int32, z = (if (ofW s_WALLET_DAILY_CAP s_WALLET_DAILY_CAP) = (1 : Int32) then (1 : Int32) else (0 : Int32)) := ⟨_, rfl⟩
    have j107 : ∀ t, Steps p.tables e below (T104.setTop (mkF m 123 #[.val (.int p1), .val (.ref b1), .val (.ref s_WALLET_DAILY_CAP), .val (.int (1 : Int32))] [(.int v106)])) t → Steps p.tables e below (T104.setTop (mkF m 115 #[.val (.int p1), .val (.ref b1), .val (.ref s_WALLET_DAILY_CAP), .val (.int (1 : Int32))] [(.int (1 : Int32)), (.int (ofW s_WALLET_DAILY_CAP s_WALLET_DAILY_CAP))])) t := by
      intro t k
      by_cases c115_108 : (ofW s_WALLET_DAILY_CAP s_WALLET_DAILY_CAP) = (1 : Int32)
      · skip
        refine XS.icmpNo X104.here hx rfl (hb hby at_115) rfl (teq c115_108).2 ?_
        show Steps p.tables e below (T104.setTop (mkF m 118 #[.val (.int p1), .val (.ref b1), .val (.ref s_WALLET_DAILY_CAP), .val (.int (1 : Int32))] [])) t
        refine XS.iconst X104.here hx rfl (hb hby at_118) ?_
        show Steps p.tables e below (T104.setTop (mkF m 119 #[.val (.int p1), .val (.ref b1), .val (.ref s_WALLET_DAILY_CAP), .val (.int (1 : Int32))] [(.int (1 : Int32))])) t
        refine XS.goto X104.here hx rfl (pc0 := 119) (pc' := 123) rfl (hb hby at_119) (by decide) (by decide) ?_
        show Steps p.tables e below (T104.setTop (mkF m 123 #[.val (.int p1), .val (.ref b1), .val (.ref s_WALLET_DAILY_CAP), .val (.int (1 : Int32))] [(.int (1 : Int32))])) t
        have q_v106 : v106 = (1 : Int32) := by rw [hv_v106, if_pos c115_108]
        rw [q_v106] at k
        exact k
      · skip
        refine XS.icmpYes X104.here hx rfl (pc0 := 115) (pc' := 122) rfl (hb hby at_115) rfl (feq c115_108).2 (by decide) (by decide) ?_
        show Steps p.tables e below (T104.setTop (mkF m 122 #[.val (.int p1), .val (.ref b1), .val (.ref s_WALLET_DAILY_CAP), .val (.int (1 : Int32))] [])) t
        refine XS.iconst X104.here hx rfl (hb hby at_122) ?_
        show Steps p.tables e below (T104.setTop (mkF m 123 #[.val (.int p1), .val (.ref b1), .val (.ref s_WALLET_DAILY_CAP), .val (.int (1 : Int32))] [(.int (0 : Int32))])) t
        have q_v106 : v106 = (0 : Int32) := by rw [hv_v106, if_neg c115_108]
        rw [q_v106] at k
        exact k
    refine OutW.back j107 ?_
    show OutW _ _ _ _ _ _ _ (T104.setTop (mkF m 123 #[.val (.int p1), .val (.ref b1), .val (.ref s_WALLET_DAILY_CAP), .val (.int (1 : Int32))] [(.int v106)]))
    refine OutW.retN X104 hx (t := .boolean) (z' := 1) Bd.returns (by simp) hlk (hb hby at_123) ?hz (by decide) (by decide) ?_
    case hz =>
      have hfin : v106 = (1 : Int32) := by
        rw [hv_v106, ofW]
        simp [ne_s_DAILY_CAP_s_WALLET_DAILY_CAP, ne_s_MONTHLY_CAP_s_WALLET_DAILY_CAP, ne_s_TOTAL_CAP_s_WALLET_DAILY_CAP, ne_s_CHARGE_s_WALLET_DAILY_CAP, ne_s_AMOUNT_s_CAP, ne_s_AVERAGE_DAILY_LIMIT_s_WALLET_DAILY_CAP, ne_s_LIMIT_s_CAP, ne_s_WEEKLY_AVERAGE_DAILY_LIMIT_s_WALLET_DAILY_CAP, ne_s_REMOVE_AVERAGE_DAILY_LIMIT_s_WALLET_DAILY_CAP, ne_s_NONE_s_CAP, ne_s_END_DATE_s_WALLET_DAILY_CAP, ne_s_DATE_s_CAP, ne_s_LIFETIME_BUDGET_s_WALLET_DAILY_CAP, ne_s_WALLET_s_WALLET_DAILY_CAP, ne_s_ReplayEvent_Value_WALLET_s_CAP]
      rw [hfin]; rfl
    show Q0 Z p1 s_DAILY_CAP s_MONTHLY_CAP s_TOTAL_CAP s_CHARGE s_AVERAGE_DAILY_LIMIT s_WEEKLY_AVERAGE_DAILY_LIMIT s_REMOVE_AVERAGE_DAILY_LIMIT s_END_DATE s_LIFETIME_BUDGET s_WALLET_DAILY_CAP s_WALLET s_CAP s_DAILY s_MONTHLY s_TOTAL s_AMOUNT s_LIMIT s_NONE s_DATE s_ReplayEvent_Value_WALLET h0 n0 _ T104.heap _
    rw [e104]
    exact ⟨rfl, N104⟩
  · skip
    show OutW _ _ _ _ _ _ _ (T23.setTop (mkF m 85 #[.val (.int p1), .val (.ref b1), .unset, .unset] [(.int (10 : Int32)), (.ref b1)]))
    obtain ⟨cl109, Ar109, q109, Sz109, Nn109, Hh109, Gg109⟩ := V_b1_23
    have hin109 : ¬ ((10 : Int32) < 0 ∨ cl109.slots.size ≤ ((10 : Int32)).toNatClampNeg) := inb_of Sz109 ⟨by decide, by decide⟩
    refine OutW.back (X23.aaload hx (j := (10 : Int32)) (v := (.ref s_WALLET)) (by rw [e23]; exact Ar109.1) (State.isArrayOf_alike hZ.alike Ar109.2.1) rfl Ar109.2.2 hin109 (Hh109.at hin109 (by rfl)) (g := (mkF m 85 #[.val (.int p1), .val (.ref b1), .unset, .unset] [(.int (10 : Int32)), (.ref b1)])) rfl rfl (hb hby at_85)) ?_
    show OutW _ _ _ _ _ _ _ (T23.setTop (mkF m 86 #[.val (.int p1), .val (.ref b1), .unset, .unset] [(.ref s_WALLET)]))
    refine OutW.back (fun t k => XS.astoreN X23.here hx rfl (hb hby at_86) rfl rfl (l' := #[.val (.int p1), .val (.ref b1), .val (.ref s_WALLET), .unset]) rfl k) ?_
    show OutW _ _ _ _ _ _ _ (T23.setTop (mkF m 87 #[.val (.int p1), .val (.ref b1), .val (.ref s_WALLET), .unset] []))
    refine OutW.back (fun t k => XS.aloadN X23.here hx rfl (hb hby at_87) rfl rfl  k) ?_
    show OutW _ _ _ _ _ _ _ (T23.setTop (mkF m 88 #[.val (.int p1), .val (.ref b1), .val (.ref s_WALLET), .unset] [(.ref s_WALLET)]))
    obtain ⟨T110, X110, e110, st110⟩ := getF X23 hx hZ hown (host := "") (Or.inl (hw _ (List.mem_of_getElem? (i := 27) rfl))) Via.refl e23 F_value_s_WALLET (g := (mkF m 88 #[.val (.int p1), .val (.ref b1), .val (.ref s_WALLET), .unset] [(.ref s_WALLET)])) rfl rfl (hb hby at_88)
    refine OutW.back st110 ?_
    show OutW _ _ _ _ _ _ _ (T110.setTop (mkF m 91 #[.val (.int p1), .val (.ref b1), .val (.ref s_WALLET), .unset] [(.ref s_ReplayEvent_Value_WALLET)]))
    obtain ⟨T111, X111, e111, st111⟩ := getS2 X110 hx hZ hown (host := "") (Or.inl (hw _ (List.mem_of_getElem? (i := 31) rfl))) Via.refl e110 S_CAP (g := (mkF m 91 #[.val (.int p1), .val (.ref b1), .val (.ref s_WALLET), .unset] [(.ref s_ReplayEvent_Value_WALLET)])) rfl (hb hby at_91)
    refine OutW.back st111 ?_
    show OutW _ _ _ _ _ _ _ (T111.setTop (mkF m 94 #[.val (.int p1), .val (.ref b1), .val (.ref s_WALLET), .unset] [(.ref s_CAP), (.ref s_ReplayEvent_Value_WALLET)]))
    refine OutW.back (fun t k => Jvm.RoadKit.acmp (g := (mkF m 94 #[.val (.int p1), .val (.ref b1), .val (.ref s_WALLET), .unset] [(.ref s_CAP), (.ref s_ReplayEvent_Value_WALLET)])) X111 hx rfl rfl rfl (pc0 := 94) (pc' := 108) (same := false) rfl (hb hby at_94) rfl (decide_eq_false (fun q => ne_s_ReplayEvent_Value_WALLET_s_CAP (Value.ref.inj q))) (by decide) (by decide) k) ?_
    show OutW _ _ _ _ _ _ _ (T111.setTop (mkF m 108 #[.val (.int p1), .val (.ref b1), .val (.ref s_WALLET), .unset] []))
    refine OutW.back (fun t k => XS.iconst X111.here hx rfl (hb hby at_108) k) ?_
    show OutW _ _ _ _ _ _ _ (T111.setTop (mkF m 109 #[.val (.int p1), .val (.ref b1), .val (.ref s_WALLET), .unset] [(.int (0 : Int32))]))
    refine OutW.back (fun t k => XS.istoreN X111.here hx rfl (hb hby at_109) rfl (l' := #[.val (.int p1), .val (.ref b1), .val (.ref s_WALLET), .val (.int (0 : Int32))]) rfl k) ?_
    show OutW _ _ _ _ _ _ _ (T111.setTop (mkF m 110 #[.val (.int p1), .val (.ref b1), .val (.ref s_WALLET), .val (.int (0 : Int32))] []))
    refine OutW.back (fun t k => XS.aloadN X111.here hx rfl (hb hby at_110) rfl rfl  k) ?_
    show OutW _ _ _ _ _ _ _ (T111.setTop (mkF m 111 #[.val (.int p1), .val (.ref b1), .val (.ref s_WALLET), .val (.int (0 : Int32))] [(.ref s_WALLET)]))
    obtain ⟨cq112, kq112, qa112, qb112, qc112⟩ := isOf hZ e111 E_s_WALLET
    obtain ⟨_, _, ⟨T112, L112, k112, n112⟩, -, X112, ⟨Lc112, hQ112, l112, y112, z112⟩, st112⟩ := X111.virtualBack hx (y := (⟨"com/example/daily_spend_pacer/dailyspendpacer/io/ReplayEvent$Kind", "ofWallet", "()Z"⟩ : MethodName)) (z := (⟨"com/example/daily_spend_pacer/dailyspendpacer/io/ReplayEvent$Kind", "ofWallet", "()Z"⟩ : MethodName)) hown (mvT hZ (hw _ (List.mem_of_getElem? (i := 36) rfl))) (mvT hZ (hw _ (List.mem_of_getElem? (i := 37) rfl))) (notFace_of_selects (args := #[]) (mvT hZ (hw _ (List.mem_of_getElem? (i := 39) rfl)))) (mvT hZ (hw _ (List.mem_of_getElem? (i := 39) rfl))) (mvT hZ (hw _ (List.mem_of_getElem? (i := 38) rfl))) (by decide) (backOf (W := 0) (rm1 l Z a0 hw [] s_WALLET s_WALLET_DAILY_CAP h23 n0 Z23 S_WALLET_DAILY_CAP) hZ (hw _ (List.mem_of_getElem? (i := 40) rfl)) (hw _ (List.mem_of_getElem? (i := 3) rfl)) (by decide) (by decide)) qa112 qc112 (g := (mkF m 111 #[.val (.int p1), .val (.ref b1), .val (.ref s_WALLET), .val (.int (0 : Int32))] [(.ref s_WALLET)])) rfl (by rw [hml]; rfl) (Steps.refl _) (argsL := []) (rest := []) (lenOf pd_0 rfl) rfl (by show 2 * 0 + _ ≤ _; exact Nat.le_of_eq rfl) (hb hby at_111) (fun _ _ => ⟨rfl, e111, (by decide : 1 + 0 ≤ _), (by decide : 11 + 0 ≤ _)⟩)
    dsimp only [Pt.U, Pt.locs, Pt.cells, Pt.slots] at X112 l112 y112 z112 st112 hQ112
    subst l112 y112 z112
    obtain ⟨rfl, Nq112, e112⟩ := hQ112
    have N112 := Fr.app N23 Nq112
    refine OutW.via st112 ?_
    show OutW _ _ _ _ _ _ _ (T112.setTop (mkF m 114 #[.val (.int p1), .val (.ref b1), .val (.ref s_WALLET), .val (.int (0 : Int32))] [(.int (ofW s_WALLET s_WALLET_DAILY_CAP))]))
    refine OutW.back (fun t k => XS.iloadN X112.here hx rfl (hb hby at_114) rfl  k) ?_
    show OutW _ _ _ _ _ _ _ (T112.setTop (mkF m 115 #[.val (.int p1), .val (.ref b1), .val (.ref s_WALLET), .val (.int (0 : Int32))] [(.int (0 : Int32)), (.int (ofW s_WALLET s_WALLET_DAILY_CAP))]))
    obtain ⟨v114, hv_v114⟩ : ∃ z : Int32, z = (if (ofW s_WALLET s_WALLET_DAILY_CAP) = (0 : Int32) then (1 : Int32) else (0 : Int32)) := ⟨_, rfl⟩
    have j115 : ∀ t, Steps p.tables e below (T112.setTop (mkF m 123 #[.val (.int p1), .val (.ref b1), .val (.ref s_WALLET), .val (.int (0 : Int32))] [(.int v114)])) t → Steps p.tables e below (T112.setTop (mkF m 115 #[.val (.int p1), .val (.ref b1), .val (.ref s_WALLET), .val (.int (0 : Int32))] [(.int (0 : Int32)), (.int (ofW s_WALLET s_WALLET_DAILY_CAP))])) t := by
      intro t k
      by_cases c115_116 : (ofW s_WALLET s_WALLET_DAILY_CAP) = (0 : Int32)
      · skip
        refine XS.icmpNo X112.here hx rfl (hb hby at_115) rfl (teq c115_116).2 ?_
        show Steps p.tables e below (T112.setTop (mkF m 118 #[.val (.int p1), .val (.ref b1), .val (.ref s_WALLET), .val (.int (0 : Int32))] [])) t
        refine XS.iconst X112.here hx rfl (hb hby at_118) ?_
        show Steps p.tables e below (T112.setTop (mkF m 119 #[.val (.int p1), .val (.ref b1), .val (.ref s_WALLET), .val (.int (0 : Int32))] [(.int (1 : Int32))])) t
        refine XS.goto X112.here hx rfl (pc0 := 119) (pc' := 123) rfl (hb hby at_119) (by decide) (by decide) ?_
        show Steps p.tables e below (T112.setTop (mkF m 123 #[.val (.int p1), .val (.ref b1), .val (.ref s_WALLET), .val (.int (0 : Int32))] [(.int (1 : Int32))])) t
        have q_v114 : v114 = (1 : Int32) := by rw [hv_v114, if_pos c115_116]
        rw [q_v114] at k
        exact k
      · skip
        refine XS.icmpYes X112.here hx rfl (pc0 := 115) (pc' := 122) rfl (hb hby at_115) rfl (feq c115_116).2 (by decide) (by decide) ?_
        show Steps p.tables e below (T112.setTop (mkF m 122 #[.val (.int p1), .val (.ref b1), .val (.ref s_WALLET), .val (.int (0 : Int32))] [])) t
        refine XS.iconst X112.here hx rfl (hb hby at_122) ?_
        show Steps p.tables e below (T112.setTop (mkF m 123 #[.val (.int p1), .val (.ref b1), .val (.ref s_WALLET), .val (.int (0 : Int32))] [(.int (0 : Int32))])) t
        have q_v114 : v114 = (0 : Int32) := by rw [hv_v114, if_neg c115_116]
        rw [q_v114] at k
        exact k
    refine OutW.back j115 ?_
    show OutW _ _ _ _ _ _ _ (T112.setTop (mkF m 123 #[.val (.int p1), .val (.ref b1), .val (.ref s_WALLET), .val (.int (0 : Int32))] [(.int v114)]))
    refine OutW.retN X112 hx (t := .boolean) (z' := 1) Bd.returns (by simp) hlk (hb hby at_123) ?hz (by decide) (by decide) ?_
    case hz =>
      have hfin : v114 = (1 : Int32) := by
        rw [hv_v114, ofW]
        simp [ne_s_DAILY_CAP_s_WALLET_DAILY_CAP, ne_s_MONTHLY_CAP_s_WALLET_DAILY_CAP, ne_s_TOTAL_CAP_s_WALLET_DAILY_CAP, ne_s_CHARGE_s_WALLET_DAILY_CAP, ne_s_AMOUNT_s_CAP, ne_s_AVERAGE_DAILY_LIMIT_s_WALLET_DAILY_CAP, ne_s_LIMIT_s_CAP, ne_s_WEEKLY_AVERAGE_DAILY_LIMIT_s_WALLET_DAILY_CAP, ne_s_REMOVE_AVERAGE_DAILY_LIMIT_s_WALLET_DAILY_CAP, ne_s_NONE_s_CAP, ne_s_END_DATE_s_WALLET_DAILY_CAP, ne_s_DATE_s_CAP, ne_s_LIFETIME_BUDGET_s_WALLET_DAILY_CAP, ne_s_WALLET_s_WALLET_DAILY_CAP, ne_s_ReplayEvent_Value_WALLET_s_CAP]
      rw [hfin]; rfl
    show Q0 Z p1 s_DAILY_CAP s_MONTHLY_CAP s_TOTAL_CAP s_CHARGE s_AVERAGE_DAILY_LIMIT s_WEEKLY_AVERAGE_DAILY_LIMIT s_REMOVE_AVERAGE_DAILY_LIMIT s_END_DATE s_LIFETIME_BUDGET s_WALLET_DAILY_CAP s_WALLET s_CAP s_DAILY s_MONTHLY s_TOTAL s_AMOUNT s_LIMIT s_NONE s_DATE s_ReplayEvent_Value_WALLET h0 n0 _ T112.heap _
    rw [e112]
    exact ⟨rfl, N112⟩
set_option maxRecDepth 65536 in
set_option maxHeartbeats 40000000 in
theorem comes_1 {Post : Tables → Env → Array Value → State → Outcome → State → Prop} (hpost : ∀ tb e args s v u, (limb_1_1.after args s (.returned v) u = true ∧ limb_1_2.after args s (.returned v) u = true ∧ True) → FrameEnd s (.returned v) u (Jvm.fieldLocs frame_1_writes args s ++ Jvm.arrayLocs frame_1_arrays args s ++ Jvm.staticLocs frame_1_statics s) 16 128 → Post tb e args s (.returned v) u) :
    ArmFor flags0 classFile x code maxLocals ret World_1 tables_1 room_1 Calls_1 rest_1 Pre_1 Post := by
  intro l hfl _ _ p e ha hc hk s m args below hf hA hF happ hP
  obtain ⟨hcalls, hrest, hpre⟩ := hP
  obtain ⟨-, -, -, hnamed, -, -, -, hat⟩ := (Spec.applies_iff hf).mp happ
  obtain ⟨hg, hn⟩ := and_e (Cond.before_iff.mp (show (Jvm.Cond.and given_1 narrow_1).before args s = true from hpre))
  obtain ⟨hcount, hg0⟩ := and_e hg
  have ga0 := hg0
  obtain ⟨w0, rfl⟩ : ∃ w0 : Value, args = #[w0] := by
    have hs : args.size = 1 := by simpa [Cond.value, given_1] using hcount
    obtain ⟨L⟩ := args
    match L, hs with
    | [w0], _ => exact ⟨w0, rfl⟩
  have hw := fun d (hd : d ∈ tables_1) => atoms_spec (ws := Jvm.Cond.code x code maxLocals ret :: tables_1) hat d (List.mem_cons_of_mem _ hd)
  obtain ⟨i0, ei0⟩ := is_v ga0
  obtain rfl : w0 = (.int i0) := Option.some.inj ei0
  obtain ⟨na0, nr0⟩ := and_e hn
  obtain ⟨na1, nr1⟩ := and_e nr0
  obtain ⟨na2, nr2⟩ := and_e nr1
  obtain ⟨na3, nr3⟩ := and_e nr2
  obtain ⟨na4, nr4⟩ := and_e nr3
  obtain ⟨na5, nr5⟩ := and_e nr4
  obtain ⟨na6, nr6⟩ := and_e nr5
  obtain ⟨na7, nr7⟩ := and_e nr6
  obtain ⟨na8, nr8⟩ := and_e nr7
  obtain ⟨na9, nr9⟩ := and_e nr8
  obtain ⟨na10, nr10⟩ := and_e nr9
  obtain ⟨na11, nr11⟩ := and_e nr10
  obtain ⟨na12, nr12⟩ := and_e nr11
  obtain ⟨na13, nr13⟩ := and_e nr12
  obtain ⟨na14, nr14⟩ := and_e nr13
  obtain ⟨na15, nr15⟩ := and_e nr14
  obtain ⟨na16, nr16⟩ := and_e nr15
  obtain ⟨na17, nr17⟩ := and_e nr16
  obtain ⟨na18, nr18⟩ := and_e nr17
  obtain ⟨na19, nr19⟩ := and_e nr18
  obtain ⟨na20, nr20⟩ := and_e nr19
  obtain ⟨na21, nr21⟩ := and_e nr20
  obtain ⟨na22, nr22⟩ := and_e nr21
  obtain ⟨na23, nr23⟩ := and_e nr22
  obtain ⟨na24, nr24⟩ := and_e nr23
  obtain ⟨na25, nr25⟩ := and_e nr24
  obtain ⟨na26, nr26⟩ := and_e nr25
  obtain ⟨na27, nr27⟩ := and_e nr26
  obtain ⟨na28, nr28⟩ := and_e nr27
  obtain ⟨na29, nr29⟩ := and_e nr28
  obtain ⟨na30, nr30⟩ := and_e nr29
  obtain ⟨na31, nr31⟩ := and_e nr30
  obtain ⟨na32, nr32⟩ := and_e nr31
  obtain ⟨na33, nr33⟩ := and_e nr32
  obtain ⟨na34, nr34⟩ := and_e nr33
  obtain ⟨na35, nr35⟩ := and_e nr34
  obtain ⟨na36, nr36⟩ := and_e nr35
  obtain ⟨na37, nr37⟩ := and_e nr36
  obtain ⟨na38, nr38⟩ := and_e nr37
  obtain ⟨na39, nr39⟩ := and_e nr38
  obtain ⟨na40, nr40⟩ := and_e nr39
  obtain ⟨na41, nr41⟩ := and_e nr40
  obtain ⟨na42, nr42⟩ := and_e nr41
  obtain ⟨na43, nr43⟩ := and_e nr42
  obtain ⟨na44, nr44⟩ := and_e nr43
  obtain ⟨na45, nr45⟩ := and_e nr44
  obtain ⟨na46, nr46⟩ := and_e nr45
  obtain ⟨na47, nr47⟩ := and_e nr46
  obtain ⟨na48, nr48⟩ := and_e nr47
  obtain ⟨na49, nr49⟩ := and_e nr48
  obtain ⟨na50, nr50⟩ := and_e nr49
  obtain ⟨na51, nr51⟩ := and_e nr50
  obtain ⟨na52, nr52⟩ := and_e nr51
  obtain ⟨na53, nr53⟩ := and_e nr52
  obtain ⟨na54, nr54⟩ := and_e nr53
  obtain ⟨na55, nr55⟩ := and_e nr54
  obtain ⟨na56, nr56⟩ := and_e nr55
  obtain ⟨na57, nr57⟩ := and_e nr56
  obtain ⟨s_DAILY_CAP, es_DAILY_CAP⟩ := exa_v na0
  have Ss_DAILY_CAP : Sta s s.heap "com/example/daily_spend_pacer/dailyspendpacer/io/ReplayEvent$Kind" "DAILY_CAP" "Lcom/example/daily_spend_pacer/dailyspendpacer/io/ReplayEvent$Kind;" (.ref s_DAILY_CAP) := Sta.start es_DAILY_CAP (Or.inr ⟨(hw _ (List.mem_of_getElem? (i := 3) rfl)), (hw _ (List.mem_of_getElem? (i := 4) rfl))⟩)
  have Es_DAILY_CAP : Exa s s.heap s_DAILY_CAP "com/example/daily_spend_pacer/dailyspendpacer/io/ReplayEvent$Kind" := Exa.start es_DAILY_CAP na0
  obtain ⟨s_MONTHLY_CAP, es_MONTHLY_CAP⟩ := exa_v na1
  have Ss_MONTHLY_CAP : Sta s s.heap "com/example/daily_spend_pacer/dailyspendpacer/io/ReplayEvent$Kind" "MONTHLY_CAP" "Lcom/example/daily_spend_pacer/dailyspendpacer/io/ReplayEvent$Kind;" (.ref s_MONTHLY_CAP) := Sta.start es_MONTHLY_CAP (Or.inr ⟨(hw _ (List.mem_of_getElem? (i := 3) rfl)), (hw _ (List.mem_of_getElem? (i := 7) rfl))⟩)
  have Es_MONTHLY_CAP : Exa s s.heap s_MONTHLY_CAP "com/example/daily_spend_pacer/dailyspendpacer/io/ReplayEvent$Kind" := Exa.start es_MONTHLY_CAP na1
  obtain ⟨s_TOTAL_CAP, es_TOTAL_CAP⟩ := exa_v na2
  have Ss_TOTAL_CAP : Sta s s.heap "com/example/daily_spend_pacer/dailyspendpacer/io/ReplayEvent$Kind" "TOTAL_CAP" "Lcom/example/daily_spend_pacer/dailyspendpacer/io/ReplayEvent$Kind;" (.ref s_TOTAL_CAP) := Sta.start es_TOTAL_CAP (Or.inr ⟨(hw _ (List.mem_of_getElem? (i := 3) rfl)), (hw _ (List.mem_of_getElem? (i := 9) rfl))⟩)
  have Es_TOTAL_CAP : Exa s s.heap s_TOTAL_CAP "com/example/daily_spend_pacer/dailyspendpacer/io/ReplayEvent$Kind" := Exa.start es_TOTAL_CAP na2
  obtain ⟨s_CHARGE, es_CHARGE⟩ := exa_v na3
  have Ss_CHARGE : Sta s s.heap "com/example/daily_spend_pacer/dailyspendpacer/io/ReplayEvent$Kind" "CHARGE" "Lcom/example/daily_spend_pacer/dailyspendpacer/io/ReplayEvent$Kind;" (.ref s_CHARGE) := Sta.start es_CHARGE (Or.inr ⟨(hw _ (List.mem_of_getElem? (i := 3) rfl)), (hw _ (List.mem_of_getElem? (i := 11) rfl))⟩)
  have Es_CHARGE : Exa s s.heap s_CHARGE "com/example/daily_spend_pacer/dailyspendpacer/io/ReplayEvent$Kind" := Exa.start es_CHARGE na3
  obtain ⟨s_AVERAGE_DAILY_LIMIT, es_AVERAGE_DAILY_LIMIT⟩ := exa_v na4
  have Ss_AVERAGE_DAILY_LIMIT : Sta s s.heap "com/example/daily_spend_pacer/dailyspendpacer/io/ReplayEvent$Kind" "AVERAGE_DAILY_LIMIT" "Lcom/example/daily_spend_pacer/dailyspendpacer/io/ReplayEvent$Kind;" (.ref s_AVERAGE_DAILY_LIMIT) := Sta.start es_AVERAGE_DAILY_LIMIT (Or.inr ⟨(hw _ (List.mem_of_getElem? (i := 3) rfl)), (hw _ (List.mem_of_getElem? (i := 13) rfl))⟩)
  have Es_AVERAGE_DAILY_LIMIT : Exa s s.heap s_AVERAGE_DAILY_LIMIT "com/example/daily_spend_pacer/dailyspendpacer/io/ReplayEvent$Kind" := Exa.start es_AVERAGE_DAILY_LIMIT na4
  obtain ⟨s_WEEKLY_AVERAGE_DAILY_LIMIT, es_WEEKLY_AVERAGE_DAILY_LIMIT⟩ := exa_v na5
  have Ss_WEEKLY_AVERAGE_DAILY_LIMIT : Sta s s.heap "com/example/daily_spend_pacer/dailyspendpacer/io/ReplayEvent$Kind" "WEEKLY_AVERAGE_DAILY_LIMIT" "Lcom/example/daily_spend_pacer/dailyspendpacer/io/ReplayEvent$Kind;" (.ref s_WEEKLY_AVERAGE_DAILY_LIMIT) := Sta.start es_WEEKLY_AVERAGE_DAILY_LIMIT (Or.inr ⟨(hw _ (List.mem_of_getElem? (i := 3) rfl)), (hw _ (List.mem_of_getElem? (i := 15) rfl))⟩)
  have Es_WEEKLY_AVERAGE_DAILY_LIMIT : Exa s s.heap s_WEEKLY_AVERAGE_DAILY_LIMIT "com/example/daily_spend_pacer/dailyspendpacer/io/ReplayEvent$Kind" := Exa.start es_WEEKLY_AVERAGE_DAILY_LIMIT na5
  obtain ⟨s_REMOVE_AVERAGE_DAILY_LIMIT, es_REMOVE_AVERAGE_DAILY_LIMIT⟩ := exa_v na6
  have Ss_REMOVE_AVERAGE_DAILY_LIMIT : Sta s s.heap "com/example/daily_spend_pacer/dailyspendpacer/io/ReplayEvent$Kind" "REMOVE_AVERAGE_DAILY_LIMIT" "Lcom/example/daily_spend_pacer/dailyspendpacer/io/ReplayEvent$Kind;" (.ref s_REMOVE_AVERAGE_DAILY_LIMIT) := Sta.start es_REMOVE_AVERAGE_DAILY_LIMIT (Or.inr ⟨(hw _ (List.mem_of_getElem? (i := 3) rfl)), (hw _ (List.mem_of_getElem? (i := 17) rfl))⟩)
  have Es_REMOVE_AVERAGE_DAILY_LIMIT : Exa s s.heap s_REMOVE_AVERAGE_DAILY_LIMIT "com/example/daily_spend_pacer/dailyspendpacer/io/ReplayEvent$Kind" := Exa.start es_REMOVE_AVERAGE_DAILY_LIMIT na6
  obtain ⟨s_END_DATE, es_END_DATE⟩ := exa_v na7
  have Ss_END_DATE : Sta s s.heap "com/example/daily_spend_pacer/dailyspendpacer/io/ReplayEvent$Kind" "END_DATE" "Lcom/example/daily_spend_pacer/dailyspendpacer/io/ReplayEvent$Kind;" (.ref s_END_DATE) := Sta.start es_END_DATE (Or.inr ⟨(hw _ (List.mem_of_getElem? (i := 3) rfl)), (hw _ (List.mem_of_getElem? (i := 19) rfl))⟩)
  have Es_END_DATE : Exa s s.heap s_END_DATE "com/example/daily_spend_pacer/dailyspendpacer/io/ReplayEvent$Kind" := Exa.start es_END_DATE na7
  obtain ⟨s_LIFETIME_BUDGET, es_LIFETIME_BUDGET⟩ := exa_v na8
  have Ss_LIFETIME_BUDGET : Sta s s.heap "com/example/daily_spend_pacer/dailyspendpacer/io/ReplayEvent$Kind" "LIFETIME_BUDGET" "Lcom/example/daily_spend_pacer/dailyspendpacer/io/ReplayEvent$Kind;" (.ref s_LIFETIME_BUDGET) := Sta.start es_LIFETIME_BUDGET (Or.inr ⟨(hw _ (List.mem_of_getElem? (i := 3) rfl)), (hw _ (List.mem_of_getElem? (i := 21) rfl))⟩)
  have Es_LIFETIME_BUDGET : Exa s s.heap s_LIFETIME_BUDGET "com/example/daily_spend_pacer/dailyspendpacer/io/ReplayEvent$Kind" := Exa.start es_LIFETIME_BUDGET na8
  obtain ⟨s_WALLET_DAILY_CAP, es_WALLET_DAILY_CAP⟩ := exa_v na9
  have Ss_WALLET_DAILY_CAP : Sta s s.heap "com/example/daily_spend_pacer/dailyspendpacer/io/ReplayEvent$Kind" "WALLET_DAILY_CAP" "Lcom/example/daily_spend_pacer/dailyspendpacer/io/ReplayEvent$Kind;" (.ref s_WALLET_DAILY_CAP) := Sta.start es_WALLET_DAILY_CAP (Or.inr ⟨(hw _ (List.mem_of_getElem? (i := 3) rfl)), (hw _ (List.mem_of_getElem? (i := 23) rfl))⟩)
  have Es_WALLET_DAILY_CAP : Exa s s.heap s_WALLET_DAILY_CAP "com/example/daily_spend_pacer/dailyspendpacer/io/ReplayEvent$Kind" := Exa.start es_WALLET_DAILY_CAP na9
  obtain ⟨s_WALLET, es_WALLET⟩ := exa_v na10
  have Ss_WALLET : Sta s s.heap "com/example/daily_spend_pacer/dailyspendpacer/io/ReplayEvent$Kind" "WALLET" "Lcom/example/daily_spend_pacer/dailyspendpacer/io/ReplayEvent$Kind;" (.ref s_WALLET) := Sta.start es_WALLET (Or.inr ⟨(hw _ (List.mem_of_getElem? (i := 3) rfl)), (hw _ (List.mem_of_getElem? (i := 25) rfl))⟩)
  have Es_WALLET : Exa s s.heap s_WALLET "com/example/daily_spend_pacer/dailyspendpacer/io/ReplayEvent$Kind" := Exa.start es_WALLET na10
  obtain ⟨s_CAP, es_CAP⟩ := exa_v na11
  have Ss_CAP : Sta s s.heap "com/example/daily_spend_pacer/dailyspendpacer/io/ReplayEvent$Value" "CAP" "Lcom/example/daily_spend_pacer/dailyspendpacer/io/ReplayEvent$Value;" (.ref s_CAP) := Sta.start es_CAP (Or.inr ⟨(hw _ (List.mem_of_getElem? (i := 29) rfl)), (hw _ (List.mem_of_getElem? (i := 30) rfl))⟩)
  have Es_CAP : Exa s s.heap s_CAP "com/example/daily_spend_pacer/dailyspendpacer/io/ReplayEvent$Value" := Exa.start es_CAP na11
  obtain ⟨s_DAILY, es_DAILY⟩ := exa_v na13
  have Ss_DAILY : Sta s s.heap "com/example/daily_spend_pacer/dailyspendpacer/model/HardCap" "DAILY" "Lcom/example/daily_spend_pacer/dailyspendpacer/model/HardCap;" (.ref s_DAILY) := Sta.start es_DAILY (Or.inr ⟨(hw _ (List.mem_of_getElem? (i := 34) rfl)), (hw _ (List.mem_of_getElem? (i := 35) rfl))⟩)
  have Es_DAILY : Exa s s.heap s_DAILY "com/example/daily_spend_pacer/dailyspendpacer/model/HardCap" := Exa.start es_DAILY na13
  obtain ⟨s_AMOUNT, es_AMOUNT⟩ := exa_v na17
  have Ss_AMOUNT : Sta s s.heap "com/example/daily_spend_pacer/dailyspendpacer/io/ReplayEvent$Value" "AMOUNT" "Lcom/example/daily_spend_pacer/dailyspendpacer/io/ReplayEvent$Value;" (.ref s_AMOUNT) := Sta.start es_AMOUNT (Or.inr ⟨(hw _ (List.mem_of_getElem? (i := 29) rfl)), (hw _ (List.mem_of_getElem? (i := 42) rfl))⟩)
  have Es_AMOUNT : Exa s s.heap s_AMOUNT "com/example/daily_spend_pacer/dailyspendpacer/io/ReplayEvent$Value" := Exa.start es_AMOUNT na17
  obtain ⟨s_DATE, es_DATE⟩ := exa_v na22
  have Ss_DATE : Sta s s.heap "com/example/daily_spend_pacer/dailyspendpacer/io/ReplayEvent$Value" "DATE" "Lcom/example/daily_spend_pacer/dailyspendpacer/io/ReplayEvent$Value;" (.ref s_DATE) := Sta.start es_DATE (Or.inr ⟨(hw _ (List.mem_of_getElem? (i := 29) rfl)), (hw _ (List.mem_of_getElem? (i := 43) rfl))⟩)
  have Es_DATE : Exa s s.heap s_DATE "com/example/daily_spend_pacer/dailyspendpacer/io/ReplayEvent$Value" := Exa.start es_DATE na22
  obtain ⟨s_TOTAL, es_TOTAL⟩ := exa_v na29
  have Ss_TOTAL : Sta s s.heap "com/example/daily_spend_pacer/dailyspendpacer/model/HardCap" "TOTAL" "Lcom/example/daily_spend_pacer/dailyspendpacer/model/HardCap;" (.ref s_TOTAL) := Sta.start es_TOTAL (Or.inr ⟨(hw _ (List.mem_of_getElem? (i := 34) rfl)), (hw _ (List.mem_of_getElem? (i := 44) rfl))⟩)
  have Es_TOTAL : Exa s s.heap s_TOTAL "com/example/daily_spend_pacer/dailyspendpacer/model/HardCap" := Exa.start es_TOTAL na29
  obtain ⟨s_ReplayEvent_Value_WALLET, es_ReplayEvent_Value_WALLET⟩ := exa_v na32
  have Ss_ReplayEvent_Value_WALLET : Sta s s.heap "com/example/daily_spend_pacer/dailyspendpacer/io/ReplayEvent$Value" "WALLET" "Lcom/example/daily_spend_pacer/dailyspendpacer/io/ReplayEvent$Value;" (.ref s_ReplayEvent_Value_WALLET) := Sta.start es_ReplayEvent_Value_WALLET (Or.inr ⟨(hw _ (List.mem_of_getElem? (i := 29) rfl)), (hw _ (List.mem_of_getElem? (i := 45) rfl))⟩)
  have Es_ReplayEvent_Value_WALLET : Exa s s.heap s_ReplayEvent_Value_WALLET "com/example/daily_spend_pacer/dailyspendpacer/io/ReplayEvent$Value" := Exa.start es_ReplayEvent_Value_WALLET na32
  obtain ⟨s_MONTHLY, es_MONTHLY⟩ := exa_v na37
  have Ss_MONTHLY : Sta s s.heap "com/example/daily_spend_pacer/dailyspendpacer/model/HardCap" "MONTHLY" "Lcom/example/daily_spend_pacer/dailyspendpacer/model/HardCap;" (.ref s_MONTHLY) := Sta.start es_MONTHLY (Or.inr ⟨(hw _ (List.mem_of_getElem? (i := 34) rfl)), (hw _ (List.mem_of_getElem? (i := 46) rfl))⟩)
  have Es_MONTHLY : Exa s s.heap s_MONTHLY "com/example/daily_spend_pacer/dailyspendpacer/model/HardCap" := Exa.start es_MONTHLY na37
  obtain ⟨s_LIMIT, es_LIMIT⟩ := exa_v na42
  have Ss_LIMIT : Sta s s.heap "com/example/daily_spend_pacer/dailyspendpacer/io/ReplayEvent$Value" "LIMIT" "Lcom/example/daily_spend_pacer/dailyspendpacer/io/ReplayEvent$Value;" (.ref s_LIMIT) := Sta.start es_LIMIT (Or.inr ⟨(hw _ (List.mem_of_getElem? (i := 29) rfl)), (hw _ (List.mem_of_getElem? (i := 47) rfl))⟩)
  have Es_LIMIT : Exa s s.heap s_LIMIT "com/example/daily_spend_pacer/dailyspendpacer/io/ReplayEvent$Value" := Exa.start es_LIMIT na42
  obtain ⟨s_NONE, es_NONE⟩ := exa_v na46
  have Ss_NONE : Sta s s.heap "com/example/daily_spend_pacer/dailyspendpacer/io/ReplayEvent$Value" "NONE" "Lcom/example/daily_spend_pacer/dailyspendpacer/io/ReplayEvent$Value;" (.ref s_NONE) := Sta.start es_NONE (Or.inr ⟨(hw _ (List.mem_of_getElem? (i := 29) rfl)), (hw _ (List.mem_of_getElem? (i := 48) rfl))⟩)
  have Es_NONE : Exa s s.heap s_NONE "com/example/daily_spend_pacer/dailyspendpacer/io/ReplayEvent$Value" := Exa.start es_NONE na46
  have N_value_s_DAILY_CAP : Fld s s.heap s_DAILY_CAP "com/example/daily_spend_pacer/dailyspendpacer/io/ReplayEvent$Kind" "value" "Lcom/example/daily_spend_pacer/dailyspendpacer/io/ReplayEvent$Value;" (.ref s_CAP) := own_fldR es_DAILY_CAP es_CAP na12
  have N_cap_s_DAILY_CAP : Fld s s.heap s_DAILY_CAP "com/example/daily_spend_pacer/dailyspendpacer/io/ReplayEvent$Kind" "cap" "Lcom/example/daily_spend_pacer/dailyspendpacer/model/HardCap;" (.ref s_DAILY) := own_fldR es_DAILY_CAP es_DAILY na14
  have N_ordinal_s_DAILY_CAP : Fld s s.heap s_DAILY_CAP "java/lang/Enum" "ordinal" "I" (.int (0 : Int32)) := own_fldI es_DAILY_CAP na15
  have N_ordinal_s_WALLET_DAILY_CAP : Fld s s.heap s_WALLET_DAILY_CAP "java/lang/Enum" "ordinal" "I" (.int (9 : Int32)) := own_fldI es_WALLET_DAILY_CAP na16
  have N_value_s_CHARGE : Fld s s.heap s_CHARGE "com/example/daily_spend_pacer/dailyspendpacer/io/ReplayEvent$Kind" "value" "Lcom/example/daily_spend_pacer/dailyspendpacer/io/ReplayEvent$Value;" (.ref s_AMOUNT) := own_fldR es_CHARGE es_AMOUNT na18
  have N_ordinal_s_AMOUNT : Fld s s.heap s_AMOUNT "java/lang/Enum" "ordinal" "I" (.int (1 : Int32)) := own_fldI es_AMOUNT na19
  have N_ordinal_s_CAP : Fld s s.heap s_CAP "java/lang/Enum" "ordinal" "I" (.int (0 : Int32)) := own_fldI es_CAP na20
  have N_ordinal_s_CHARGE : Fld s s.heap s_CHARGE "java/lang/Enum" "ordinal" "I" (.int (3 : Int32)) := own_fldI es_CHARGE na21
  have N_value_s_END_DATE : Fld s s.heap s_END_DATE "com/example/daily_spend_pacer/dailyspendpacer/io/ReplayEvent$Kind" "value" "Lcom/example/daily_spend_pacer/dailyspendpacer/io/ReplayEvent$Value;" (.ref s_DATE) := own_fldR es_END_DATE es_DATE na23
  have N_ordinal_s_DATE : Fld s s.heap s_DATE "java/lang/Enum" "ordinal" "I" (.int (4 : Int32)) := own_fldI es_DATE na24
  have N_ordinal_s_END_DATE : Fld s s.heap s_END_DATE "java/lang/Enum" "ordinal" "I" (.int (7 : Int32)) := own_fldI es_END_DATE na25
  have N_value_s_LIFETIME_BUDGET : Fld s s.heap s_LIFETIME_BUDGET "com/example/daily_spend_pacer/dailyspendpacer/io/ReplayEvent$Kind" "value" "Lcom/example/daily_spend_pacer/dailyspendpacer/io/ReplayEvent$Value;" (.ref s_AMOUNT) := own_fldR es_LIFETIME_BUDGET es_AMOUNT na26
  have N_ordinal_s_LIFETIME_BUDGET : Fld s s.heap s_LIFETIME_BUDGET "java/lang/Enum" "ordinal" "I" (.int (8 : Int32)) := own_fldI es_LIFETIME_BUDGET na27
  have N_value_s_TOTAL_CAP : Fld s s.heap s_TOTAL_CAP "com/example/daily_spend_pacer/dailyspendpacer/io/ReplayEvent$Kind" "value" "Lcom/example/daily_spend_pacer/dailyspendpacer/io/ReplayEvent$Value;" (.ref s_CAP) := own_fldR es_TOTAL_CAP es_CAP na28
  have N_cap_s_TOTAL_CAP : Fld s s.heap s_TOTAL_CAP "com/example/daily_spend_pacer/dailyspendpacer/io/ReplayEvent$Kind" "cap" "Lcom/example/daily_spend_pacer/dailyspendpacer/model/HardCap;" (.ref s_TOTAL) := own_fldR es_TOTAL_CAP es_TOTAL na30
  have N_ordinal_s_TOTAL_CAP : Fld s s.heap s_TOTAL_CAP "java/lang/Enum" "ordinal" "I" (.int (2 : Int32)) := own_fldI es_TOTAL_CAP na31
  have N_value_s_WALLET : Fld s s.heap s_WALLET "com/example/daily_spend_pacer/dailyspendpacer/io/ReplayEvent$Kind" "value" "Lcom/example/daily_spend_pacer/dailyspendpacer/io/ReplayEvent$Value;" (.ref s_ReplayEvent_Value_WALLET) := own_fldR es_WALLET es_ReplayEvent_Value_WALLET na33
  have N_ordinal_s_ReplayEvent_Value_WALLET : Fld s s.heap s_ReplayEvent_Value_WALLET "java/lang/Enum" "ordinal" "I" (.int (5 : Int32)) := own_fldI es_ReplayEvent_Value_WALLET na34
  have N_ordinal_s_WALLET : Fld s s.heap s_WALLET "java/lang/Enum" "ordinal" "I" (.int (10 : Int32)) := own_fldI es_WALLET na35
  have N_value_s_MONTHLY_CAP : Fld s s.heap s_MONTHLY_CAP "com/example/daily_spend_pacer/dailyspendpacer/io/ReplayEvent$Kind" "value" "Lcom/example/daily_spend_pacer/dailyspendpacer/io/ReplayEvent$Value;" (.ref s_CAP) := own_fldR es_MONTHLY_CAP es_CAP na36
  have N_cap_s_MONTHLY_CAP : Fld s s.heap s_MONTHLY_CAP "com/example/daily_spend_pacer/dailyspendpacer/io/ReplayEvent$Kind" "cap" "Lcom/example/daily_spend_pacer/dailyspendpacer/model/HardCap;" (.ref s_MONTHLY) := own_fldR es_MONTHLY_CAP es_MONTHLY na38
  have N_ordinal_s_MONTHLY_CAP : Fld s s.heap s_MONTHLY_CAP "java/lang/Enum" "ordinal" "I" (.int (1 : Int32)) := own_fldI es_MONTHLY_CAP na39
  have N_value_s_WALLET_DAILY_CAP : Fld s s.heap s_WALLET_DAILY_CAP "com/example/daily_spend_pacer/dailyspendpacer/io/ReplayEvent$Kind" "value" "Lcom/example/daily_spend_pacer/dailyspendpacer/io/ReplayEvent$Value;" (.ref s_CAP) := own_fldR es_WALLET_DAILY_CAP es_CAP na40
  have N_cap_s_WALLET_DAILY_CAP : Fld s s.heap s_WALLET_DAILY_CAP "com/example/daily_spend_pacer/dailyspendpacer/io/ReplayEvent$Kind" "cap" "Lcom/example/daily_spend_pacer/dailyspendpacer/model/HardCap;" .null := own_fldN es_WALLET_DAILY_CAP na41
  have N_value_s_WEEKLY_AVERAGE_DAILY_LIMIT : Fld s s.heap s_WEEKLY_AVERAGE_DAILY_LIMIT "com/example/daily_spend_pacer/dailyspendpacer/io/ReplayEvent$Kind" "value" "Lcom/example/daily_spend_pacer/dailyspendpacer/io/ReplayEvent$Value;" (.ref s_LIMIT) := own_fldR es_WEEKLY_AVERAGE_DAILY_LIMIT es_LIMIT na43
  have N_ordinal_s_LIMIT : Fld s s.heap s_LIMIT "java/lang/Enum" "ordinal" "I" (.int (2 : Int32)) := own_fldI es_LIMIT na44
  have N_ordinal_s_WEEKLY_AVERAGE_DAILY_LIMIT : Fld s s.heap s_WEEKLY_AVERAGE_DAILY_LIMIT "java/lang/Enum" "ordinal" "I" (.int (5 : Int32)) := own_fldI es_WEEKLY_AVERAGE_DAILY_LIMIT na45
  have N_value_s_REMOVE_AVERAGE_DAILY_LIMIT : Fld s s.heap s_REMOVE_AVERAGE_DAILY_LIMIT "com/example/daily_spend_pacer/dailyspendpacer/io/ReplayEvent$Kind" "value" "Lcom/example/daily_spend_pacer/dailyspendpacer/io/ReplayEvent$Value;" (.ref s_NONE) := own_fldR es_REMOVE_AVERAGE_DAILY_LIMIT es_NONE na47
  have N_ordinal_s_NONE : Fld s s.heap s_NONE "java/lang/Enum" "ordinal" "I" (.int (3 : Int32)) := own_fldI es_NONE na48
  have N_ordinal_s_REMOVE_AVERAGE_DAILY_LIMIT : Fld s s.heap s_REMOVE_AVERAGE_DAILY_LIMIT "java/lang/Enum" "ordinal" "I" (.int (6 : Int32)) := own_fldI es_REMOVE_AVERAGE_DAILY_LIMIT na49
  have N_value_s_AVERAGE_DAILY_LIMIT : Fld s s.heap s_AVERAGE_DAILY_LIMIT "com/example/daily_spend_pacer/dailyspendpacer/io/ReplayEvent$Kind" "value" "Lcom/example/daily_spend_pacer/dailyspendpacer/io/ReplayEvent$Value;" (.ref s_LIMIT) := own_fldR es_AVERAGE_DAILY_LIMIT es_LIMIT na50
  have N_ordinal_s_AVERAGE_DAILY_LIMIT : Fld s s.heap s_AVERAGE_DAILY_LIMIT "java/lang/Enum" "ordinal" "I" (.int (4 : Int32)) := own_fldI es_AVERAGE_DAILY_LIMIT na51
  have N_cap_s_CHARGE : Fld s s.heap s_CHARGE "com/example/daily_spend_pacer/dailyspendpacer/io/ReplayEvent$Kind" "cap" "Lcom/example/daily_spend_pacer/dailyspendpacer/model/HardCap;" .null := own_fldN es_CHARGE na52
  have N_cap_s_AVERAGE_DAILY_LIMIT : Fld s s.heap s_AVERAGE_DAILY_LIMIT "com/example/daily_spend_pacer/dailyspendpacer/io/ReplayEvent$Kind" "cap" "Lcom/example/daily_spend_pacer/dailyspendpacer/model/HardCap;" .null := own_fldN es_AVERAGE_DAILY_LIMIT na53
  have N_cap_s_WEEKLY_AVERAGE_DAILY_LIMIT : Fld s s.heap s_WEEKLY_AVERAGE_DAILY_LIMIT "com/example/daily_spend_pacer/dailyspendpacer/io/ReplayEvent$Kind" "cap" "Lcom/example/daily_spend_pacer/dailyspendpacer/model/HardCap;" .null := own_fldN es_WEEKLY_AVERAGE_DAILY_LIMIT na54
  have N_cap_s_REMOVE_AVERAGE_DAILY_LIMIT : Fld s s.heap s_REMOVE_AVERAGE_DAILY_LIMIT "com/example/daily_spend_pacer/dailyspendpacer/io/ReplayEvent$Kind" "cap" "Lcom/example/daily_spend_pacer/dailyspendpacer/model/HardCap;" .null := own_fldN es_REMOVE_AVERAGE_DAILY_LIMIT na55
  have N_cap_s_END_DATE : Fld s s.heap s_END_DATE "com/example/daily_spend_pacer/dailyspendpacer/io/ReplayEvent$Kind" "cap" "Lcom/example/daily_spend_pacer/dailyspendpacer/model/HardCap;" .null := own_fldN es_END_DATE na56
  have N_cap_s_LIFETIME_BUDGET : Fld s s.heap s_LIFETIME_BUDGET "com/example/daily_spend_pacer/dailyspendpacer/io/ReplayEvent$Kind" "cap" "Lcom/example/daily_spend_pacer/dailyspendpacer/model/HardCap;" .null := own_fldN es_LIFETIME_BUDGET na57
  have N_cap_s_WALLET : Fld s s.heap s_WALLET "com/example/daily_spend_pacer/dailyspendpacer/io/ReplayEvent$Kind" "cap" "Lcom/example/daily_spend_pacer/dailyspendpacer/model/HardCap;" .null := own_fldN es_WALLET nr57
  have n_s_DAILY_CAP_s_WALLET_DAILY_CAP : s_DAILY_CAP ≠ s_WALLET_DAILY_CAP := Fld.ne N_ordinal_s_DAILY_CAP N_ordinal_s_WALLET_DAILY_CAP (by decide)
  have n_s_MONTHLY_CAP_s_WALLET_DAILY_CAP : s_MONTHLY_CAP ≠ s_WALLET_DAILY_CAP := Fld.ne N_ordinal_s_MONTHLY_CAP N_ordinal_s_WALLET_DAILY_CAP (by decide)
  have n_s_TOTAL_CAP_s_WALLET_DAILY_CAP : s_TOTAL_CAP ≠ s_WALLET_DAILY_CAP := Fld.ne N_ordinal_s_TOTAL_CAP N_ordinal_s_WALLET_DAILY_CAP (by decide)
  have n_s_CHARGE_s_WALLET_DAILY_CAP : s_CHARGE ≠ s_WALLET_DAILY_CAP := Fld.ne N_ordinal_s_CHARGE N_ordinal_s_WALLET_DAILY_CAP (by decide)
  have n_s_AMOUNT_s_CAP : s_AMOUNT ≠ s_CAP := Fld.ne N_ordinal_s_AMOUNT N_ordinal_s_CAP (by decide)
  have n_s_AVERAGE_DAILY_LIMIT_s_WALLET_DAILY_CAP : s_AVERAGE_DAILY_LIMIT ≠ s_WALLET_DAILY_CAP := Fld.ne N_ordinal_s_AVERAGE_DAILY_LIMIT N_ordinal_s_WALLET_DAILY_CAP (by decide)
  have n_s_LIMIT_s_CAP : s_LIMIT ≠ s_CAP := Fld.ne N_ordinal_s_LIMIT N_ordinal_s_CAP (by decide)
  have n_s_WEEKLY_AVERAGE_DAILY_LIMIT_s_WALLET_DAILY_CAP : s_WEEKLY_AVERAGE_DAILY_LIMIT ≠ s_WALLET_DAILY_CAP := Fld.ne N_ordinal_s_WEEKLY_AVERAGE_DAILY_LIMIT N_ordinal_s_WALLET_DAILY_CAP (by decide)
  have n_s_REMOVE_AVERAGE_DAILY_LIMIT_s_WALLET_DAILY_CAP : s_REMOVE_AVERAGE_DAILY_LIMIT ≠ s_WALLET_DAILY_CAP := Fld.ne N_ordinal_s_REMOVE_AVERAGE_DAILY_LIMIT N_ordinal_s_WALLET_DAILY_CAP (by decide)
  have n_s_NONE_s_CAP : s_NONE ≠ s_CAP := Fld.ne N_ordinal_s_NONE N_ordinal_s_CAP (by decide)
  have n_s_END_DATE_s_WALLET_DAILY_CAP : s_END_DATE ≠ s_WALLET_DAILY_CAP := Fld.ne N_ordinal_s_END_DATE N_ordinal_s_WALLET_DAILY_CAP (by decide)
  have n_s_DATE_s_CAP : s_DATE ≠ s_CAP := Fld.ne N_ordinal_s_DATE N_ordinal_s_CAP (by decide)
  have n_s_LIFETIME_BUDGET_s_WALLET_DAILY_CAP : s_LIFETIME_BUDGET ≠ s_WALLET_DAILY_CAP := Fld.ne N_ordinal_s_LIFETIME_BUDGET N_ordinal_s_WALLET_DAILY_CAP (by decide)
  have n_s_WALLET_s_WALLET_DAILY_CAP : s_WALLET ≠ s_WALLET_DAILY_CAP := Fld.ne N_ordinal_s_WALLET N_ordinal_s_WALLET_DAILY_CAP (by decide)
  have n_s_ReplayEvent_Value_WALLET_s_CAP : s_ReplayEvent_Value_WALLET ≠ s_CAP := Fld.ne N_ordinal_s_ReplayEvent_Value_WALLET N_ordinal_s_CAP (by decide)
  obtain ⟨n, o, h1, h2, h3, _, L, rfl, ⟨rfl, N⟩, hq⟩ := rm0 l s _ hw tables_1 i0 s_DAILY_CAP s_MONTHLY_CAP s_TOTAL_CAP s_CHARGE s_AVERAGE_DAILY_LIMIT s_WEEKLY_AVERAGE_DAILY_LIMIT s_REMOVE_AVERAGE_DAILY_LIMIT s_END_DATE s_LIFETIME_BUDGET s_WALLET_DAILY_CAP s_WALLET s_CAP s_DAILY s_MONTHLY s_TOTAL s_AMOUNT s_LIMIT s_NONE s_DATE s_ReplayEvent_Value_WALLET s.heap s.heap.size (Nat.le_refl _) Ss_DAILY_CAP Ss_MONTHLY_CAP Ss_TOTAL_CAP Ss_CHARGE Ss_AVERAGE_DAILY_LIMIT Ss_WEEKLY_AVERAGE_DAILY_LIMIT Ss_REMOVE_AVERAGE_DAILY_LIMIT Ss_END_DATE Ss_LIFETIME_BUDGET Ss_WALLET_DAILY_CAP Ss_WALLET Ss_CAP Es_DAILY_CAP Es_MONTHLY_CAP Es_TOTAL_CAP Es_CHARGE Es_AVERAGE_DAILY_LIMIT Es_WEEKLY_AVERAGE_DAILY_LIMIT Es_REMOVE_AVERAGE_DAILY_LIMIT Es_END_DATE Es_LIFETIME_BUDGET Es_WALLET_DAILY_CAP Es_WALLET N_value_s_DAILY_CAP N_cap_s_DAILY_CAP N_value_s_MONTHLY_CAP N_cap_s_MONTHLY_CAP N_value_s_TOTAL_CAP N_cap_s_TOTAL_CAP N_value_s_CHARGE N_cap_s_CHARGE N_value_s_AVERAGE_DAILY_LIMIT N_cap_s_AVERAGE_DAILY_LIMIT N_value_s_WEEKLY_AVERAGE_DAILY_LIMIT N_cap_s_WEEKLY_AVERAGE_DAILY_LIMIT N_value_s_REMOVE_AVERAGE_DAILY_LIMIT N_cap_s_REMOVE_AVERAGE_DAILY_LIMIT N_value_s_END_DATE N_cap_s_END_DATE N_value_s_LIFETIME_BUDGET N_cap_s_LIFETIME_BUDGET N_value_s_WALLET_DAILY_CAP N_cap_s_WALLET_DAILY_CAP N_value_s_WALLET N_cap_s_WALLET n_s_DAILY_CAP_s_WALLET_DAILY_CAP n_s_MONTHLY_CAP_s_WALLET_DAILY_CAP n_s_TOTAL_CAP_s_WALLET_DAILY_CAP n_s_CHARGE_s_WALLET_DAILY_CAP n_s_AMOUNT_s_CAP n_s_AVERAGE_DAILY_LIMIT_s_WALLET_DAILY_CAP n_s_LIMIT_s_CAP n_s_WEEKLY_AVERAGE_DAILY_LIMIT_s_WALLET_DAILY_CAP n_s_REMOVE_AVERAGE_DAILY_LIMIT_s_WALLET_DAILY_CAP n_s_NONE_s_CAP n_s_END_DATE_s_WALLET_DAILY_CAP n_s_DATE_s_CAP n_s_LIFETIME_BUDGET_s_WALLET_DAILY_CAP n_s_WALLET_s_WALLET_DAILY_CAP n_s_ReplayEvent_Value_WALLET_s_CAP p e ha hc hk s m _ below hf ((Spec.applies_iff_loose hf).mp happ).1 ⟨rfl, State.Warmed39.refl s, rfl⟩ trivial
  refine ⟨n, _, h1, h2, h3, hpost _ _ _ _ _ _ ⟨Cond.after_iff.mpr rfl, Cond.after_iff.mpr (eq_i res_at (Term.int_eval (1)) rfl), trivial⟩ ⟨hq.1, hq.2.1, (hq.2.2.sift fun y hy => Or.inr (N y hy)).mono (by decide) (by decide)⟩⟩
theorem main_1_1 : Claimed_1_1 := comes_1 fun _ _ _ _ _ _ h hF => ⟨h.1, hF⟩
theorem main_1_2 : Claimed_1_2 := comes_1 fun _ _ _ _ _ _ h hF => ⟨h.2.1, hF⟩
end Jvm.Pilot.@@N@@
namespace Jvm.Pilot.@@N@@
open Jvm Jvm.ClassFile Sem Op Lib Jvm.Free Jvm.Stand Jvm.Pilot.@@N@@.Jvm.D
/-! MADE BY PROGRAM (witnessworld.py) out of the Statement's table words and the real class files: 15 classes; the members and pool entries that the words name. The judged class is class 1, her method 1. -/
namespace start1
open Jvm.ClassFile
def u (s : String) : CpInfo := .utf8 (stringToUtf16 s)
/-- a pool by its gaps: so many unusable entries, then the entry; so many at the end -/
def gap : Nat → List CpInfo → List CpInfo
  | 0, r => r
  | n + 1, r => .unusable :: gap n r
def poolList (es : List (Nat × CpInfo)) (last : Nat) : List CpInfo := es.foldr (fun e r => gap e.1 (e.2 :: r)) (gap last [])
def pool (es : List (Nat × CpInfo)) (last : Nat) : Array CpInfo := ⟨poolList es last⟩
def fileOf (pool : Array CpInfo) (this : Nat) (attrs : Array Attribute := #[]) (ms : Array MethodInfo := #[]) (fl : Nat := 33) (sup : Nat := 0) (ifs : Array Nat := #[]) (fds : Array FieldInfo := #[]) : ClassFile where
  minorVersion := 0
  majorVersion := 65
  constantPool := pool
  accessFlags := fl
  thisClass := this
  superClass := sup
  interfaces := ifs
  fields := fds
  methods := ms
  attributes := attrs
def plain (name : String) (sup : Option ClassId) : Class where
  name := name
  kind := .ordinary
  loader := none
  accessFlags := 33
  super := sup
  interfaces := #[]
  cf := none
  fields := #[]
  methods := #[]
  instanceTypes := #[]
  staticTypes := #[]
  resolved := #[]
  callSites := []
  init := .initialized
  statics := none
  mirror := none

def pool0 : Array CpInfo := pool [(5, u "<init>"), (0, u "()V"), (1, .class_ 10), (1, u "java/lang/Object")] 113

def k0m0 : Method := { name := "<init>", desc := "()V", sig := { parameters := [], returnType := none }, accessFlags := 1, code := none }
/-- java/lang/Object -/
def k0 : Class := { plain "java/lang/Object" none with
  accessFlags := 33
  interfaces := #[]
  cf := some (fileOf pool0 8 #[] #[{ accessFlags := 1, nameIndex := 5, descriptorIndex := 6, attributes := #[] }] 33 0 #[] #[])
  fields := #[]
  methods := #[k0m0]
  instanceTypes := #[]
  staticTypes := #[]
  resolved := Array.replicate 124 none
  statics := none }

def pool1 : Array CpInfo := pool [(2, .class_ 4), (1, u "java/lang/Object"), (0, u "<init>"), (0, u "()V"), (0, .class_ 8), (0, u "com/example/daily_spend_pacer/dailyspendpacer/io/ReplayEvent$Kind"), (0, .fieldref 7 10), (0, .nameAndType 11 12), (0, u "DAILY_CAP"), (0, u "Lcom/example/daily_spend_pacer/dailyspendpacer/io/ReplayEvent$Kind;"), (0, .fieldref 7 14), (0, .nameAndType 15 12), (0, u "MONTHLY_CAP"), (0, .fieldref 7 17), (0, .nameAndType 18 12), (0, u "TOTAL_CAP"), (0, .fieldref 7 20), (0, .nameAndType 21 12), (0, u "CHARGE"), (0, .fieldref 7 23), (0, .nameAndType 24 12), (0, u "AVERAGE_DAILY_LIMIT"), (0, .fieldref 7 26), (0, .nameAndType 27 12), (0, u "WEEKLY_AVERAGE_DAILY_LIMIT"), (0, .fieldref 7 29), (0, .nameAndType 30 12), (0, u "REMOVE_AVERAGE_DAILY_LIMIT"), (0, .fieldref 7 32), (0, .nameAndType 33 12), (0, u "END_DATE"), (0, .fieldref 7 35), (0, .nameAndType 36 12), (0, u "LIFETIME_BUDGET"), (0, .fieldref 7 38), (0, .nameAndType 39 12), (0, u "WALLET_DAILY_CAP"), (0, .fieldref 7 41), (0, .nameAndType 42 12), (0, u "WALLET"), (0, .integer 2147483647), (0, .fieldref 7 45), (0, .nameAndType 46 47), (0, u "value"), (0, u "Lcom/example/daily_spend_pacer/dailyspendpacer/io/ReplayEvent$Value;"), (0, .fieldref 49 50), (0, .class_ 51), (0, .nameAndType 52 47), (0, u "com/example/daily_spend_pacer/dailyspendpacer/io/ReplayEvent$Value"), (0, u "CAP"), (0, .fieldref 7 54), (0, .nameAndType 55 56), (0, u "cap"), (0, u "Lcom/example/daily_spend_pacer/dailyspendpacer/model/HardCap;"), (0, .methodref 7 58), (0, .nameAndType 59 60), (0, u "ofWallet"), (0, u "()Z"), (0, .class_ 62), (0, u "com/example/daily_spend_pacer/dailyspendpacer/io/KindOfWalletPinLaw"), (2, u "law"), (0, u "(I)Z")] 10

def k1m0 : Method := { name := "<init>", desc := "()V", sig := { parameters := [], returnType := none }, accessFlags := 1, code := none }
def k1c1 : Code := { maxStack := 4, maxLocals := 4, code := code, exceptionTable := #[], attributes := #[] }
def k1m1 : Method := { name := "law", desc := "(I)Z", sig := { parameters := [.int], returnType := some .boolean }, accessFlags := 9, code := some k1c1 }
/-- com/example/daily_spend_pacer/dailyspendpacer/io/KindOfWalletPinLaw -/
def k1 : Class := { plain "com/example/daily_spend_pacer/dailyspendpacer/io/KindOfWalletPinLaw" (some 0) with
  accessFlags := 49
  interfaces := #[]
  cf := some (fileOf pool1 61 #[] #[{ accessFlags := 1, nameIndex := 5, descriptorIndex := 6, attributes := #[] }, { accessFlags := 9, nameIndex := 65, descriptorIndex := 66, attributes := #[] }] 49 2 #[] #[])
  fields := #[]
  methods := #[k1m0, k1m1]
  instanceTypes := #[]
  staticTypes := #[]
  resolved := Array.replicate 77 none
  statics := none }

def pool2 : Array CpInfo := pool [(1, .class_ 2), (0, u "java/lang/constant/Constable"), (0, .class_ 4), (0, u "java/lang/Object")] 6

/-- java/lang/constant/Constable -/
def k2 : Class := { plain "java/lang/constant/Constable" (some 0) with
  accessFlags := 1537
  interfaces := #[]
  cf := some (fileOf pool2 1 #[] #[] 1537 3 #[] #[])
  fields := #[]
  methods := #[]
  instanceTypes := #[]
  staticTypes := #[]
  resolved := Array.replicate 11 none
  statics := none }

def pool3 : Array CpInfo := pool [(1, .class_ 2), (0, u "java/lang/Comparable"), (0, .class_ 4), (0, u "java/lang/Object")] 7

/-- java/lang/Comparable -/
def k3 : Class := { plain "java/lang/Comparable" (some 0) with
  accessFlags := 1537
  interfaces := #[]
  cf := some (fileOf pool3 1 #[] #[] 1537 3 #[] #[])
  fields := #[]
  methods := #[]
  instanceTypes := #[]
  staticTypes := #[]
  resolved := Array.replicate 12 none
  statics := none }

def pool4 : Array CpInfo := pool [(1, .class_ 2), (0, u "java/io/Serializable"), (0, .class_ 4), (0, u "java/lang/Object")] 2

/-- java/io/Serializable -/
def k4 : Class := { plain "java/io/Serializable" (some 0) with
  accessFlags := 1537
  interfaces := #[]
  cf := some (fileOf pool4 1 #[] #[] 1537 3 #[] #[])
  fields := #[]
  methods := #[]
  instanceTypes := #[]
  staticTypes := #[]
  resolved := Array.replicate 7 none
  statics := none }

def pool5 : Array CpInfo := pool [(2, .class_ 4), (1, u "java/lang/Enum"), (0, u "name"), (0, u "Ljava/lang/String;"), (2, u "ordinal"), (0, u "I"), (1, .class_ 14), (1, u "java/lang/Object"), (4, u "hash"), (86, .class_ 108), (1, u "java/lang/Enum$EnumDesc"), (2, .class_ 112), (0, u "java/lang/constant/Constable"), (0, .class_ 114), (0, u "java/lang/Comparable"), (0, .class_ 116), (0, u "java/io/Serializable")] 87

/-- java/lang/Enum -/
def k5 : Class := { plain "java/lang/Enum" (some 0) with
  accessFlags := 1057
  interfaces := #[2, 3, 4]
  cf := some (fileOf pool5 2 #[.nestMembers #[106]] #[] 1057 12 #[111, 113, 115] #[{ accessFlags := 18, nameIndex := 5, descriptorIndex := 6, attributes := #[] }, { accessFlags := 18, nameIndex := 9, descriptorIndex := 10, attributes := #[] }, { accessFlags := 2, nameIndex := 19, descriptorIndex := 10, attributes := #[] }])
  fields := #[{ name := "name", type := (.object "java/lang/String"), accessFlags := 18, slot := 0, constantValue := 0 }, { name := "ordinal", type := .int, accessFlags := 18, slot := 1, constantValue := 0 }, { name := "hash", type := .int, accessFlags := 2, slot := 2, constantValue := 0 }]
  methods := #[]
  instanceTypes := #[(.object "java/lang/String"), .int, .int]
  staticTypes := #[]
  resolved := Array.replicate 204 none
  statics := none }

def pool6 : Array CpInfo := pool [(1, .class_ 2), (0, u "com/example/daily_spend_pacer/dailyspendpacer/io/ReplayEvent$Kind"), (2, u "DAILY_CAP"), (0, u "Lcom/example/daily_spend_pacer/dailyspendpacer/io/ReplayEvent$Kind;"), (2, u "MONTHLY_CAP"), (2, u "TOTAL_CAP"), (2, u "CHARGE"), (2, u "AVERAGE_DAILY_LIMIT"), (2, u "WEEKLY_AVERAGE_DAILY_LIMIT"), (2, u "REMOVE_AVERAGE_DAILY_LIMIT"), (2, u "END_DATE"), (2, u "LIFETIME_BUDGET"), (0, .fieldref 1 32), (0, .nameAndType 33 6), (0, u "WALLET_DAILY_CAP"), (2, u "WALLET"), (2, u "$VALUES"), (0, u "[Lcom/example/daily_spend_pacer/dailyspendpacer/io/ReplayEvent$Kind;"), (6, .class_ 49), (1, u "java/lang/Enum"), (7, u "Lcom/example/daily_spend_pacer/dailyspendpacer/io/ReplayEvent$Value;"), (9, u "label"), (0, u "Ljava/lang/String;"), (2, u "value"), (2, u "counted"), (0, u "Z"), (2, u "cap"), (0, u "Lcom/example/daily_spend_pacer/dailyspendpacer/model/HardCap;"), (126, u "ofWallet"), (0, u "()Z"), (11, .class_ 220), (0, u "com/example/daily_spend_pacer/dailyspendpacer/io/ReplayEvent")] 30

def k6c0 : Code := { maxStack := 2, maxLocals := 1, code := prog_12_method_7_code, exceptionTable := #[], attributes := #[] }
def k6m0 : Method := { name := "ofWallet", desc := "()Z", sig := { parameters := [], returnType := some .boolean }, accessFlags := 0, code := some k6c0 }
/-- com/example/daily_spend_pacer/dailyspendpacer/io/ReplayEvent$Kind -/
def k6 : Class := { plain "com/example/daily_spend_pacer/dailyspendpacer/io/ReplayEvent$Kind" (some 5) with
  accessFlags := 16432
  interfaces := #[]
  cf := some (fileOf pool6 1 #[.nestHost 219] #[{ accessFlags := 0, nameIndex := 206, descriptorIndex := 207, attributes := #[] }] 16432 47 #[] #[{ accessFlags := 16409, nameIndex := 5, descriptorIndex := 6, attributes := #[] }, { accessFlags := 16409, nameIndex := 9, descriptorIndex := 6, attributes := #[] }, { accessFlags := 16409, nameIndex := 12, descriptorIndex := 6, attributes := #[] }, { accessFlags := 16409, nameIndex := 15, descriptorIndex := 6, attributes := #[] }, { accessFlags := 16409, nameIndex := 18, descriptorIndex := 6, attributes := #[] }, { accessFlags := 16409, nameIndex := 21, descriptorIndex := 6, attributes := #[] }, { accessFlags := 16409, nameIndex := 24, descriptorIndex := 6, attributes := #[] }, { accessFlags := 16409, nameIndex := 27, descriptorIndex := 6, attributes := #[] }, { accessFlags := 16409, nameIndex := 30, descriptorIndex := 6, attributes := #[] }, { accessFlags := 16409, nameIndex := 33, descriptorIndex := 6, attributes := #[] }, { accessFlags := 16409, nameIndex := 36, descriptorIndex := 6, attributes := #[] }, { accessFlags := 16, nameIndex := 67, descriptorIndex := 68, attributes := #[] }, { accessFlags := 16, nameIndex := 71, descriptorIndex := 57, attributes := #[] }, { accessFlags := 16, nameIndex := 74, descriptorIndex := 75, attributes := #[] }, { accessFlags := 16, nameIndex := 78, descriptorIndex := 79, attributes := #[] }, { accessFlags := 4122, nameIndex := 39, descriptorIndex := 40, attributes := #[] }])
  fields := #[{ name := "DAILY_CAP", type := (.object "com/example/daily_spend_pacer/dailyspendpacer/io/ReplayEvent$Kind"), accessFlags := 16409, slot := 0, constantValue := 0 }, { name := "MONTHLY_CAP", type := (.object "com/example/daily_spend_pacer/dailyspendpacer/io/ReplayEvent$Kind"), accessFlags := 16409, slot := 1, constantValue := 0 }, { name := "TOTAL_CAP", type := (.object "com/example/daily_spend_pacer/dailyspendpacer/io/ReplayEvent$Kind"), accessFlags := 16409, slot := 2, constantValue := 0 }, { name := "CHARGE", type := (.object "com/example/daily_spend_pacer/dailyspendpacer/io/ReplayEvent$Kind"), accessFlags := 16409, slot := 3, constantValue := 0 }, { name := "AVERAGE_DAILY_LIMIT", type := (.object "com/example/daily_spend_pacer/dailyspendpacer/io/ReplayEvent$Kind"), accessFlags := 16409, slot := 4, constantValue := 0 }, { name := "WEEKLY_AVERAGE_DAILY_LIMIT", type := (.object "com/example/daily_spend_pacer/dailyspendpacer/io/ReplayEvent$Kind"), accessFlags := 16409, slot := 5, constantValue := 0 }, { name := "REMOVE_AVERAGE_DAILY_LIMIT", type := (.object "com/example/daily_spend_pacer/dailyspendpacer/io/ReplayEvent$Kind"), accessFlags := 16409, slot := 6, constantValue := 0 }, { name := "END_DATE", type := (.object "com/example/daily_spend_pacer/dailyspendpacer/io/ReplayEvent$Kind"), accessFlags := 16409, slot := 7, constantValue := 0 }, { name := "LIFETIME_BUDGET", type := (.object "com/example/daily_spend_pacer/dailyspendpacer/io/ReplayEvent$Kind"), accessFlags := 16409, slot := 8, constantValue := 0 }, { name := "WALLET_DAILY_CAP", type := (.object "com/example/daily_spend_pacer/dailyspendpacer/io/ReplayEvent$Kind"), accessFlags := 16409, slot := 9, constantValue := 0 }, { name := "WALLET", type := (.object "com/example/daily_spend_pacer/dailyspendpacer/io/ReplayEvent$Kind"), accessFlags := 16409, slot := 10, constantValue := 0 }, { name := "label", type := (.object "java/lang/String"), accessFlags := 16, slot := 3, constantValue := 0 }, { name := "value", type := (.object "com/example/daily_spend_pacer/dailyspendpacer/io/ReplayEvent$Value"), accessFlags := 16, slot := 4, constantValue := 0 }, { name := "counted", type := .boolean, accessFlags := 16, slot := 5, constantValue := 0 }, { name := "cap", type := (.object "com/example/daily_spend_pacer/dailyspendpacer/model/HardCap"), accessFlags := 16, slot := 6, constantValue := 0 }, { name := "$VALUES", type := (.array (.object "com/example/daily_spend_pacer/dailyspendpacer/io/ReplayEvent$Kind")), accessFlags := 4122, slot := 11, constantValue := 0 }]
  methods := #[k6m0]
  instanceTypes := #[(.object "java/lang/String"), .int, .int, (.object "java/lang/String"), (.object "com/example/daily_spend_pacer/dailyspendpacer/io/ReplayEvent$Value"), .boolean, (.object "com/example/daily_spend_pacer/dailyspendpacer/model/HardCap")]
  staticTypes := #[(.object "com/example/daily_spend_pacer/dailyspendpacer/io/ReplayEvent$Kind"), (.object "com/example/daily_spend_pacer/dailyspendpacer/io/ReplayEvent$Kind"), (.object "com/example/daily_spend_pacer/dailyspendpacer/io/ReplayEvent$Kind"), (.object "com/example/daily_spend_pacer/dailyspendpacer/io/ReplayEvent$Kind"), (.object "com/example/daily_spend_pacer/dailyspendpacer/io/ReplayEvent$Kind"), (.object "com/example/daily_spend_pacer/dailyspendpacer/io/ReplayEvent$Kind"), (.object "com/example/daily_spend_pacer/dailyspendpacer/io/ReplayEvent$Kind"), (.object "com/example/daily_spend_pacer/dailyspendpacer/io/ReplayEvent$Kind"), (.object "com/example/daily_spend_pacer/dailyspendpacer/io/ReplayEvent$Kind"), (.object "com/example/daily_spend_pacer/dailyspendpacer/io/ReplayEvent$Kind"), (.object "com/example/daily_spend_pacer/dailyspendpacer/io/ReplayEvent$Kind"), (.array (.object "com/example/daily_spend_pacer/dailyspendpacer/io/ReplayEvent$Kind"))]
  resolved := Array.replicate 251 none
  statics := some 0 }

def pool7 : Array CpInfo := pool [(1, .class_ 2), (0, u "com/example/daily_spend_pacer/dailyspendpacer/io/ReplayEvent$Value"), (2, u "CAP"), (0, u "Lcom/example/daily_spend_pacer/dailyspendpacer/io/ReplayEvent$Value;"), (2, u "AMOUNT"), (2, u "LIMIT"), (2, u "NONE"), (2, u "DATE"), (2, u "WALLET"), (2, u "$VALUES"), (0, u "[Lcom/example/daily_spend_pacer/dailyspendpacer/io/ReplayEvent$Value;"), (6, .class_ 34), (1, u "java/lang/Enum"), (29, .class_ 65), (0, u "com/example/daily_spend_pacer/dailyspendpacer/io/ReplayEvent")] 2

/-- com/example/daily_spend_pacer/dailyspendpacer/io/ReplayEvent$Value -/
def k7 : Class := { plain "com/example/daily_spend_pacer/dailyspendpacer/io/ReplayEvent$Value" (some 5) with
  accessFlags := 16432
  interfaces := #[]
  cf := some (fileOf pool7 1 #[.nestHost 64] #[] 16432 32 #[] #[{ accessFlags := 16409, nameIndex := 5, descriptorIndex := 6, attributes := #[] }, { accessFlags := 16409, nameIndex := 9, descriptorIndex := 6, attributes := #[] }, { accessFlags := 16409, nameIndex := 12, descriptorIndex := 6, attributes := #[] }, { accessFlags := 16409, nameIndex := 15, descriptorIndex := 6, attributes := #[] }, { accessFlags := 16409, nameIndex := 18, descriptorIndex := 6, attributes := #[] }, { accessFlags := 16409, nameIndex := 21, descriptorIndex := 6, attributes := #[] }, { accessFlags := 4122, nameIndex := 24, descriptorIndex := 25, attributes := #[] }])
  fields := #[{ name := "CAP", type := (.object "com/example/daily_spend_pacer/dailyspendpacer/io/ReplayEvent$Value"), accessFlags := 16409, slot := 0, constantValue := 0 }, { name := "AMOUNT", type := (.object "com/example/daily_spend_pacer/dailyspendpacer/io/ReplayEvent$Value"), accessFlags := 16409, slot := 1, constantValue := 0 }, { name := "LIMIT", type := (.object "com/example/daily_spend_pacer/dailyspendpacer/io/ReplayEvent$Value"), accessFlags := 16409, slot := 2, constantValue := 0 }, { name := "NONE", type := (.object "com/example/daily_spend_pacer/dailyspendpacer/io/ReplayEvent$Value"), accessFlags := 16409, slot := 3, constantValue := 0 }, { name := "DATE", type := (.object "com/example/daily_spend_pacer/dailyspendpacer/io/ReplayEvent$Value"), accessFlags := 16409, slot := 4, constantValue := 0 }, { name := "WALLET", type := (.object "com/example/daily_spend_pacer/dailyspendpacer/io/ReplayEvent$Value"), accessFlags := 16409, slot := 5, constantValue := 0 }, { name := "$VALUES", type := (.array (.object "com/example/daily_spend_pacer/dailyspendpacer/io/ReplayEvent$Value")), accessFlags := 4122, slot := 6, constantValue := 0 }]
  methods := #[]
  instanceTypes := #[(.object "java/lang/String"), .int, .int]
  staticTypes := #[(.object "com/example/daily_spend_pacer/dailyspendpacer/io/ReplayEvent$Value"), (.object "com/example/daily_spend_pacer/dailyspendpacer/io/ReplayEvent$Value"), (.object "com/example/daily_spend_pacer/dailyspendpacer/io/ReplayEvent$Value"), (.object "com/example/daily_spend_pacer/dailyspendpacer/io/ReplayEvent$Value"), (.object "com/example/daily_spend_pacer/dailyspendpacer/io/ReplayEvent$Value"), (.object "com/example/daily_spend_pacer/dailyspendpacer/io/ReplayEvent$Value"), (.array (.object "com/example/daily_spend_pacer/dailyspendpacer/io/ReplayEvent$Value"))]
  resolved := Array.replicate 68 none
  statics := some 1 }

def pool8 : Array CpInfo := pool [(1, .class_ 2), (0, u "com/example/daily_spend_pacer/dailyspendpacer/model/HardCap"), (2, u "DAILY"), (0, u "Lcom/example/daily_spend_pacer/dailyspendpacer/model/HardCap;"), (2, u "MONTHLY"), (2, u "TOTAL"), (2, u "$VALUES"), (0, u "[Lcom/example/daily_spend_pacer/dailyspendpacer/model/HardCap;"), (6, .class_ 25), (1, u "java/lang/Enum")] 25

/-- com/example/daily_spend_pacer/dailyspendpacer/model/HardCap -/
def k8 : Class := { plain "com/example/daily_spend_pacer/dailyspendpacer/model/HardCap" (some 5) with
  accessFlags := 16433
  interfaces := #[]
  cf := some (fileOf pool8 1 #[] #[] 16433 23 #[] #[{ accessFlags := 16409, nameIndex := 5, descriptorIndex := 6, attributes := #[] }, { accessFlags := 16409, nameIndex := 9, descriptorIndex := 6, attributes := #[] }, { accessFlags := 16409, nameIndex := 12, descriptorIndex := 6, attributes := #[] }, { accessFlags := 4122, nameIndex := 15, descriptorIndex := 16, attributes := #[] }])
  fields := #[{ name := "DAILY", type := (.object "com/example/daily_spend_pacer/dailyspendpacer/model/HardCap"), accessFlags := 16409, slot := 0, constantValue := 0 }, { name := "MONTHLY", type := (.object "com/example/daily_spend_pacer/dailyspendpacer/model/HardCap"), accessFlags := 16409, slot := 1, constantValue := 0 }, { name := "TOTAL", type := (.object "com/example/daily_spend_pacer/dailyspendpacer/model/HardCap"), accessFlags := 16409, slot := 2, constantValue := 0 }, { name := "$VALUES", type := (.array (.object "com/example/daily_spend_pacer/dailyspendpacer/model/HardCap")), accessFlags := 4122, slot := 3, constantValue := 0 }]
  methods := #[]
  instanceTypes := #[(.object "java/lang/String"), .int, .int]
  staticTypes := #[(.object "com/example/daily_spend_pacer/dailyspendpacer/model/HardCap"), (.object "com/example/daily_spend_pacer/dailyspendpacer/model/HardCap"), (.object "com/example/daily_spend_pacer/dailyspendpacer/model/HardCap"), (.array (.object "com/example/daily_spend_pacer/dailyspendpacer/model/HardCap"))]
  resolved := Array.replicate 51 none
  statics := some 2 }

def pool9 : Array CpInfo := pool [(1, u "java/lang/Cloneable"), (0, .class_ 1), (0, u "java/lang/Object"), (0, .class_ 3)] 3

/-- java/lang/Cloneable -/
def k9 : Class := { plain "java/lang/Cloneable" (some 0) with
  accessFlags := 1537
  interfaces := #[]
  cf := some (fileOf pool9 2 #[] #[] 1537 4 #[] #[])
  fields := #[]
  methods := #[]
  instanceTypes := #[]
  staticTypes := #[]
  resolved := Array.replicate 8 none
  statics := none }

/-- the primitive byte -/
def k10 : Class := { plain "byte" none with kind := .primitive 'B', accessFlags := 0x411 }
/-- [B -/
def k11 : Class := { plain "[B" (some 0) with kind := .array 10 .byte, interfaces := #[9, 4], accessFlags := 1041 }

/-- the primitive int -/
def k12 : Class := { plain "int" none with kind := .primitive 'I', accessFlags := 0x411 }
/-- [I -/
def k13 : Class := { plain "[I" (some 0) with kind := .array 12 .int, interfaces := #[9, 4], accessFlags := 1041 }

/-- [Lcom/example/daily_spend_pacer/dailyspendpacer/io/ReplayEvent$Kind; -/
def k14 : Class := { plain "[Lcom/example/daily_spend_pacer/dailyspendpacer/io/ReplayEvent$Kind;" (some 0) with kind := .array 6 (.object "com/example/daily_spend_pacer/dailyspendpacer/io/ReplayEvent$Kind"), interfaces := #[9, 4], accessFlags := 1041 }

def heap : Heap := #[{ cls := 6, slots := #[.ref 12, .ref 13, .ref 14, .ref 15, .ref 16, .ref 17, .ref 18, .ref 19, .ref 20, .ref 21, .ref 22, .null], vm := .statics 6 },
  { cls := 7, slots := #[.ref 3, .ref 4, .ref 5, .ref 6, .ref 7, .ref 8, .null], vm := .statics 7 },
  { cls := 8, slots := #[.ref 9, .ref 10, .ref 11, .null], vm := .statics 8 },
  { cls := 7, slots := #[.null, .int 0, .int 0], vm := .none },
  { cls := 7, slots := #[.null, .int 1, .int 0], vm := .none },
  { cls := 7, slots := #[.null, .int 2, .int 0], vm := .none },
  { cls := 7, slots := #[.null, .int 3, .int 0], vm := .none },
  { cls := 7, slots := #[.null, .int 4, .int 0], vm := .none },
  { cls := 7, slots := #[.null, .int 5, .int 0], vm := .none },
  { cls := 8, slots := #[.null, .int 0, .int 0], vm := .none },
  { cls := 8, slots := #[.null, .int 1, .int 0], vm := .none },
  { cls := 8, slots := #[.null, .int 2, .int 0], vm := .none },
  { cls := 6, slots := #[.null, .int 0, .int 0, .null, .ref 3, .int 0, .ref 9], vm := .none },
  { cls := 6, slots := #[.null, .int 1, .int 0, .null, .ref 3, .int 0, .ref 10], vm := .none },
  { cls := 6, slots := #[.null, .int 2, .int 0, .null, .ref 3, .int 0, .ref 11], vm := .none },
  { cls := 6, slots := #[.null, .int 3, .int 0, .null, .ref 4, .int 0, .null], vm := .none },
  { cls := 6, slots := #[.null, .int 4, .int 0, .null, .ref 5, .int 0, .null], vm := .none },
  { cls := 6, slots := #[.null, .int 5, .int 0, .null, .ref 5, .int 0, .null], vm := .none },
  { cls := 6, slots := #[.null, .int 6, .int 0, .null, .ref 6, .int 0, .null], vm := .none },
  { cls := 6, slots := #[.null, .int 7, .int 0, .null, .ref 7, .int 0, .null], vm := .none },
  { cls := 6, slots := #[.null, .int 8, .int 0, .null, .ref 4, .int 0, .null], vm := .none },
  { cls := 6, slots := #[.null, .int 9, .int 0, .null, .ref 3, .int 0, .null], vm := .none },
  { cls := 6, slots := #[.null, .int 10, .int 0, .null, .ref 8, .int 0, .null], vm := .none }]
def classes : Array Class := #[k0, k1, k2, k3, k4, k5, k6, k7, k8, k9, k10, k11, k12, k13, k14]
def interned : List (Array UInt16 × Addr) := []
def slotsUsed : Nat := 127
def theMethod : MethodId := ⟨1, 1⟩
def args0 : Array Value := #[.int 5]
def aboutOver (below : List Frame) : State where
  vm := { classes := classes, interned := interned.toArray }
  heap := heap
  slotsUsed := slotsUsed
  threads := #[{ frames := .invoking theMethod args0 :: below }]
def below0 : List Frame := [.native { method := ⟨0, 0⟩, args := #[] }]
def about1 : State := aboutOver below0
def p0 : Program := .bare "" "" ""
def e0 : Env := launch0.env 0 0 0
theorem w_frames : about1.frames = Frame.invoking theMethod args0 :: below0 := rfl
set_option maxRecDepth 65536 in
theorem w_args : argsFit about1.vm theMethod args0 = true := by decide +kernel
set_option maxRecDepth 65536 in
theorem w_heap : heapFits about1 = true := by decide +kernel
set_option maxRecDepth 65536 in
theorem w_runnable : about1.curStatus? = some .runnable := by decide +kernel
set_option maxRecDepth 65536 in
theorem w_alone : about1.alone = true := by decide +kernel
set_option maxRecDepth 65536 in
theorem w_named : about1.methodNamed? x = some theMethod := by decide +kernel
set_option maxRecDepth 65536 in
theorem w_hears : about1.hears theMethod below0 = true := by decide +kernel
set_option maxRecDepth 65536 in
theorem w_ripe : about1.ripe theMethod args0 below0 = true := by decide +kernel
theorem w_running : about1.status = .running := rfl
set_option maxRecDepth 65536 in
theorem w_room : about1.hasRoom e0.platform room_1 = true :=
  launch0.hasRoom_least _ room_1 (by decide +kernel) (by decide +kernel) (by decide +kernel) (by decide +kernel) (by decide +kernel) (by decide +kernel)
theorem allAtoms_all (ts : List Jvm.Cond) (a : Array Jvm.Value) (st : Jvm.State) : (allAtoms ts).before a st = ts.all (fun c => c.before a st) := by
  induction ts with
  | nil => rfl
  | cons c t ih =>
    show (Jvm.Cond.and c (allAtoms t)).before a st = _
    rw [Jvm.Cond.before_and, ih, List.all_cons]
def words1 : List Jvm.Cond := Jvm.Cond.code x code maxLocals ret :: tables_1
/-- a 'code' word, met by the world's own term for the bytes: nothing is compared byte by byte -/
theorem code_word {y : MethodName} {bytes : ByteArray} {mx : Nat} {rt : Option FieldType} {a : Array Value} {s : State} {m : MethodId} {meth : Method} {c : Code} (h1 : s.methodNamed? y = some m) (h2 : s.vm.method? m = some meth) (h3 : meth.code = some c) (h4 : c.code = bytes)
    (h5 : (c.maxLocals == mx && c.exceptionTable.isEmpty && decide (c.maxStack ≤ mostOperands) && decide (meth.sig.returnType = rt) && !meth.locks && decide (parseMethodDescriptor y.desc = some meth.sig)) = true) : (Jvm.Cond.code y bytes mx rt).before a s = true := by
  simp only [Bool.and_eq_true, beq_iff_eq, Bool.not_eq_true', decide_eq_true_eq] at h5
  obtain ⟨⟨⟨⟨⟨g1, g2⟩, g3⟩, g4⟩, g5⟩, g6⟩ := h5
  simp [Cond.before, Cond.holds, Cond.value, h1, h2, h3, h4, g1, g2, g3, g4, g5, g6]
def isCode : Jvm.Cond → Bool
  | .code _ _ _ _ => true
  | _ => false
theorem all_split {L : List Jvm.Cond} {P : Jvm.Cond → Bool} (h1 : L.all (fun c => isCode c || P c) = true) (h2 : ∀ c ∈ L.filter isCode, P c = true) : L.all P = true := by
  refine List.all_eq_true.mpr fun c hc => ?_
  have h := List.all_eq_true.mp h1 c hc
  rcases Bool.eq_false_or_eq_true (isCode c) with hi | hi
  · exact h2 c (List.mem_filter.mpr ⟨hc, hi⟩)
  · simpa [hi] using h
set_option maxRecDepth 65536 in
theorem w_c0 : (Jvm.Cond.code x code maxLocals ret).before args0 about1 = true := code_word (m := ⟨1, 1⟩) (meth := k1m1) (c := k1c1) (by decide +kernel) rfl rfl rfl (by decide +kernel)
set_option maxRecDepth 65536 in
theorem w_c1 : (Jvm.Cond.code ({ cls := "com/example/daily_spend_pacer/dailyspendpacer/io/ReplayEvent$Kind", name := "ofWallet", desc := "()Z" } : Jvm.MethodName) prog_12_method_7_code (1 : Nat) (Option.some Jvm.ClassFile.FieldType.boolean)).before args0 about1 = true := code_word (m := ⟨6, 0⟩) (meth := k6m0) (c := k6c0) (by decide +kernel) rfl rfl rfl (by decide +kernel)
def codes1 : List Jvm.Cond := [Jvm.Cond.code x code maxLocals ret, Jvm.Cond.code ({ cls := "com/example/daily_spend_pacer/dailyspendpacer/io/ReplayEvent$Kind", name := "ofWallet", desc := "()Z" } : Jvm.MethodName) prog_12_method_7_code (1 : Nat) (Option.some Jvm.ClassFile.FieldType.boolean)]
set_option maxRecDepth 65536 in
theorem codes_eq : words1.filter isCode = codes1 := rfl
theorem w_codes : ∀ c ∈ words1.filter isCode, c.before args0 about1 = true := by
  rw [codes_eq]
  intro c hc
  simp only [codes1, List.mem_cons, List.not_mem_nil, or_false] at hc
  rcases hc with rfl | rfl
  · exact w_c0
  · exact w_c1
set_option maxRecDepth 65536 in
theorem w_t1 : (words1.take 24).all (fun c => isCode c || c.before args0 about1) = true := by decide +kernel
set_option maxRecDepth 65536 in
theorem w_t2 : ((words1.drop 24).take 24).all (fun c => isCode c || c.before args0 about1) = true := by decide +kernel
set_option maxRecDepth 65536 in
theorem w_t3 : ((words1.drop 24).drop 24).all (fun c => isCode c || c.before args0 about1) = true := by decide +kernel
theorem w_tables : (allAtoms (Jvm.Cond.code x code maxLocals ret :: tables_1)).before args0 about1 = true := by
  rw [allAtoms_all]
  show words1.all (fun c => c.before args0 about1) = true
  refine all_split ?_ w_codes
  rw [← List.take_append_drop 24 words1, List.all_append, w_t1, ← List.take_append_drop 24 (words1.drop 24), List.all_append, w_t2, w_t3]
  rfl
set_option maxRecDepth 65536 in
theorem w_case : (Jvm.Cond.and given_1 narrow_1).before args0 about1 = true := by decide +kernel
theorem w_applies : (headSpec (Jvm.Cond.code x code maxLocals ret :: tables_1) room_1).applies x e0.platform about1 = true :=
  (Spec.applies_iff w_frames).mpr ⟨w_running, w_runnable, w_alone, w_named, w_hears, w_ripe, w_room, w_tables⟩
theorem atStart : AtStart classFile x code maxLocals ret World_1 tables_1 room_1 Calls_1 rest_1 Pre_1 launch0 p0 e0 about1 theMethod args0 below0 :=
  ⟨lists_1, trivial, launch0.admits_env _ _ _, launch0.least_env, fairChoices_fair.cas, fairChoices_fair.clock, w_frames, w_args, w_heap, w_applies, trivial, trivial, w_case⟩
end start1
theorem witness_1 : WitnessClaimed_1 := ⟨start1.p0, start1.e0, start1.about1, start1.theMethod, start1.args0, start1.below0, start1.atStart⟩
end Jvm.Pilot.@@N@@
