import JvmDerived
import JvmDerived.Pilot.@@N@@Statement
import JvmDerived.Pilot.@@N@@Code
set_option linter.unusedVariables false
set_option linter.unusedSimpArgs false
namespace Jvm.RoadKit
open Sem ClassFile Op Lib Jvm.Stand Jvm.Free Jvm.LawKit
section Own
variable {p : Program} {l : Launch} {e : Env} {R : Room} {s : State} {m : MethodId} {args : Array Value} {below : List Frame} {meth : Method} {c : Code} {T A B : State} {locs : List Loc} {cells slots K N : Nat} {Q : Option Value → Heap → List Loc → Prop}
/-- from A the walk comes to its end, and Q holds there -/
def OutW (p : Program) (e : Env) (below : List Frame) (s : State) (K N : Nat) (Q : Option Value → Heap → List Loc → Prop) (A : State) : Prop :=
  ∃ s₂ o, Steps p.tables e below A s₂ ∧ s₂.status = .running ∧ Ended s₂ below o ∧ ∃ v L, o = .returned v ∧ Q v s₂.heap L ∧ FrameEnd s o s₂ L K N
/-- a body that writes nothing: what it returns -/
def Qpure (h0 : Heap) (n0 : Nat) (r : Value) (v : Option Value) (h : Heap) (L : List Loc) : Prop := v = some r ∧ Fr n0 L ∧ h = h0
theorem OutW.back (h : ∀ t, Steps p.tables e below B t → Steps p.tables e below A t) (k : OutW p e below s K N Q B) : OutW p e below s K N Q A := by
  obtain ⟨t, o, h1, h2⟩ := k
  exact ⟨t, o, h t h1, h2⟩
theorem OutW.via (h : Steps p.tables e below A B) (k : OutW p e below s K N Q B) : OutW p e below s K N Q A := by
  obtain ⟨t, o, h1, h2⟩ := k
  exact ⟨t, o, h.trans h1, h2⟩
theorem OutW.retV (X : Stand p l e R s m args below meth c T locs cells slots) (hx : p.tables.exec = Jvm.exec) {pc : Nat} {Ls : Array Slot} (hret : meth.sig.returnType = none) (hlk : meth.locks = false) (hd : decode c.code pc = .ok (.return_, 1))
    (hK : cells ≤ K) (hN : slots ≤ N) (hq : Q none T.heap locs) : OutW p e below s K N Q (T.setTop (mkF m pc Ls [])) := by
  obtain ⟨fs, hr, hrun, hended, hW, hsame⟩ := X.leave (v := none) (fun _ => rfl) hlk
  exact ⟨_, _, X.returnOut hx hret hd hr, hrun, hended, _, _, rfl, hq, ⟨_, rfl⟩, hW, hsame.mono hK hN⟩
theorem OutW.retI (X : Stand p l e R s m args below meth c T locs cells slots) (hx : p.tables.exec = Jvm.exec) {pc : Nat} {Ls : Array Slot} {z : Int32} {rest : List Value} (hret : meth.sig.returnType = some .int) (hlk : meth.locks = false) (hd : decode c.code pc = .ok (.ireturn, 1))
    (hK : cells ≤ K) (hN : slots ≤ N) (hq : Q (some (.int z)) T.heap locs) : OutW p e below s K N Q (T.setTop (mkF m pc Ls (.int z :: rest))) := by
  obtain ⟨fs, hr, hrun, hended, hW, hsame⟩ := X.leave (v := some (.int z)) (fun h => by rw [hret] at h; cases h) hlk
  exact ⟨_, _, retOut X hx hret rfl (Or.inl ⟨rfl, Or.inl rfl, z, rfl⟩) hd hr, hrun, hended, _, _, rfl, hq, ⟨_, rfl⟩, hW, hsame.mono hK hN⟩
theorem OutW.retJ (X : Stand p l e R s m args below meth c T locs cells slots) (hx : p.tables.exec = Jvm.exec) {pc : Nat} {Ls : Array Slot} {z : Int64} {rest : List Value} (hret : meth.sig.returnType = some .long) (hlk : meth.locks = false) (hd : decode c.code pc = .ok (.lreturn, 1))
    (hK : cells ≤ K) (hN : slots ≤ N) (hq : Q (some (.long z)) T.heap locs) : OutW p e below s K N Q (T.setTop (mkF m pc Ls (.long z :: rest))) := by
  obtain ⟨fs, hr, hrun, hended, hW, hsame⟩ := X.leave (v := some (.long z)) (fun h => by rw [hret] at h; cases h) hlk
  exact ⟨_, _, retOut X hx hret rfl (Or.inr (Or.inl ⟨rfl, rfl, z, rfl⟩)) hd hr, hrun, hended, _, _, rfl, hq, ⟨_, rfl⟩, hW, hsame.mono hK hN⟩
theorem nar_ref {t : FieldType} {v : Value} (h : v.isRef = true) : narrow t v = v := by
  rcases ref_cases h with rfl | ⟨a, rfl⟩ <;> cases t <;> rfl
theorem cat_ref {v : Value} (h : v.isRef = true) : v.category = 1 := by
  rcases ref_cases h with rfl | ⟨a, rfl⟩ <;> rfl
theorem fit_ref {t : FieldType} {v : Value} (ht : refKind t = true) (h : v.isRef = true) : fits t v = true := by
  rcases ref_cases h with rfl | ⟨a, rfl⟩ <;> cases t <;> first | rfl | (simp [refKind] at ht)
theorem OutW.retA (X : Stand p l e R s m args below meth c T locs cells slots) (hx : p.tables.exec = Jvm.exec) {pc : Nat} {Ls : Array Slot} {w : Value} {t : FieldType} {rest : List Value} (hret : meth.sig.returnType = some t) (ht : t.isReference = true) (hw : w.isRef = true) (hlk : meth.locks = false) (hd : decode c.code pc = .ok (.areturn, 1))
    (hK : cells ≤ K) (hN : slots ≤ N) (hq : Q (some w) T.heap locs) : OutW p e below s K N Q (T.setTop (mkF m pc Ls (w :: rest))) := by
  obtain ⟨fs, hr, hrun, hended, hW, hsame⟩ := X.leave (v := some w) (fun h => by rw [hret] at h; cases h) hlk
  exact ⟨_, _, retOut X hx hret (nar_ref hw) (Or.inr (Or.inr (Or.inr (Or.inr ⟨rfl, ht, hw⟩)))) hd hr, hrun, hended, _, _, rfl, hq, ⟨_, rfl⟩, hW, hsame.mono hK hN⟩
theorem OutW.retN (X : Stand p l e R s m args below meth c T locs cells slots) (hx : p.tables.exec = Jvm.exec) {pc : Nat} {Ls : Array Slot} {z z' : Int32} {t : FieldType} {rest : List Value} (hret : meth.sig.returnType = some t) (ht : t = .boolean ∨ t = .byte ∨ t = .char ∨ t = .short) (hlk : meth.locks = false) (hd : decode c.code pc = .ok (.ireturn, 1)) (hz : nar t z = z')
    (hK : cells ≤ K) (hN : slots ≤ N) (hq : Q (some (.int z')) T.heap locs) : OutW p e below s K N Q (T.setTop (mkF m pc Ls (.int z :: rest))) := by
  subst hz
  obtain ⟨fs, hr, hrun, hended, hW, hsame⟩ := X.leave (v := some (.int (nar t z))) (fun h => by rw [hret] at h; cases h) hlk
  exact ⟨_, _, Jvm.RoadKit.retN X hx hret ht hd hr, hrun, hended, _, _, rfl, hq, ⟨_, rfl⟩, hW, hsame.mono hK hN⟩
theorem store1' {L L' : Array Slot} {i : Nat} {v : Value} {o : Slot} (hold : L[i]? = some o) (ho : One o) (hv : v.category = 1) (h : L.setIfInBounds i (.val v) = L') : storeLocals L i v = some L' := h ▸ XS.store1 hold ho hv
theorem own_lt_mono {x a b : Int32} (h : x < a) (q : a ≤ b) : x < b := by
  rw [Int32.lt_iff_toInt_lt] at *
  rw [Int32.le_iff_toInt_le] at q
  omega
theorem own_nlt_mono {x a b : Int32} (h : ¬ x < a) (q : b ≤ a) : ¬ x < b := by
  rw [Int32.lt_iff_toInt_lt] at *
  rw [Int32.le_iff_toInt_le] at q
  omega
/-- every element of the array's cell is an object of exactly that class -/
def Els (Z : State) (h : Heap) (cl : Cell) (C : String) : Prop := ∀ j : Int32, ¬ (j < 0 ∨ cl.slots.size ≤ j.toNatClampNeg) → ∃ y : Addr, cl.slots[j.toNatClampNeg]? = some (.ref y) ∧ Exa Z h y C
theorem own_Uext {Z : State} {h h' : Heap} {cl : Cell} {C : String} (U : Els Z h cl C) (E : Ext h h') : Els Z h' cl C := fun j hj => by
  obtain ⟨y, a, b⟩ := U j hj
  exact ⟨y, a, b.ext E⟩
theorem own_Uwr {Z : State} {h h' : Heap} {cl : Cell} {C : String} {a : Addr} {sl : Nat} {v : Value} (U : Els Z h cl C) (W : Wr h h' a sl v) : Els Z h' cl C := fun j hj => by
  obtain ⟨y, q, b⟩ := U j hj
  exact ⟨y, q, b.wr W⟩
theorem own_Ukeep {Z : State} {h h' : Heap} {cl : Cell} {C : String} {ws : List Addr} (U : Els Z h cl C) (K : Keep h h' ws) : Els Z h' cl C := fun j hj => by
  obtain ⟨y, a, b⟩ := U j hj
  exact ⟨y, a, b.keep K⟩
theorem own_Akeep {Z : State} {h h' : Heap} {a : Addr} {c : Cell} {ty : FieldType} {ws : List Addr} (A : Arr Z h a c ty) (K : Keep h h' ws) (q : a ∉ ws) : Arr Z h' a c ty := ⟨K.2.1 a c A.1 q, A.2⟩
theorem own_notFace {args : Array Value} {s : State} {C : String} {x z y : MethodName} (h : (Cond.selects C x z).before args s = true) (e : y.cls = z.cls) : NotFace s y := fun r0 h0 => by
  obtain ⟨c, r, m, q1, q2, q3, q4, mk, k1, k2⟩ := Cond.selects_spec h
  have a := findClass_of_methodNamed h0
  have b := findClass_of_methodNamed q3
  rw [e] at a
  have i : r0.cls = m.cls := Option.some.inj (a.symm.trans b)
  exact ⟨mk, by rw [i]; exact k1, k2⟩
theorem own_keepS {Z : State} {h h' : Heap} {C n d : String} {v : Value} {ws : List Addr} (F : Sta Z h C n d v) (K : Keep h h' ws) (q : ∀ x ∈ ws, ∃ C', Exa Z h x C') : Sta Z h' C n d v := by
  obtain ⟨cf, i, k, f, st, cell, h1, h2, h3, h4, h5, h6, h7⟩ := F
  have ne : st ∉ ws := fun hm => by
    obtain ⟨C', c', k', e1, -, -, e4, -⟩ := q st hm
    cases h5.symm.trans e1
    rw [h6] at e4; cases e4
  exact ⟨cf, i, k, f, st, cell, h1, h2, h3, h4, K.2.1 _ _ h5 ne, h6, h7⟩
end Own
end Jvm.RoadKit
namespace Jvm.Pilot.@@N@@
open Jvm Jvm.ClassFile Sem Op Lib Jvm.Free Jvm.Stand Jvm.LawKit Jvm.RoadKit Bundle Jvm.Pilot.@@N@@.Jvm.D
theorem eqI (a b : Int32) : (a = b) = (a.toInt = b.toInt) := propext Int32.toInt_inj.symm
theorem own_getD (l : List Int32) (n : Nat) (d : Int32) : (l.map Value.int).getD n (.int d) = .int (l.getD n d) := by
  induction l generalizing n with
  | nil => cases n <;> rfl
  | cons a t ih =>
    cases n with
    | zero => rfl
    | succ n => exact ih n
theorem own_idx (k : Int32) : ¬ ((k &&& (2147483647 : Int32)) % (30 : Int32)) < 0 ∧ ((k &&& (2147483647 : Int32)) % (30 : Int32)) < (30 : Int32) := by
  have h := c_and k (2147483647 : Int32) (by decide)
  have r := (c_irem (k &&& (2147483647 : Int32)) (30 : Int32) 30 (by decide)).1 h.1
  simp only [Int32.lt_iff_toInt_lt, Int32.reduceToInt, r]
  omega
def ncx_179 (p1 : Int32) : Int32 := (if p1 < (65536 : Int32) then (0 : Int32) else (if (983039 : Int32) < p1 then (0 : Int32) else (1 : Int32)))
def ncx_167 (p1 : Int32) : Int32 := (if p1 < (65008 : Int32) then (ncx_179 p1) else (if (65533 : Int32) < p1 then (ncx_179 p1) else (1 : Int32)))
def ncx_155 (p1 : Int32) : Int32 := (if p1 < (63744 : Int32) then (ncx_167 p1) else (if (64975 : Int32) < p1 then (ncx_167 p1) else (1 : Int32)))
def ncx_142 (p1 : Int32) : Int32 := (if p1 < (12289 : Int32) then (ncx_155 p1) else (if (55295 : Int32) < p1 then (ncx_155 p1) else (1 : Int32)))
def ncx_128 (p1 : Int32) : Int32 := (if p1 < (11264 : Int32) then (ncx_142 p1) else (if (12271 : Int32) < p1 then (ncx_142 p1) else (1 : Int32)))
def ncx_114 (p1 : Int32) : Int32 := (if p1 < (8304 : Int32) then (ncx_128 p1) else (if (8591 : Int32) < p1 then (ncx_128 p1) else (1 : Int32)))
def ncx_100 (p1 : Int32) : Int32 := (if p1 < (8204 : Int32) then (ncx_114 p1) else (if (8205 : Int32) < p1 then (ncx_114 p1) else (1 : Int32)))
def ncx_86 (p1 : Int32) : Int32 := (if p1 < (895 : Int32) then (ncx_100 p1) else (if (8191 : Int32) < p1 then (ncx_100 p1) else (1 : Int32)))
def ncx_72 (p1 : Int32) : Int32 := (if p1 < (880 : Int32) then (ncx_86 p1) else (if (893 : Int32) < p1 then (ncx_86 p1) else (1 : Int32)))
def ncx_58 (p1 : Int32) : Int32 := (if p1 < (248 : Int32) then (ncx_72 p1) else (if (767 : Int32) < p1 then (ncx_72 p1) else (1 : Int32)))
def ncx_44 (p1 : Int32) : Int32 := (if p1 < (216 : Int32) then (ncx_58 p1) else (if (246 : Int32) < p1 then (ncx_58 p1) else (1 : Int32)))
def ncx_30 (p1 : Int32) : Int32 := (if p1 < (192 : Int32) then (ncx_44 p1) else (if (214 : Int32) < p1 then (ncx_44 p1) else (1 : Int32)))
def ncx_24 (p1 : Int32) : Int32 := (if p1 = (95 : Int32) then (1 : Int32) else (ncx_30 p1))
def ncx_12 (p1 : Int32) : Int32 := (if p1 < (65 : Int32) then (ncx_24 p1) else (if (90 : Int32) < p1 then (ncx_24 p1) else (1 : Int32)))
def ncx_0 (p1 : Int32) : Int32 := (if p1 < (97 : Int32) then (ncx_12 p1) else (if (122 : Int32) < p1 then (ncx_12 p1) else (1 : Int32)))
theorem d2_0 : decode prog_233_method_3_code 0 = .ok (.iload_n 0, 1) := by decide +kernel
theorem d2_1 : decode prog_233_method_3_code 1 = .ok (.bipush 97, 2) := by decide +kernel
theorem d2_3 : decode prog_233_method_3_code 3 = .ok (.if_icmp .lt 9, 3) := by decide +kernel
theorem d2_6 : decode prog_233_method_3_code 6 = .ok (.iload_n 0, 1) := by decide +kernel
theorem d2_7 : decode prog_233_method_3_code 7 = .ok (.bipush 122, 2) := by decide +kernel
theorem d2_9 : decode prog_233_method_3_code 9 = .ok (.if_icmp .le 182, 3) := by decide +kernel
theorem d2_12 : decode prog_233_method_3_code 12 = .ok (.iload_n 0, 1) := by decide +kernel
theorem d2_13 : decode prog_233_method_3_code 13 = .ok (.bipush 65, 2) := by decide +kernel
theorem d2_15 : decode prog_233_method_3_code 15 = .ok (.if_icmp .lt 9, 3) := by decide +kernel
theorem d2_18 : decode prog_233_method_3_code 18 = .ok (.iload_n 0, 1) := by decide +kernel
theorem d2_19 : decode prog_233_method_3_code 19 = .ok (.bipush 90, 2) := by decide +kernel
theorem d2_21 : decode prog_233_method_3_code 21 = .ok (.if_icmp .le 170, 3) := by decide +kernel
theorem d2_24 : decode prog_233_method_3_code 24 = .ok (.iload_n 0, 1) := by decide +kernel
theorem d2_25 : decode prog_233_method_3_code 25 = .ok (.bipush 95, 2) := by decide +kernel
theorem d2_27 : decode prog_233_method_3_code 27 = .ok (.if_icmp .eq 164, 3) := by decide +kernel
theorem d2_30 : decode prog_233_method_3_code 30 = .ok (.iload_n 0, 1) := by decide +kernel
theorem d2_31 : decode prog_233_method_3_code 31 = .ok (.sipush 192, 3) := by decide +kernel
theorem d2_34 : decode prog_233_method_3_code 34 = .ok (.if_icmp .lt 10, 3) := by decide +kernel
theorem d2_37 : decode prog_233_method_3_code 37 = .ok (.iload_n 0, 1) := by decide +kernel
theorem d2_38 : decode prog_233_method_3_code 38 = .ok (.sipush 214, 3) := by decide +kernel
theorem d2_41 : decode prog_233_method_3_code 41 = .ok (.if_icmp .le 150, 3) := by decide +kernel
theorem d2_44 : decode prog_233_method_3_code 44 = .ok (.iload_n 0, 1) := by decide +kernel
theorem d2_45 : decode prog_233_method_3_code 45 = .ok (.sipush 216, 3) := by decide +kernel
theorem d2_48 : decode prog_233_method_3_code 48 = .ok (.if_icmp .lt 10, 3) := by decide +kernel
theorem d2_51 : decode prog_233_method_3_code 51 = .ok (.iload_n 0, 1) := by decide +kernel
theorem d2_52 : decode prog_233_method_3_code 52 = .ok (.sipush 246, 3) := by decide +kernel
theorem d2_55 : decode prog_233_method_3_code 55 = .ok (.if_icmp .le 136, 3) := by decide +kernel
theorem d2_58 : decode prog_233_method_3_code 58 = .ok (.iload_n 0, 1) := by decide +kernel
theorem d2_59 : decode prog_233_method_3_code 59 = .ok (.sipush 248, 3) := by decide +kernel
theorem d2_62 : decode prog_233_method_3_code 62 = .ok (.if_icmp .lt 10, 3) := by decide +kernel
theorem d2_65 : decode prog_233_method_3_code 65 = .ok (.iload_n 0, 1) := by decide +kernel
theorem d2_66 : decode prog_233_method_3_code 66 = .ok (.sipush 767, 3) := by decide +kernel
theorem d2_69 : decode prog_233_method_3_code 69 = .ok (.if_icmp .le 122, 3) := by decide +kernel
theorem d2_72 : decode prog_233_method_3_code 72 = .ok (.iload_n 0, 1) := by decide +kernel
theorem d2_73 : decode prog_233_method_3_code 73 = .ok (.sipush 880, 3) := by decide +kernel
theorem d2_76 : decode prog_233_method_3_code 76 = .ok (.if_icmp .lt 10, 3) := by decide +kernel
theorem d2_79 : decode prog_233_method_3_code 79 = .ok (.iload_n 0, 1) := by decide +kernel
theorem d2_80 : decode prog_233_method_3_code 80 = .ok (.sipush 893, 3) := by decide +kernel
theorem d2_83 : decode prog_233_method_3_code 83 = .ok (.if_icmp .le 108, 3) := by decide +kernel
theorem d2_86 : decode prog_233_method_3_code 86 = .ok (.iload_n 0, 1) := by decide +kernel
theorem d2_87 : decode prog_233_method_3_code 87 = .ok (.sipush 895, 3) := by decide +kernel
theorem d2_90 : decode prog_233_method_3_code 90 = .ok (.if_icmp .lt 10, 3) := by decide +kernel
theorem d2_93 : decode prog_233_method_3_code 93 = .ok (.iload_n 0, 1) := by decide +kernel
theorem d2_94 : decode prog_233_method_3_code 94 = .ok (.sipush 8191, 3) := by decide +kernel
theorem d2_97 : decode prog_233_method_3_code 97 = .ok (.if_icmp .le 94, 3) := by decide +kernel
theorem d2_100 : decode prog_233_method_3_code 100 = .ok (.iload_n 0, 1) := by decide +kernel
theorem d2_101 : decode prog_233_method_3_code 101 = .ok (.sipush 8204, 3) := by decide +kernel
theorem d2_104 : decode prog_233_method_3_code 104 = .ok (.if_icmp .lt 10, 3) := by decide +kernel
theorem d2_107 : decode prog_233_method_3_code 107 = .ok (.iload_n 0, 1) := by decide +kernel
theorem d2_108 : decode prog_233_method_3_code 108 = .ok (.sipush 8205, 3) := by decide +kernel
theorem d2_111 : decode prog_233_method_3_code 111 = .ok (.if_icmp .le 80, 3) := by decide +kernel
theorem d2_114 : decode prog_233_method_3_code 114 = .ok (.iload_n 0, 1) := by decide +kernel
theorem d2_115 : decode prog_233_method_3_code 115 = .ok (.sipush 8304, 3) := by decide +kernel
theorem d2_118 : decode prog_233_method_3_code 118 = .ok (.if_icmp .lt 10, 3) := by decide +kernel
theorem d2_121 : decode prog_233_method_3_code 121 = .ok (.iload_n 0, 1) := by decide +kernel
theorem d2_122 : decode prog_233_method_3_code 122 = .ok (.sipush 8591, 3) := by decide +kernel
theorem d2_125 : decode prog_233_method_3_code 125 = .ok (.if_icmp .le 66, 3) := by decide +kernel
theorem d2_128 : decode prog_233_method_3_code 128 = .ok (.iload_n 0, 1) := by decide +kernel
theorem d2_129 : decode prog_233_method_3_code 129 = .ok (.sipush 11264, 3) := by decide +kernel
theorem d2_132 : decode prog_233_method_3_code 132 = .ok (.if_icmp .lt 10, 3) := by decide +kernel
theorem d2_135 : decode prog_233_method_3_code 135 = .ok (.iload_n 0, 1) := by decide +kernel
theorem d2_136 : decode prog_233_method_3_code 136 = .ok (.sipush 12271, 3) := by decide +kernel
theorem d2_139 : decode prog_233_method_3_code 139 = .ok (.if_icmp .le 52, 3) := by decide +kernel
theorem d2_142 : decode prog_233_method_3_code 142 = .ok (.iload_n 0, 1) := by decide +kernel
theorem d2_143 : decode prog_233_method_3_code 143 = .ok (.sipush 12289, 3) := by decide +kernel
theorem d2_146 : decode prog_233_method_3_code 146 = .ok (.if_icmp .lt 9, 3) := by decide +kernel
theorem d2_149 : decode prog_233_method_3_code 149 = .ok (.iload_n 0, 1) := by decide +kernel
theorem d2_150 : decode prog_233_method_3_code 150 = .ok (.ldc 7, 2) := by decide +kernel
theorem d2_152 : decode prog_233_method_3_code 152 = .ok (.if_icmp .le 39, 3) := by decide +kernel
theorem d2_155 : decode prog_233_method_3_code 155 = .ok (.iload_n 0, 1) := by decide +kernel
theorem d2_156 : decode prog_233_method_3_code 156 = .ok (.ldc 8, 2) := by decide +kernel
theorem d2_158 : decode prog_233_method_3_code 158 = .ok (.if_icmp .lt 9, 3) := by decide +kernel
theorem d2_161 : decode prog_233_method_3_code 161 = .ok (.iload_n 0, 1) := by decide +kernel
theorem d2_162 : decode prog_233_method_3_code 162 = .ok (.ldc 9, 2) := by decide +kernel
theorem d2_164 : decode prog_233_method_3_code 164 = .ok (.if_icmp .le 27, 3) := by decide +kernel
theorem d2_167 : decode prog_233_method_3_code 167 = .ok (.iload_n 0, 1) := by decide +kernel
theorem d2_168 : decode prog_233_method_3_code 168 = .ok (.ldc 10, 2) := by decide +kernel
theorem d2_170 : decode prog_233_method_3_code 170 = .ok (.if_icmp .lt 9, 3) := by decide +kernel
theorem d2_173 : decode prog_233_method_3_code 173 = .ok (.iload_n 0, 1) := by decide +kernel
theorem d2_174 : decode prog_233_method_3_code 174 = .ok (.ldc 11, 2) := by decide +kernel
theorem d2_176 : decode prog_233_method_3_code 176 = .ok (.if_icmp .le 15, 3) := by decide +kernel
theorem d2_179 : decode prog_233_method_3_code 179 = .ok (.iload_n 0, 1) := by decide +kernel
theorem d2_180 : decode prog_233_method_3_code 180 = .ok (.ldc 12, 2) := by decide +kernel
theorem d2_182 : decode prog_233_method_3_code 182 = .ok (.if_icmp .lt 13, 3) := by decide +kernel
theorem d2_185 : decode prog_233_method_3_code 185 = .ok (.iload_n 0, 1) := by decide +kernel
theorem d2_186 : decode prog_233_method_3_code 186 = .ok (.ldc 13, 2) := by decide +kernel
theorem d2_188 : decode prog_233_method_3_code 188 = .ok (.if_icmp .gt 7, 3) := by decide +kernel
theorem d2_191 : decode prog_233_method_3_code 191 = .ok (.iconst 1, 1) := by decide +kernel
theorem d2_192 : decode prog_233_method_3_code 192 = .ok (.goto 4, 3) := by decide +kernel
theorem d2_195 : decode prog_233_method_3_code 195 = .ok (.iconst 0, 1) := by decide +kernel
theorem d2_196 : decode prog_233_method_3_code 196 = .ok (.ireturn, 1) := by decide +kernel
theorem pn_2 : plainName "com/example/xml_document_query/xmldocumentquery/value/XmlCharacters" = true := by first | (simp [plainName, overriddenIn]; done) | decide +kernel
theorem ef_2 (m : MethodId) (x0 : Int32) : entryFrame m #[(.int x0)] 1 = mkF m 0 #[.val (.int x0)] [] := by first | (simp [entryFrame, mkF, argsToLocals, Value.category]; done) | rfl
def Q2 (Z : State) (p1 : Int32)  (h0 : Heap) (n0 : Nat) (v : Option Value) (h : Heap) (L : List Loc) : Prop := v = some (.int (ncx_0 p1)) ∧ Fr n0 L ∧ h = h0
set_option maxRecDepth 65536 in
set_option maxHeartbeats 40000000 in
theorem rm2 (l : Launch) (Z : State) (a0 : Array Value) (hw : ∀ d ∈ tables_1, d.before a0 Z = true) (ws : List Jvm.Cond) (p1 : Int32)  (h0 : Heap) (n0 : Nat) (Z0 : n0 ≤ h0.size) :
    MetFree l (⟨"com/example/xml_document_query/xmldocumentquery/value/XmlCharacters", "isNCNameStartChar", "(I)Z"⟩ : MethodName) (head1 (Jvm.Cond.code (⟨"com/example/xml_document_query/xmldocumentquery/value/XmlCharacters", "isNCNameStartChar", "(I)Z"⟩ : MethodName) prog_233_method_3_code 1 (some .boolean) :: ws) ({ frames := 0, cells := 0, slots := 0, locals := 0 } : Room)) (fun a U => a = #[(.int p1)] ∧ Z.Warmed39 U.vm ∧ U.heap = h0) (fun _ _ _ _ _ => True) (fun _ U o U' => ∃ v L, o = .returned v ∧ Q2 Z p1 h0 n0 v U'.heap L ∧ FrameEnd U o U' L ({ frames := 0, cells := 0, slots := 0, locals := 0 } : Room).cells ({ frames := 0, cells := 0, slots := 0, locals := 0 } : Room).slots) := by
  refine MetFree.of_bodySF (plainFor_of_name pn_2) hisR ?_
  intro p e s m args below meth c s₁ Bd hml0 hP hK
  obtain ⟨rfl, hZ, hh⟩ := hP
  have hx := Bd.exec
  have hby := Bd.bytes
  have hlk := Bd.notSynchronized
  have hml : c.maxLocals = 1 := hml0
  have hown : s.vm.findClass "com/example/xml_document_query/xmldocumentquery/value/XmlCharacters" = some m.cls := findClass_of_methodNamed Bd.named
  have hnm := (name_of_methodNamed Bd.named Bd.method).1
  have X0 : Stand p l e ({ frames := 0, cells := 0, slots := 0, locals := 0 } : Room) s m #[(.int p1)] below meth c s₁ [] 0 0 := Stand.of_body Bd
  have e0 : s₁.heap = h0 := by rw [← hh, Bd.state]; rfl
  have N0 := Fr.nil n0
  have K0 : Keep h0 h0 [] := Keep.refl h0 _
  show OutW p e below s ({ frames := 0, cells := 0, slots := 0, locals := 0 } : Room).cells ({ frames := 0, cells := 0, slots := 0, locals := 0 } : Room).slots (Qpure h0 n0 (.int (ncx_0 p1))) _
  refine OutW.back (fun t k => castTop (ef_2 m p1) k) ?_
  show OutW _ _ _ _ _ _ _ (s₁.setTop (mkF m 0 #[.val (.int p1)] []))
  have b_179 : OutW p e below s 0 0 (Qpure h0 n0 (.int (ncx_179 p1))) (s₁.setTop (mkF m 179 #[.val (.int p1)] [])) := by
    refine OutW.back (fun t k => XS.iloadN X0.here hx rfl (hb hby d2_179) rfl  k) ?_
    show OutW _ _ _ _ _ _ _ (s₁.setTop (mkF m 180 #[.val (.int p1)] [(.int p1)]))
    refine OutW.back (X0.ldcInt hx hown (mvT hZ (hw _ (List.mem_of_getElem? (i := 19) rfl))) (g := (mkF m 180 #[.val (.int p1)] [(.int p1)])) rfl (hb hby d2_180)) ?_
    show OutW _ _ _ _ _ _ _ (s₁.setTop (mkF m 182 #[.val (.int p1)] [(.int (65536 : Int32)), (.int p1)]))
    by_cases c182_1 : p1 < (65536 : Int32)
    · skip
      refine OutW.back (fun t k => XS.icmpYes X0.here hx rfl (pc0 := 182) (pc' := 195) rfl (hb hby d2_182) rfl (tlt c182_1).1 (by decide) (by decide) k) ?_
      show OutW _ _ _ _ _ _ _ (s₁.setTop (mkF m 195 #[.val (.int p1)] []))
      refine OutW.back (fun t k => XS.iconst X0.here hx rfl (hb hby d2_195) k) ?_
      show OutW _ _ _ _ _ _ _ (s₁.setTop (mkF m 196 #[.val (.int p1)] [(.int (0 : Int32))]))
      refine OutW.retN X0 hx (t := .boolean) (z' := (0 : Int32)) Bd.returns (by simp) hlk (hb hby d2_196) ?hz (by decide) (by decide) ?_
      case hz =>
        rfl
      show Qpure h0 n0 _ _ s₁.heap _
      rw [e0]
      exact ⟨by rw [ncx_179, if_pos c182_1], N0, rfl⟩
    · skip
      refine OutW.back (fun t k => XS.icmpNo X0.here hx rfl (hb hby d2_182) rfl (flt c182_1).1 k) ?_
      show OutW _ _ _ _ _ _ _ (s₁.setTop (mkF m 185 #[.val (.int p1)] []))
      refine OutW.back (fun t k => XS.iloadN X0.here hx rfl (hb hby d2_185) rfl  k) ?_
      show OutW _ _ _ _ _ _ _ (s₁.setTop (mkF m 186 #[.val (.int p1)] [(.int p1)]))
      refine OutW.back (X0.ldcInt hx hown (mvT hZ (hw _ (List.mem_of_getElem? (i := 26) rfl))) (g := (mkF m 186 #[.val (.int p1)] [(.int p1)])) rfl (hb hby d2_186)) ?_
      show OutW _ _ _ _ _ _ _ (s₁.setTop (mkF m 188 #[.val (.int p1)] [(.int (983039 : Int32)), (.int p1)]))
      by_cases c188_2 : (983039 : Int32) < p1
      · skip
        refine OutW.back (fun t k => XS.icmpYes X0.here hx rfl (pc0 := 188) (pc' := 195) rfl (hb hby d2_188) rfl (tlt c188_2).2.2.1 (by decide) (by decide) k) ?_
        show OutW _ _ _ _ _ _ _ (s₁.setTop (mkF m 195 #[.val (.int p1)] []))
        refine OutW.back (fun t k => XS.iconst X0.here hx rfl (hb hby d2_195) k) ?_
        show OutW _ _ _ _ _ _ _ (s₁.setTop (mkF m 196 #[.val (.int p1)] [(.int (0 : Int32))]))
        refine OutW.retN X0 hx (t := .boolean) (z' := (0 : Int32)) Bd.returns (by simp) hlk (hb hby d2_196) ?hz (by decide) (by decide) ?_
        case hz =>
          rfl
        show Qpure h0 n0 _ _ s₁.heap _
        rw [e0]
        exact ⟨by rw [ncx_179, if_neg c182_1, if_pos c188_2], N0, rfl⟩
      · skip
        refine OutW.back (fun t k => XS.icmpNo X0.here hx rfl (hb hby d2_188) rfl (flt c188_2).2.2.1 k) ?_
        show OutW _ _ _ _ _ _ _ (s₁.setTop (mkF m 191 #[.val (.int p1)] []))
        refine OutW.back (fun t k => XS.iconst X0.here hx rfl (hb hby d2_191) k) ?_
        show OutW _ _ _ _ _ _ _ (s₁.setTop (mkF m 192 #[.val (.int p1)] [(.int (1 : Int32))]))
        refine OutW.back (fun t k => XS.goto X0.here hx rfl (pc0 := 192) (pc' := 196) rfl (hb hby d2_192) (by decide) (by decide) k) ?_
        show OutW _ _ _ _ _ _ _ (s₁.setTop (mkF m 196 #[.val (.int p1)] [(.int (1 : Int32))]))
        refine OutW.retN X0 hx (t := .boolean) (z' := (1 : Int32)) Bd.returns (by simp) hlk (hb hby d2_196) ?hz (by decide) (by decide) ?_
        case hz =>
          rfl
        show Qpure h0 n0 _ _ s₁.heap _
        rw [e0]
        exact ⟨by rw [ncx_179, if_neg c182_1, if_neg c188_2], N0, rfl⟩
  have b_167 : OutW p e below s 0 0 (Qpure h0 n0 (.int (ncx_167 p1))) (s₁.setTop (mkF m 167 #[.val (.int p1)] [])) := by
    refine OutW.back (fun t k => XS.iloadN X0.here hx rfl (hb hby d2_167) rfl  k) ?_
    show OutW _ _ _ _ _ _ _ (s₁.setTop (mkF m 168 #[.val (.int p1)] [(.int p1)]))
    refine OutW.back (X0.ldcInt hx hown (mvT hZ (hw _ (List.mem_of_getElem? (i := 18) rfl))) (g := (mkF m 168 #[.val (.int p1)] [(.int p1)])) rfl (hb hby d2_168)) ?_
    show OutW _ _ _ _ _ _ _ (s₁.setTop (mkF m 170 #[.val (.int p1)] [(.int (65008 : Int32)), (.int p1)]))
    by_cases c170_3 : p1 < (65008 : Int32)
    · skip
      refine OutW.back (fun t k => XS.icmpYes X0.here hx rfl (pc0 := 170) (pc' := 179) rfl (hb hby d2_170) rfl (tlt c170_3).1 (by decide) (by decide) k) ?_
      show OutW _ _ _ _ _ _ _ (s₁.setTop (mkF m 179 #[.val (.int p1)] []))
      have eqb : ncx_167 p1 = ncx_179 p1 := by rw [ncx_167, if_pos c170_3]
      rw [eqb]
      exact b_179
    · skip
      refine OutW.back (fun t k => XS.icmpNo X0.here hx rfl (hb hby d2_170) rfl (flt c170_3).1 k) ?_
      show OutW _ _ _ _ _ _ _ (s₁.setTop (mkF m 173 #[.val (.int p1)] []))
      refine OutW.back (fun t k => XS.iloadN X0.here hx rfl (hb hby d2_173) rfl  k) ?_
      show OutW _ _ _ _ _ _ _ (s₁.setTop (mkF m 174 #[.val (.int p1)] [(.int p1)]))
      refine OutW.back (X0.ldcInt hx hown (mvT hZ (hw _ (List.mem_of_getElem? (i := 25) rfl))) (g := (mkF m 174 #[.val (.int p1)] [(.int p1)])) rfl (hb hby d2_174)) ?_
      show OutW _ _ _ _ _ _ _ (s₁.setTop (mkF m 176 #[.val (.int p1)] [(.int (65533 : Int32)), (.int p1)]))
      by_cases c176_4 : (65533 : Int32) < p1
      · skip
        refine OutW.back (fun t k => XS.icmpNo X0.here hx rfl (hb hby d2_176) rfl (tlt c176_4).2.2.2 k) ?_
        show OutW _ _ _ _ _ _ _ (s₁.setTop (mkF m 179 #[.val (.int p1)] []))
        have eqb : ncx_167 p1 = ncx_179 p1 := by rw [ncx_167, if_neg c170_3, if_pos c176_4]
        rw [eqb]
        exact b_179
      · skip
        refine OutW.back (fun t k => XS.icmpYes X0.here hx rfl (pc0 := 176) (pc' := 191) rfl (hb hby d2_176) rfl (flt c176_4).2.2.2 (by decide) (by decide) k) ?_
        show OutW _ _ _ _ _ _ _ (s₁.setTop (mkF m 191 #[.val (.int p1)] []))
        refine OutW.back (fun t k => XS.iconst X0.here hx rfl (hb hby d2_191) k) ?_
        show OutW _ _ _ _ _ _ _ (s₁.setTop (mkF m 192 #[.val (.int p1)] [(.int (1 : Int32))]))
        refine OutW.back (fun t k => XS.goto X0.here hx rfl (pc0 := 192) (pc' := 196) rfl (hb hby d2_192) (by decide) (by decide) k) ?_
        show OutW _ _ _ _ _ _ _ (s₁.setTop (mkF m 196 #[.val (.int p1)] [(.int (1 : Int32))]))
        refine OutW.retN X0 hx (t := .boolean) (z' := (1 : Int32)) Bd.returns (by simp) hlk (hb hby d2_196) ?hz (by decide) (by decide) ?_
        case hz =>
          rfl
        show Qpure h0 n0 _ _ s₁.heap _
        rw [e0]
        exact ⟨by rw [ncx_167, if_neg c170_3, if_neg c176_4], N0, rfl⟩
  have b_155 : OutW p e below s 0 0 (Qpure h0 n0 (.int (ncx_155 p1))) (s₁.setTop (mkF m 155 #[.val (.int p1)] [])) := by
    refine OutW.back (fun t k => XS.iloadN X0.here hx rfl (hb hby d2_155) rfl  k) ?_
    show OutW _ _ _ _ _ _ _ (s₁.setTop (mkF m 156 #[.val (.int p1)] [(.int p1)]))
    refine OutW.back (X0.ldcInt hx hown (mvT hZ (hw _ (List.mem_of_getElem? (i := 17) rfl))) (g := (mkF m 156 #[.val (.int p1)] [(.int p1)])) rfl (hb hby d2_156)) ?_
    show OutW _ _ _ _ _ _ _ (s₁.setTop (mkF m 158 #[.val (.int p1)] [(.int (63744 : Int32)), (.int p1)]))
    by_cases c158_5 : p1 < (63744 : Int32)
    · skip
      refine OutW.back (fun t k => XS.icmpYes X0.here hx rfl (pc0 := 158) (pc' := 167) rfl (hb hby d2_158) rfl (tlt c158_5).1 (by decide) (by decide) k) ?_
      show OutW _ _ _ _ _ _ _ (s₁.setTop (mkF m 167 #[.val (.int p1)] []))
      have eqb : ncx_155 p1 = ncx_167 p1 := by rw [ncx_155, if_pos c158_5]
      rw [eqb]
      exact b_167
    · skip
      refine OutW.back (fun t k => XS.icmpNo X0.here hx rfl (hb hby d2_158) rfl (flt c158_5).1 k) ?_
      show OutW _ _ _ _ _ _ _ (s₁.setTop (mkF m 161 #[.val (.int p1)] []))
      refine OutW.back (fun t k => XS.iloadN X0.here hx rfl (hb hby d2_161) rfl  k) ?_
      show OutW _ _ _ _ _ _ _ (s₁.setTop (mkF m 162 #[.val (.int p1)] [(.int p1)]))
      refine OutW.back (X0.ldcInt hx hown (mvT hZ (hw _ (List.mem_of_getElem? (i := 24) rfl))) (g := (mkF m 162 #[.val (.int p1)] [(.int p1)])) rfl (hb hby d2_162)) ?_
      show OutW _ _ _ _ _ _ _ (s₁.setTop (mkF m 164 #[.val (.int p1)] [(.int (64975 : Int32)), (.int p1)]))
      by_cases c164_6 : (64975 : Int32) < p1
      · skip
        refine OutW.back (fun t k => XS.icmpNo X0.here hx rfl (hb hby d2_164) rfl (tlt c164_6).2.2.2 k) ?_
        show OutW _ _ _ _ _ _ _ (s₁.setTop (mkF m 167 #[.val (.int p1)] []))
        have eqb : ncx_155 p1 = ncx_167 p1 := by rw [ncx_155, if_neg c158_5, if_pos c164_6]
        rw [eqb]
        exact b_167
      · skip
        refine OutW.back (fun t k => XS.icmpYes X0.here hx rfl (pc0 := 164) (pc' := 191) rfl (hb hby d2_164) rfl (flt c164_6).2.2.2 (by decide) (by decide) k) ?_
        show OutW _ _ _ _ _ _ _ (s₁.setTop (mkF m 191 #[.val (.int p1)] []))
        refine OutW.back (fun t k => XS.iconst X0.here hx rfl (hb hby d2_191) k) ?_
        show OutW _ _ _ _ _ _ _ (s₁.setTop (mkF m 192 #[.val (.int p1)] [(.int (1 : Int32))]))
        refine OutW.back (fun t k => XS.goto X0.here hx rfl (pc0 := 192) (pc' := 196) rfl (hb hby d2_192) (by decide) (by decide) k) ?_
        show OutW _ _ _ _ _ _ _ (s₁.setTop (mkF m 196 #[.val (.int p1)] [(.int (1 : Int32))]))
        refine OutW.retN X0 hx (t := .boolean) (z' := (1 : Int32)) Bd.returns (by simp) hlk (hb hby d2_196) ?hz (by decide) (by decide) ?_
        case hz =>
          rfl
        show Qpure h0 n0 _ _ s₁.heap _
        rw [e0]
        exact ⟨by rw [ncx_155, if_neg c158_5, if_neg c164_6], N0, rfl⟩
  have b_142 : OutW p e below s 0 0 (Qpure h0 n0 (.int (ncx_142 p1))) (s₁.setTop (mkF m 142 #[.val (.int p1)] [])) := by
    refine OutW.back (fun t k => XS.iloadN X0.here hx rfl (hb hby d2_142) rfl  k) ?_
    show OutW _ _ _ _ _ _ _ (s₁.setTop (mkF m 143 #[.val (.int p1)] [(.int p1)]))
    refine OutW.back (fun t k => XS.sipush X0.here hx rfl (hb hby d2_143) k) ?_
    show OutW _ _ _ _ _ _ _ (s₁.setTop (mkF m 146 #[.val (.int p1)] [(.int (12289 : Int32)), (.int p1)]))
    by_cases c146_7 : p1 < (12289 : Int32)
    · skip
      refine OutW.back (fun t k => XS.icmpYes X0.here hx rfl (pc0 := 146) (pc' := 155) rfl (hb hby d2_146) rfl (tlt c146_7).1 (by decide) (by decide) k) ?_
      show OutW _ _ _ _ _ _ _ (s₁.setTop (mkF m 155 #[.val (.int p1)] []))
      have eqb : ncx_142 p1 = ncx_155 p1 := by rw [ncx_142, if_pos c146_7]
      rw [eqb]
      exact b_155
    · skip
      refine OutW.back (fun t k => XS.icmpNo X0.here hx rfl (hb hby d2_146) rfl (flt c146_7).1 k) ?_
      show OutW _ _ _ _ _ _ _ (s₁.setTop (mkF m 149 #[.val (.int p1)] []))
      refine OutW.back (fun t k => XS.iloadN X0.here hx rfl (hb hby d2_149) rfl  k) ?_
      show OutW _ _ _ _ _ _ _ (s₁.setTop (mkF m 150 #[.val (.int p1)] [(.int p1)]))
      refine OutW.back (X0.ldcInt hx hown (mvT hZ (hw _ (List.mem_of_getElem? (i := 23) rfl))) (g := (mkF m 150 #[.val (.int p1)] [(.int p1)])) rfl (hb hby d2_150)) ?_
      show OutW _ _ _ _ _ _ _ (s₁.setTop (mkF m 152 #[.val (.int p1)] [(.int (55295 : Int32)), (.int p1)]))
      by_cases c152_8 : (55295 : Int32) < p1
      · skip
        refine OutW.back (fun t k => XS.icmpNo X0.here hx rfl (hb hby d2_152) rfl (tlt c152_8).2.2.2 k) ?_
        show OutW _ _ _ _ _ _ _ (s₁.setTop (mkF m 155 #[.val (.int p1)] []))
        have eqb : ncx_142 p1 = ncx_155 p1 := by rw [ncx_142, if_neg c146_7, if_pos c152_8]
        rw [eqb]
        exact b_155
      · skip
        refine OutW.back (fun t k => XS.icmpYes X0.here hx rfl (pc0 := 152) (pc' := 191) rfl (hb hby d2_152) rfl (flt c152_8).2.2.2 (by decide) (by decide) k) ?_
        show OutW _ _ _ _ _ _ _ (s₁.setTop (mkF m 191 #[.val (.int p1)] []))
        refine OutW.back (fun t k => XS.iconst X0.here hx rfl (hb hby d2_191) k) ?_
        show OutW _ _ _ _ _ _ _ (s₁.setTop (mkF m 192 #[.val (.int p1)] [(.int (1 : Int32))]))
        refine OutW.back (fun t k => XS.goto X0.here hx rfl (pc0 := 192) (pc' := 196) rfl (hb hby d2_192) (by decide) (by decide) k) ?_
        show OutW _ _ _ _ _ _ _ (s₁.setTop (mkF m 196 #[.val (.int p1)] [(.int (1 : Int32))]))
        refine OutW.retN X0 hx (t := .boolean) (z' := (1 : Int32)) Bd.returns (by simp) hlk (hb hby d2_196) ?hz (by decide) (by decide) ?_
        case hz =>
          rfl
        show Qpure h0 n0 _ _ s₁.heap _
        rw [e0]
        exact ⟨by rw [ncx_142, if_neg c146_7, if_neg c152_8], N0, rfl⟩
  have b_128 : OutW p e below s 0 0 (Qpure h0 n0 (.int (ncx_128 p1))) (s₁.setTop (mkF m 128 #[.val (.int p1)] [])) := by
    refine OutW.back (fun t k => XS.iloadN X0.here hx rfl (hb hby d2_128) rfl  k) ?_
    show OutW _ _ _ _ _ _ _ (s₁.setTop (mkF m 129 #[.val (.int p1)] [(.int p1)]))
    refine OutW.back (fun t k => XS.sipush X0.here hx rfl (hb hby d2_129) k) ?_
    show OutW _ _ _ _ _ _ _ (s₁.setTop (mkF m 132 #[.val (.int p1)] [(.int (11264 : Int32)), (.int p1)]))
    by_cases c132_9 : p1 < (11264 : Int32)
    · skip
      refine OutW.back (fun t k => XS.icmpYes X0.here hx rfl (pc0 := 132) (pc' := 142) rfl (hb hby d2_132) rfl (tlt c132_9).1 (by decide) (by decide) k) ?_
      show OutW _ _ _ _ _ _ _ (s₁.setTop (mkF m 142 #[.val (.int p1)] []))
      have eqb : ncx_128 p1 = ncx_142 p1 := by rw [ncx_128, if_pos c132_9]
      rw [eqb]
      exact b_142
    · skip
      refine OutW.back (fun t k => XS.icmpNo X0.here hx rfl (hb hby d2_132) rfl (flt c132_9).1 k) ?_
      show OutW _ _ _ _ _ _ _ (s₁.setTop (mkF m 135 #[.val (.int p1)] []))
      refine OutW.back (fun t k => XS.iloadN X0.here hx rfl (hb hby d2_135) rfl  k) ?_
      show OutW _ _ _ _ _ _ _ (s₁.setTop (mkF m 136 #[.val (.int p1)] [(.int p1)]))
      refine OutW.back (fun t k => XS.sipush X0.here hx rfl (hb hby d2_136) k) ?_
      show OutW _ _ _ _ _ _ _ (s₁.setTop (mkF m 139 #[.val (.int p1)] [(.int (12271 : Int32)), (.int p1)]))
      by_cases c139_10 : (12271 : Int32) < p1
      · skip
        refine OutW.back (fun t k => XS.icmpNo X0.here hx rfl (hb hby d2_139) rfl (tlt c139_10).2.2.2 k) ?_
        show OutW _ _ _ _ _ _ _ (s₁.setTop (mkF m 142 #[.val (.int p1)] []))
        have eqb : ncx_128 p1 = ncx_142 p1 := by rw [ncx_128, if_neg c132_9, if_pos c139_10]
        rw [eqb]
        exact b_142
      · skip
        refine OutW.back (fun t k => XS.icmpYes X0.here hx rfl (pc0 := 139) (pc' := 191) rfl (hb hby d2_139) rfl (flt c139_10).2.2.2 (by decide) (by decide) k) ?_
        show OutW _ _ _ _ _ _ _ (s₁.setTop (mkF m 191 #[.val (.int p1)] []))
        refine OutW.back (fun t k => XS.iconst X0.here hx rfl (hb hby d2_191) k) ?_
        show OutW _ _ _ _ _ _ _ (s₁.setTop (mkF m 192 #[.val (.int p1)] [(.int (1 : Int32))]))
        refine OutW.back (fun t k => XS.goto X0.here hx rfl (pc0 := 192) (pc' := 196) rfl (hb hby d2_192) (by decide) (by decide) k) ?_
        show OutW _ _ _ _ _ _ _ (s₁.setTop (mkF m 196 #[.val (.int p1)] [(.int (1 : Int32))]))
        refine OutW.retN X0 hx (t := .boolean) (z' := (1 : Int32)) Bd.returns (by simp) hlk (hb hby d2_196) ?hz (by decide) (by decide) ?_
        case hz =>
          rfl
        show Qpure h0 n0 _ _ s₁.heap _
        rw [e0]
        exact ⟨by rw [ncx_128, if_neg c132_9, if_neg c139_10], N0, rfl⟩
  have b_114 : OutW p e below s 0 0 (Qpure h0 n0 (.int (ncx_114 p1))) (s₁.setTop (mkF m 114 #[.val (.int p1)] [])) := by
    refine OutW.back (fun t k => XS.iloadN X0.here hx rfl (hb hby d2_114) rfl  k) ?_
    show OutW _ _ _ _ _ _ _ (s₁.setTop (mkF m 115 #[.val (.int p1)] [(.int p1)]))
    refine OutW.back (fun t k => XS.sipush X0.here hx rfl (hb hby d2_115) k) ?_
    show OutW _ _ _ _ _ _ _ (s₁.setTop (mkF m 118 #[.val (.int p1)] [(.int (8304 : Int32)), (.int p1)]))
    by_cases c118_11 : p1 < (8304 : Int32)
    · skip
      refine OutW.back (fun t k => XS.icmpYes X0.here hx rfl (pc0 := 118) (pc' := 128) rfl (hb hby d2_118) rfl (tlt c118_11).1 (by decide) (by decide) k) ?_
      show OutW _ _ _ _ _ _ _ (s₁.setTop (mkF m 128 #[.val (.int p1)] []))
      have eqb : ncx_114 p1 = ncx_128 p1 := by rw [ncx_114, if_pos c118_11]
      rw [eqb]
      exact b_128
    · skip
      refine OutW.back (fun t k => XS.icmpNo X0.here hx rfl (hb hby d2_118) rfl (flt c118_11).1 k) ?_
      show OutW _ _ _ _ _ _ _ (s₁.setTop (mkF m 121 #[.val (.int p1)] []))
      refine OutW.back (fun t k => XS.iloadN X0.here hx rfl (hb hby d2_121) rfl  k) ?_
      show OutW _ _ _ _ _ _ _ (s₁.setTop (mkF m 122 #[.val (.int p1)] [(.int p1)]))
      refine OutW.back (fun t k => XS.sipush X0.here hx rfl (hb hby d2_122) k) ?_
      show OutW _ _ _ _ _ _ _ (s₁.setTop (mkF m 125 #[.val (.int p1)] [(.int (8591 : Int32)), (.int p1)]))
      by_cases c125_12 : (8591 : Int32) < p1
      · skip
        refine OutW.back (fun t k => XS.icmpNo X0.here hx rfl (hb hby d2_125) rfl (tlt c125_12).2.2.2 k) ?_
        show OutW _ _ _ _ _ _ _ (s₁.setTop (mkF m 128 #[.val (.int p1)] []))
        have eqb : ncx_114 p1 = ncx_128 p1 := by rw [ncx_114, if_neg c118_11, if_pos c125_12]
        rw [eqb]
        exact b_128
      · skip
        refine OutW.back (fun t k => XS.icmpYes X0.here hx rfl (pc0 := 125) (pc' := 191) rfl (hb hby d2_125) rfl (flt c125_12).2.2.2 (by decide) (by decide) k) ?_
        show OutW _ _ _ _ _ _ _ (s₁.setTop (mkF m 191 #[.val (.int p1)] []))
        refine OutW.back (fun t k => XS.iconst X0.here hx rfl (hb hby d2_191) k) ?_
        show OutW _ _ _ _ _ _ _ (s₁.setTop (mkF m 192 #[.val (.int p1)] [(.int (1 : Int32))]))
        refine OutW.back (fun t k => XS.goto X0.here hx rfl (pc0 := 192) (pc' := 196) rfl (hb hby d2_192) (by decide) (by decide) k) ?_
        show OutW _ _ _ _ _ _ _ (s₁.setTop (mkF m 196 #[.val (.int p1)] [(.int (1 : Int32))]))
        refine OutW.retN X0 hx (t := .boolean) (z' := (1 : Int32)) Bd.returns (by simp) hlk (hb hby d2_196) ?hz (by decide) (by decide) ?_
        case hz =>
          rfl
        show Qpure h0 n0 _ _ s₁.heap _
        rw [e0]
        exact ⟨by rw [ncx_114, if_neg c118_11, if_neg c125_12], N0, rfl⟩
  have b_100 : OutW p e below s 0 0 (Qpure h0 n0 (.int (ncx_100 p1))) (s₁.setTop (mkF m 100 #[.val (.int p1)] [])) := by
    refine OutW.back (fun t k => XS.iloadN X0.here hx rfl (hb hby d2_100) rfl  k) ?_
    show OutW _ _ _ _ _ _ _ (s₁.setTop (mkF m 101 #[.val (.int p1)] [(.int p1)]))
    refine OutW.back (fun t k => XS.sipush X0.here hx rfl (hb hby d2_101) k) ?_
    show OutW _ _ _ _ _ _ _ (s₁.setTop (mkF m 104 #[.val (.int p1)] [(.int (8204 : Int32)), (.int p1)]))
    by_cases c104_13 : p1 < (8204 : Int32)
    · skip
      refine OutW.back (fun t k => XS.icmpYes X0.here hx rfl (pc0 := 104) (pc' := 114) rfl (hb hby d2_104) rfl (tlt c104_13).1 (by decide) (by decide) k) ?_
      show OutW _ _ _ _ _ _ _ (s₁.setTop (mkF m 114 #[.val (.int p1)] []))
      have eqb : ncx_100 p1 = ncx_114 p1 := by rw [ncx_100, if_pos c104_13]
      rw [eqb]
      exact b_114
    · skip
      refine OutW.back (fun t k => XS.icmpNo X0.here hx rfl (hb hby d2_104) rfl (flt c104_13).1 k) ?_
      show OutW _ _ _ _ _ _ _ (s₁.setTop (mkF m 107 #[.val (.int p1)] []))
      refine OutW.back (fun t k => XS.iloadN X0.here hx rfl (hb hby d2_107) rfl  k) ?_
      show OutW _ _ _ _ _ _ _ (s₁.setTop (mkF m 108 #[.val (.int p1)] [(.int p1)]))
      refine OutW.back (fun t k => XS.sipush X0.here hx rfl (hb hby d2_108) k) ?_
      show OutW _ _ _ _ _ _ _ (s₁.setTop (mkF m 111 #[.val (.int p1)] [(.int (8205 : Int32)), (.int p1)]))
      by_cases c111_14 : (8205 : Int32) < p1
      · skip
        refine OutW.back (fun t k => XS.icmpNo X0.here hx rfl (hb hby d2_111) rfl (tlt c111_14).2.2.2 k) ?_
        show OutW _ _ _ _ _ _ _ (s₁.setTop (mkF m 114 #[.val (.int p1)] []))
        have eqb : ncx_100 p1 = ncx_114 p1 := by rw [ncx_100, if_neg c104_13, if_pos c111_14]
        rw [eqb]
        exact b_114
      · skip
        refine OutW.back (fun t k => XS.icmpYes X0.here hx rfl (pc0 := 111) (pc' := 191) rfl (hb hby d2_111) rfl (flt c111_14).2.2.2 (by decide) (by decide) k) ?_
        show OutW _ _ _ _ _ _ _ (s₁.setTop (mkF m 191 #[.val (.int p1)] []))
        refine OutW.back (fun t k => XS.iconst X0.here hx rfl (hb hby d2_191) k) ?_
        show OutW _ _ _ _ _ _ _ (s₁.setTop (mkF m 192 #[.val (.int p1)] [(.int (1 : Int32))]))
        refine OutW.back (fun t k => XS.goto X0.here hx rfl (pc0 := 192) (pc' := 196) rfl (hb hby d2_192) (by decide) (by decide) k) ?_
        show OutW _ _ _ _ _ _ _ (s₁.setTop (mkF m 196 #[.val (.int p1)] [(.int (1 : Int32))]))
        refine OutW.retN X0 hx (t := .boolean) (z' := (1 : Int32)) Bd.returns (by simp) hlk (hb hby d2_196) ?hz (by decide) (by decide) ?_
        case hz =>
          rfl
        show Qpure h0 n0 _ _ s₁.heap _
        rw [e0]
        exact ⟨by rw [ncx_100, if_neg c104_13, if_neg c111_14], N0, rfl⟩
  have b_86 : OutW p e below s 0 0 (Qpure h0 n0 (.int (ncx_86 p1))) (s₁.setTop (mkF m 86 #[.val (.int p1)] [])) := by
    refine OutW.back (fun t k => XS.iloadN X0.here hx rfl (hb hby d2_86) rfl  k) ?_
    show OutW _ _ _ _ _ _ _ (s₁.setTop (mkF m 87 #[.val (.int p1)] [(.int p1)]))
    refine OutW.back (fun t k => XS.sipush X0.here hx rfl (hb hby d2_87) k) ?_
    show OutW _ _ _ _ _ _ _ (s₁.setTop (mkF m 90 #[.val (.int p1)] [(.int (895 : Int32)), (.int p1)]))
    by_cases c90_15 : p1 < (895 : Int32)
    · skip
      refine OutW.back (fun t k => XS.icmpYes X0.here hx rfl (pc0 := 90) (pc' := 100) rfl (hb hby d2_90) rfl (tlt c90_15).1 (by decide) (by decide) k) ?_
      show OutW _ _ _ _ _ _ _ (s₁.setTop (mkF m 100 #[.val (.int p1)] []))
      have eqb : ncx_86 p1 = ncx_100 p1 := by rw [ncx_86, if_pos c90_15]
      rw [eqb]
      exact b_100
    · skip
      refine OutW.back (fun t k => XS.icmpNo X0.here hx rfl (hb hby d2_90) rfl (flt c90_15).1 k) ?_
      show OutW _ _ _ _ _ _ _ (s₁.setTop (mkF m 93 #[.val (.int p1)] []))
      refine OutW.back (fun t k => XS.iloadN X0.here hx rfl (hb hby d2_93) rfl  k) ?_
      show OutW _ _ _ _ _ _ _ (s₁.setTop (mkF m 94 #[.val (.int p1)] [(.int p1)]))
      refine OutW.back (fun t k => XS.sipush X0.here hx rfl (hb hby d2_94) k) ?_
      show OutW _ _ _ _ _ _ _ (s₁.setTop (mkF m 97 #[.val (.int p1)] [(.int (8191 : Int32)), (.int p1)]))
      by_cases c97_16 : (8191 : Int32) < p1
      · skip
        refine OutW.back (fun t k => XS.icmpNo X0.here hx rfl (hb hby d2_97) rfl (tlt c97_16).2.2.2 k) ?_
        show OutW _ _ _ _ _ _ _ (s₁.setTop (mkF m 100 #[.val (.int p1)] []))
        have eqb : ncx_86 p1 = ncx_100 p1 := by rw [ncx_86, if_neg c90_15, if_pos c97_16]
        rw [eqb]
        exact b_100
      · skip
        refine OutW.back (fun t k => XS.icmpYes X0.here hx rfl (pc0 := 97) (pc' := 191) rfl (hb hby d2_97) rfl (flt c97_16).2.2.2 (by decide) (by decide) k) ?_
        show OutW _ _ _ _ _ _ _ (s₁.setTop (mkF m 191 #[.val (.int p1)] []))
        refine OutW.back (fun t k => XS.iconst X0.here hx rfl (hb hby d2_191) k) ?_
        show OutW _ _ _ _ _ _ _ (s₁.setTop (mkF m 192 #[.val (.int p1)] [(.int (1 : Int32))]))
        refine OutW.back (fun t k => XS.goto X0.here hx rfl (pc0 := 192) (pc' := 196) rfl (hb hby d2_192) (by decide) (by decide) k) ?_
        show OutW _ _ _ _ _ _ _ (s₁.setTop (mkF m 196 #[.val (.int p1)] [(.int (1 : Int32))]))
        refine OutW.retN X0 hx (t := .boolean) (z' := (1 : Int32)) Bd.returns (by simp) hlk (hb hby d2_196) ?hz (by decide) (by decide) ?_
        case hz =>
          rfl
        show Qpure h0 n0 _ _ s₁.heap _
        rw [e0]
        exact ⟨by rw [ncx_86, if_neg c90_15, if_neg c97_16], N0, rfl⟩
  have b_72 : OutW p e below s 0 0 (Qpure h0 n0 (.int (ncx_72 p1))) (s₁.setTop (mkF m 72 #[.val (.int p1)] [])) := by
    refine OutW.back (fun t k => XS.iloadN X0.here hx rfl (hb hby d2_72) rfl  k) ?_
    show OutW _ _ _ _ _ _ _ (s₁.setTop (mkF m 73 #[.val (.int p1)] [(.int p1)]))
    refine OutW.back (fun t k => XS.sipush X0.here hx rfl (hb hby d2_73) k) ?_
    show OutW _ _ _ _ _ _ _ (s₁.setTop (mkF m 76 #[.val (.int p1)] [(.int (880 : Int32)), (.int p1)]))
    by_cases c76_17 : p1 < (880 : Int32)
    · skip
      refine OutW.back (fun t k => XS.icmpYes X0.here hx rfl (pc0 := 76) (pc' := 86) rfl (hb hby d2_76) rfl (tlt c76_17).1 (by decide) (by decide) k) ?_
      show OutW _ _ _ _ _ _ _ (s₁.setTop (mkF m 86 #[.val (.int p1)] []))
      have eqb : ncx_72 p1 = ncx_86 p1 := by rw [ncx_72, if_pos c76_17]
      rw [eqb]
      exact b_86
    · skip
      refine OutW.back (fun t k => XS.icmpNo X0.here hx rfl (hb hby d2_76) rfl (flt c76_17).1 k) ?_
      show OutW _ _ _ _ _ _ _ (s₁.setTop (mkF m 79 #[.val (.int p1)] []))
      refine OutW.back (fun t k => XS.iloadN X0.here hx rfl (hb hby d2_79) rfl  k) ?_
      show OutW _ _ _ _ _ _ _ (s₁.setTop (mkF m 80 #[.val (.int p1)] [(.int p1)]))
      refine OutW.back (fun t k => XS.sipush X0.here hx rfl (hb hby d2_80) k) ?_
      show OutW _ _ _ _ _ _ _ (s₁.setTop (mkF m 83 #[.val (.int p1)] [(.int (893 : Int32)), (.int p1)]))
      by_cases c83_18 : (893 : Int32) < p1
      · skip
        refine OutW.back (fun t k => XS.icmpNo X0.here hx rfl (hb hby d2_83) rfl (tlt c83_18).2.2.2 k) ?_
        show OutW _ _ _ _ _ _ _ (s₁.setTop (mkF m 86 #[.val (.int p1)] []))
        have eqb : ncx_72 p1 = ncx_86 p1 := by rw [ncx_72, if_neg c76_17, if_pos c83_18]
        rw [eqb]
        exact b_86
      · skip
        refine OutW.back (fun t k => XS.icmpYes X0.here hx rfl (pc0 := 83) (pc' := 191) rfl (hb hby d2_83) rfl (flt c83_18).2.2.2 (by decide) (by decide) k) ?_
        show OutW _ _ _ _ _ _ _ (s₁.setTop (mkF m 191 #[.val (.int p1)] []))
        refine OutW.back (fun t k => XS.iconst X0.here hx rfl (hb hby d2_191) k) ?_
        show OutW _ _ _ _ _ _ _ (s₁.setTop (mkF m 192 #[.val (.int p1)] [(.int (1 : Int32))]))
        refine OutW.back (fun t k => XS.goto X0.here hx rfl (pc0 := 192) (pc' := 196) rfl (hb hby d2_192) (by decide) (by decide) k) ?_
        show OutW _ _ _ _ _ _ _ (s₁.setTop (mkF m 196 #[.val (.int p1)] [(.int (1 : Int32))]))
        refine OutW.retN X0 hx (t := .boolean) (z' := (1 : Int32)) Bd.returns (by simp) hlk (hb hby d2_196) ?hz (by decide) (by decide) ?_
        case hz =>
          rfl
        show Qpure h0 n0 _ _ s₁.heap _
        rw [e0]
        exact ⟨by rw [ncx_72, if_neg c76_17, if_neg c83_18], N0, rfl⟩
  have b_58 : OutW p e below s 0 0 (Qpure h0 n0 (.int (ncx_58 p1))) (s₁.setTop (mkF m 58 #[.val (.int p1)] [])) := by
    refine OutW.back (fun t k => XS.iloadN X0.here hx rfl (hb hby d2_58) rfl  k) ?_
    show OutW _ _ _ _ _ _ _ (s₁.setTop (mkF m 59 #[.val (.int p1)] [(.int p1)]))
    refine OutW.back (fun t k => XS.sipush X0.here hx rfl (hb hby d2_59) k) ?_
    show OutW _ _ _ _ _ _ _ (s₁.setTop (mkF m 62 #[.val (.int p1)] [(.int (248 : Int32)), (.int p1)]))
    by_cases c62_19 : p1 < (248 : Int32)
    · skip
      refine OutW.back (fun t k => XS.icmpYes X0.here hx rfl (pc0 := 62) (pc' := 72) rfl (hb hby d2_62) rfl (tlt c62_19).1 (by decide) (by decide) k) ?_
      show OutW _ _ _ _ _ _ _ (s₁.setTop (mkF m 72 #[.val (.int p1)] []))
      have eqb : ncx_58 p1 = ncx_72 p1 := by rw [ncx_58, if_pos c62_19]
      rw [eqb]
      exact b_72
    · skip
      refine OutW.back (fun t k => XS.icmpNo X0.here hx rfl (hb hby d2_62) rfl (flt c62_19).1 k) ?_
      show OutW _ _ _ _ _ _ _ (s₁.setTop (mkF m 65 #[.val (.int p1)] []))
      refine OutW.back (fun t k => XS.iloadN X0.here hx rfl (hb hby d2_65) rfl  k) ?_
      show OutW _ _ _ _ _ _ _ (s₁.setTop (mkF m 66 #[.val (.int p1)] [(.int p1)]))
      refine OutW.back (fun t k => XS.sipush X0.here hx rfl (hb hby d2_66) k) ?_
      show OutW _ _ _ _ _ _ _ (s₁.setTop (mkF m 69 #[.val (.int p1)] [(.int (767 : Int32)), (.int p1)]))
      by_cases c69_20 : (767 : Int32) < p1
      · skip
        refine OutW.back (fun t k => XS.icmpNo X0.here hx rfl (hb hby d2_69) rfl (tlt c69_20).2.2.2 k) ?_
        show OutW _ _ _ _ _ _ _ (s₁.setTop (mkF m 72 #[.val (.int p1)] []))
        have eqb : ncx_58 p1 = ncx_72 p1 := by rw [ncx_58, if_neg c62_19, if_pos c69_20]
        rw [eqb]
        exact b_72
      · skip
        refine OutW.back (fun t k => XS.icmpYes X0.here hx rfl (pc0 := 69) (pc' := 191) rfl (hb hby d2_69) rfl (flt c69_20).2.2.2 (by decide) (by decide) k) ?_
        show OutW _ _ _ _ _ _ _ (s₁.setTop (mkF m 191 #[.val (.int p1)] []))
        refine OutW.back (fun t k => XS.iconst X0.here hx rfl (hb hby d2_191) k) ?_
        show OutW _ _ _ _ _ _ _ (s₁.setTop (mkF m 192 #[.val (.int p1)] [(.int (1 : Int32))]))
        refine OutW.back (fun t k => XS.goto X0.here hx rfl (pc0 := 192) (pc' := 196) rfl (hb hby d2_192) (by decide) (by decide) k) ?_
        show OutW _ _ _ _ _ _ _ (s₁.setTop (mkF m 196 #[.val (.int p1)] [(.int (1 : Int32))]))
        refine OutW.retN X0 hx (t := .boolean) (z' := (1 : Int32)) Bd.returns (by simp) hlk (hb hby d2_196) ?hz (by decide) (by decide) ?_
        case hz =>
          rfl
        show Qpure h0 n0 _ _ s₁.heap _
        rw [e0]
        exact ⟨by rw [ncx_58, if_neg c62_19, if_neg c69_20], N0, rfl⟩
  have b_44 : OutW p e below s 0 0 (Qpure h0 n0 (.int (ncx_44 p1))) (s₁.setTop (mkF m 44 #[.val (.int p1)] [])) := by
    refine OutW.back (fun t k => XS.iloadN X0.here hx rfl (hb hby d2_44) rfl  k) ?_
    show OutW _ _ _ _ _ _ _ (s₁.setTop (mkF m 45 #[.val (.int p1)] [(.int p1)]))
    refine OutW.back (fun t k => XS.sipush X0.here hx rfl (hb hby d2_45) k) ?_
    show OutW _ _ _ _ _ _ _ (s₁.setTop (mkF m 48 #[.val (.int p1)] [(.int (216 : Int32)), (.int p1)]))
    by_cases c48_21 : p1 < (216 : Int32)
    · skip
      refine OutW.back (fun t k => XS.icmpYes X0.here hx rfl (pc0 := 48) (pc' := 58) rfl (hb hby d2_48) rfl (tlt c48_21).1 (by decide) (by decide) k) ?_
      show OutW _ _ _ _ _ _ _ (s₁.setTop (mkF m 58 #[.val (.int p1)] []))
      have eqb : ncx_44 p1 = ncx_58 p1 := by rw [ncx_44, if_pos c48_21]
      rw [eqb]
      exact b_58
    · skip
      refine OutW.back (fun t k => XS.icmpNo X0.here hx rfl (hb hby d2_48) rfl (flt c48_21).1 k) ?_
      show OutW _ _ _ _ _ _ _ (s₁.setTop (mkF m 51 #[.val (.int p1)] []))
      refine OutW.back (fun t k => XS.iloadN X0.here hx rfl (hb hby d2_51) rfl  k) ?_
      show OutW _ _ _ _ _ _ _ (s₁.setTop (mkF m 52 #[.val (.int p1)] [(.int p1)]))
      refine OutW.back (fun t k => XS.sipush X0.here hx rfl (hb hby d2_52) k) ?_
      show OutW _ _ _ _ _ _ _ (s₁.setTop (mkF m 55 #[.val (.int p1)] [(.int (246 : Int32)), (.int p1)]))
      by_cases c55_22 : (246 : Int32) < p1
      · skip
        refine OutW.back (fun t k => XS.icmpNo X0.here hx rfl (hb hby d2_55) rfl (tlt c55_22).2.2.2 k) ?_
        show OutW _ _ _ _ _ _ _ (s₁.setTop (mkF m 58 #[.val (.int p1)] []))
        have eqb : ncx_44 p1 = ncx_58 p1 := by rw [ncx_44, if_neg c48_21, if_pos c55_22]
        rw [eqb]
        exact b_58
      · skip
        refine OutW.back (fun t k => XS.icmpYes X0.here hx rfl (pc0 := 55) (pc' := 191) rfl (hb hby d2_55) rfl (flt c55_22).2.2.2 (by decide) (by decide) k) ?_
        show OutW _ _ _ _ _ _ _ (s₁.setTop (mkF m 191 #[.val (.int p1)] []))
        refine OutW.back (fun t k => XS.iconst X0.here hx rfl (hb hby d2_191) k) ?_
        show OutW _ _ _ _ _ _ _ (s₁.setTop (mkF m 192 #[.val (.int p1)] [(.int (1 : Int32))]))
        refine OutW.back (fun t k => XS.goto X0.here hx rfl (pc0 := 192) (pc' := 196) rfl (hb hby d2_192) (by decide) (by decide) k) ?_
        show OutW _ _ _ _ _ _ _ (s₁.setTop (mkF m 196 #[.val (.int p1)] [(.int (1 : Int32))]))
        refine OutW.retN X0 hx (t := .boolean) (z' := (1 : Int32)) Bd.returns (by simp) hlk (hb hby d2_196) ?hz (by decide) (by decide) ?_
        case hz =>
          rfl
        show Qpure h0 n0 _ _ s₁.heap _
        rw [e0]
        exact ⟨by rw [ncx_44, if_neg c48_21, if_neg c55_22], N0, rfl⟩
  have b_30 : OutW p e below s 0 0 (Qpure h0 n0 (.int (ncx_30 p1))) (s₁.setTop (mkF m 30 #[.val (.int p1)] [])) := by
    refine OutW.back (fun t k => XS.iloadN X0.here hx rfl (hb hby d2_30) rfl  k) ?_
    show OutW _ _ _ _ _ _ _ (s₁.setTop (mkF m 31 #[.val (.int p1)] [(.int p1)]))
    refine OutW.back (fun t k => XS.sipush X0.here hx rfl (hb hby d2_31) k) ?_
    show OutW _ _ _ _ _ _ _ (s₁.setTop (mkF m 34 #[.val (.int p1)] [(.int (192 : Int32)), (.int p1)]))
    by_cases c34_23 : p1 < (192 : Int32)
    · skip
      refine OutW.back (fun t k => XS.icmpYes X0.here hx rfl (pc0 := 34) (pc' := 44) rfl (hb hby d2_34) rfl (tlt c34_23).1 (by decide) (by decide) k) ?_
      show OutW _ _ _ _ _ _ _ (s₁.setTop (mkF m 44 #[.val (.int p1)] []))
      have eqb : ncx_30 p1 = ncx_44 p1 := by rw [ncx_30, if_pos c34_23]
      rw [eqb]
      exact b_44
    · skip
      refine OutW.back (fun t k => XS.icmpNo X0.here hx rfl (hb hby d2_34) rfl (flt c34_23).1 k) ?_
      show OutW _ _ _ _ _ _ _ (s₁.setTop (mkF m 37 #[.val (.int p1)] []))
      refine OutW.back (fun t k => XS.iloadN X0.here hx rfl (hb hby d2_37) rfl  k) ?_
      show OutW _ _ _ _ _ _ _ (s₁.setTop (mkF m 38 #[.val (.int p1)] [(.int p1)]))
      refine OutW.back (fun t k => XS.sipush X0.here hx rfl (hb hby d2_38) k) ?_
      show OutW _ _ _ _ _ _ _ (s₁.setTop (mkF m 41 #[.val (.int p1)] [(.int (214 : Int32)), (.int p1)]))
      by_cases c41_24 : (214 : Int32) < p1
      · skip
        refine OutW.back (fun t k => XS.icmpNo X0.here hx rfl (hb hby d2_41) rfl (tlt c41_24).2.2.2 k) ?_
        show OutW _ _ _ _ _ _ _ (s₁.setTop (mkF m 44 #[.val (.int p1)] []))
        have eqb : ncx_30 p1 = ncx_44 p1 := by rw [ncx_30, if_neg c34_23, if_pos c41_24]
        rw [eqb]
        exact b_44
      · skip
        refine OutW.back (fun t k => XS.icmpYes X0.here hx rfl (pc0 := 41) (pc' := 191) rfl (hb hby d2_41) rfl (flt c41_24).2.2.2 (by decide) (by decide) k) ?_
        show OutW _ _ _ _ _ _ _ (s₁.setTop (mkF m 191 #[.val (.int p1)] []))
        refine OutW.back (fun t k => XS.iconst X0.here hx rfl (hb hby d2_191) k) ?_
        show OutW _ _ _ _ _ _ _ (s₁.setTop (mkF m 192 #[.val (.int p1)] [(.int (1 : Int32))]))
        refine OutW.back (fun t k => XS.goto X0.here hx rfl (pc0 := 192) (pc' := 196) rfl (hb hby d2_192) (by decide) (by decide) k) ?_
        show OutW _ _ _ _ _ _ _ (s₁.setTop (mkF m 196 #[.val (.int p1)] [(.int (1 : Int32))]))
        refine OutW.retN X0 hx (t := .boolean) (z' := (1 : Int32)) Bd.returns (by simp) hlk (hb hby d2_196) ?hz (by decide) (by decide) ?_
        case hz =>
          rfl
        show Qpure h0 n0 _ _ s₁.heap _
        rw [e0]
        exact ⟨by rw [ncx_30, if_neg c34_23, if_neg c41_24], N0, rfl⟩
  have b_24 : OutW p e below s 0 0 (Qpure h0 n0 (.int (ncx_24 p1))) (s₁.setTop (mkF m 24 #[.val (.int p1)] [])) := by
    refine OutW.back (fun t k => XS.iloadN X0.here hx rfl (hb hby d2_24) rfl  k) ?_
    show OutW _ _ _ _ _ _ _ (s₁.setTop (mkF m 25 #[.val (.int p1)] [(.int p1)]))
    refine OutW.back (fun t k => XS.bipush X0.here hx rfl (hb hby d2_25) k) ?_
    show OutW _ _ _ _ _ _ _ (s₁.setTop (mkF m 27 #[.val (.int p1)] [(.int (95 : Int32)), (.int p1)]))
    by_cases c27_25 : p1 = (95 : Int32)
    · skip
      refine OutW.back (fun t k => XS.icmpYes X0.here hx rfl (pc0 := 27) (pc' := 191) rfl (hb hby d2_27) rfl (teq c27_25).1 (by decide) (by decide) k) ?_
      show OutW _ _ _ _ _ _ _ (s₁.setTop (mkF m 191 #[.val (.int p1)] []))
      refine OutW.back (fun t k => XS.iconst X0.here hx rfl (hb hby d2_191) k) ?_
      show OutW _ _ _ _ _ _ _ (s₁.setTop (mkF m 192 #[.val (.int p1)] [(.int (1 : Int32))]))
      refine OutW.back (fun t k => XS.goto X0.here hx rfl (pc0 := 192) (pc' := 196) rfl (hb hby d2_192) (by decide) (by decide) k) ?_
      show OutW _ _ _ _ _ _ _ (s₁.setTop (mkF m 196 #[.val (.int p1)] [(.int (1 : Int32))]))
      refine OutW.retN X0 hx (t := .boolean) (z' := (1 : Int32)) Bd.returns (by simp) hlk (hb hby d2_196) ?hz (by decide) (by decide) ?_
      case hz =>
        rfl
      show Qpure h0 n0 _ _ s₁.heap _
      rw [e0]
      exact ⟨by rw [ncx_24, if_pos c27_25], N0, rfl⟩
    · skip
      refine OutW.back (fun t k => XS.icmpNo X0.here hx rfl (hb hby d2_27) rfl (feq c27_25).1 k) ?_
      show OutW _ _ _ _ _ _ _ (s₁.setTop (mkF m 30 #[.val (.int p1)] []))
      have eqb : ncx_24 p1 = ncx_30 p1 := by rw [ncx_24, if_neg c27_25]
      rw [eqb]
      exact b_30
  have b_12 : OutW p e below s 0 0 (Qpure h0 n0 (.int (ncx_12 p1))) (s₁.setTop (mkF m 12 #[.val (.int p1)] [])) := by
    refine OutW.back (fun t k => XS.iloadN X0.here hx rfl (hb hby d2_12) rfl  k) ?_
    show OutW _ _ _ _ _ _ _ (s₁.setTop (mkF m 13 #[.val (.int p1)] [(.int p1)]))
    refine OutW.back (fun t k => XS.bipush X0.here hx rfl (hb hby d2_13) k) ?_
    show OutW _ _ _ _ _ _ _ (s₁.setTop (mkF m 15 #[.val (.int p1)] [(.int (65 : Int32)), (.int p1)]))
    by_cases c15_26 : p1 < (65 : Int32)
    · skip
      refine OutW.back (fun t k => XS.icmpYes X0.here hx rfl (pc0 := 15) (pc' := 24) rfl (hb hby d2_15) rfl (tlt c15_26).1 (by decide) (by decide) k) ?_
      show OutW _ _ _ _ _ _ _ (s₁.setTop (mkF m 24 #[.val (.int p1)] []))
      have eqb : ncx_12 p1 = ncx_24 p1 := by rw [ncx_12, if_pos c15_26]
      rw [eqb]
      exact b_24
    · skip
      refine OutW.back (fun t k => XS.icmpNo X0.here hx rfl (hb hby d2_15) rfl (flt c15_26).1 k) ?_
      show OutW _ _ _ _ _ _ _ (s₁.setTop (mkF m 18 #[.val (.int p1)] []))
      refine OutW.back (fun t k => XS.iloadN X0.here hx rfl (hb hby d2_18) rfl  k) ?_
      show OutW _ _ _ _ _ _ _ (s₁.setTop (mkF m 19 #[.val (.int p1)] [(.int p1)]))
      refine OutW.back (fun t k => XS.bipush X0.here hx rfl (hb hby d2_19) k) ?_
      show OutW _ _ _ _ _ _ _ (s₁.setTop (mkF m 21 #[.val (.int p1)] [(.int (90 : Int32)), (.int p1)]))
      by_cases c21_27 : (90 : Int32) < p1
      · skip
        refine OutW.back (fun t k => XS.icmpNo X0.here hx rfl (hb hby d2_21) rfl (tlt c21_27).2.2.2 k) ?_
        show OutW _ _ _ _ _ _ _ (s₁.setTop (mkF m 24 #[.val (.int p1)] []))
        have eqb : ncx_12 p1 = ncx_24 p1 := by rw [ncx_12, if_neg c15_26, if_pos c21_27]
        rw [eqb]
        exact b_24
      · skip
        refine OutW.back (fun t k => XS.icmpYes X0.here hx rfl (pc0 := 21) (pc' := 191) rfl (hb hby d2_21) rfl (flt c21_27).2.2.2 (by decide) (by decide) k) ?_
        show OutW _ _ _ _ _ _ _ (s₁.setTop (mkF m 191 #[.val (.int p1)] []))
        refine OutW.back (fun t k => XS.iconst X0.here hx rfl (hb hby d2_191) k) ?_
        show OutW _ _ _ _ _ _ _ (s₁.setTop (mkF m 192 #[.val (.int p1)] [(.int (1 : Int32))]))
        refine OutW.back (fun t k => XS.goto X0.here hx rfl (pc0 := 192) (pc' := 196) rfl (hb hby d2_192) (by decide) (by decide) k) ?_
        show OutW _ _ _ _ _ _ _ (s₁.setTop (mkF m 196 #[.val (.int p1)] [(.int (1 : Int32))]))
        refine OutW.retN X0 hx (t := .boolean) (z' := (1 : Int32)) Bd.returns (by simp) hlk (hb hby d2_196) ?hz (by decide) (by decide) ?_
        case hz =>
          rfl
        show Qpure h0 n0 _ _ s₁.heap _
        rw [e0]
        exact ⟨by rw [ncx_12, if_neg c15_26, if_neg c21_27], N0, rfl⟩
  refine OutW.back (fun t k => XS.iloadN X0.here hx rfl (hb hby d2_0) rfl  k) ?_
  show OutW _ _ _ _ _ _ _ (s₁.setTop (mkF m 1 #[.val (.int p1)] [(.int p1)]))
  refine OutW.back (fun t k => XS.bipush X0.here hx rfl (hb hby d2_1) k) ?_
  show OutW _ _ _ _ _ _ _ (s₁.setTop (mkF m 3 #[.val (.int p1)] [(.int (97 : Int32)), (.int p1)]))
  by_cases c3_28 : p1 < (97 : Int32)
  · skip
    refine OutW.back (fun t k => XS.icmpYes X0.here hx rfl (pc0 := 3) (pc' := 12) rfl (hb hby d2_3) rfl (tlt c3_28).1 (by decide) (by decide) k) ?_
    show OutW _ _ _ _ _ _ _ (s₁.setTop (mkF m 12 #[.val (.int p1)] []))
    have eqb : ncx_0 p1 = ncx_12 p1 := by rw [ncx_0, if_pos c3_28]
    rw [eqb]
    exact b_12
  · skip
    refine OutW.back (fun t k => XS.icmpNo X0.here hx rfl (hb hby d2_3) rfl (flt c3_28).1 k) ?_
    show OutW _ _ _ _ _ _ _ (s₁.setTop (mkF m 6 #[.val (.int p1)] []))
    refine OutW.back (fun t k => XS.iloadN X0.here hx rfl (hb hby d2_6) rfl  k) ?_
    show OutW _ _ _ _ _ _ _ (s₁.setTop (mkF m 7 #[.val (.int p1)] [(.int p1)]))
    refine OutW.back (fun t k => XS.bipush X0.here hx rfl (hb hby d2_7) k) ?_
    show OutW _ _ _ _ _ _ _ (s₁.setTop (mkF m 9 #[.val (.int p1)] [(.int (122 : Int32)), (.int p1)]))
    by_cases c9_29 : (122 : Int32) < p1
    · skip
      refine OutW.back (fun t k => XS.icmpNo X0.here hx rfl (hb hby d2_9) rfl (tlt c9_29).2.2.2 k) ?_
      show OutW _ _ _ _ _ _ _ (s₁.setTop (mkF m 12 #[.val (.int p1)] []))
      have eqb : ncx_0 p1 = ncx_12 p1 := by rw [ncx_0, if_neg c3_28, if_pos c9_29]
      rw [eqb]
      exact b_12
    · skip
      refine OutW.back (fun t k => XS.icmpYes X0.here hx rfl (pc0 := 9) (pc' := 191) rfl (hb hby d2_9) rfl (flt c9_29).2.2.2 (by decide) (by decide) k) ?_
      show OutW _ _ _ _ _ _ _ (s₁.setTop (mkF m 191 #[.val (.int p1)] []))
      refine OutW.back (fun t k => XS.iconst X0.here hx rfl (hb hby d2_191) k) ?_
      show OutW _ _ _ _ _ _ _ (s₁.setTop (mkF m 192 #[.val (.int p1)] [(.int (1 : Int32))]))
      refine OutW.back (fun t k => XS.goto X0.here hx rfl (pc0 := 192) (pc' := 196) rfl (hb hby d2_192) (by decide) (by decide) k) ?_
      show OutW _ _ _ _ _ _ _ (s₁.setTop (mkF m 196 #[.val (.int p1)] [(.int (1 : Int32))]))
      refine OutW.retN X0 hx (t := .boolean) (z' := (1 : Int32)) Bd.returns (by simp) hlk (hb hby d2_196) ?hz (by decide) (by decide) ?_
      case hz =>
        rfl
      show Qpure h0 n0 _ _ s₁.heap _
      rw [e0]
      exact ⟨by rw [ncx_0, if_neg c3_28, if_neg c9_29], N0, rfl⟩
def exx_162 (p1 : Int32) : Int32 := (if p1 < (65534 : Int32) then (0 : Int32) else (if (65535 : Int32) < p1 then (0 : Int32) else (1 : Int32)))
def exx_150 (p1 : Int32) : Int32 := (if p1 < (64976 : Int32) then (exx_162 p1) else (if (65007 : Int32) < p1 then (exx_162 p1) else (1 : Int32)))
def exx_138 (p1 : Int32) : Int32 := (if p1 < (55296 : Int32) then (exx_150 p1) else (if (63743 : Int32) < p1 then (exx_150 p1) else (1 : Int32)))
def exx_124 (p1 : Int32) : Int32 := (if p1 < (12272 : Int32) then (exx_138 p1) else (if (12288 : Int32) < p1 then (exx_138 p1) else (1 : Int32)))
def exx_110 (p1 : Int32) : Int32 := (if p1 < (8592 : Int32) then (exx_124 p1) else (if (11263 : Int32) < p1 then (exx_124 p1) else (1 : Int32)))
def exx_96 (p1 : Int32) : Int32 := (if p1 < (8206 : Int32) then (exx_110 p1) else (if (8303 : Int32) < p1 then (exx_110 p1) else (1 : Int32)))
def exx_82 (p1 : Int32) : Int32 := (if p1 < (8192 : Int32) then (exx_96 p1) else (if (8203 : Int32) < p1 then (exx_96 p1) else (1 : Int32)))
def exx_75 (p1 : Int32) : Int32 := (if p1 = (894 : Int32) then (1 : Int32) else (exx_82 p1))
def exx_61 (p1 : Int32) : Int32 := (if p1 < (768 : Int32) then (exx_75 p1) else (if (879 : Int32) < p1 then (exx_75 p1) else (1 : Int32)))
def exx_54 (p1 : Int32) : Int32 := (if p1 = (247 : Int32) then (1 : Int32) else (exx_61 p1))
def exx_47 (p1 : Int32) : Int32 := (if p1 = (215 : Int32) then (1 : Int32) else (exx_54 p1))
def exx_34 (p1 : Int32) : Int32 := (if p1 < (123 : Int32) then (exx_47 p1) else (if (191 : Int32) < p1 then (exx_47 p1) else (1 : Int32)))
def exx_28 (p1 : Int32) : Int32 := (if p1 = (96 : Int32) then (1 : Int32) else (exx_34 p1))
def exx_16 (p1 : Int32) : Int32 := (if p1 < (91 : Int32) then (exx_28 p1) else (if (94 : Int32) < p1 then (exx_28 p1) else (1 : Int32)))
def exx_0 (p1 : Int32) : Int32 := (if (64 : Int32) < p1 then (if p1 < (983040 : Int32) then (exx_16 p1) else (1 : Int32)) else (1 : Int32))
theorem d3_0 : decode method_2_code 0 = .ok (.iload_n 0, 1) := by decide +kernel
theorem d3_1 : decode method_2_code 1 = .ok (.bipush 64, 2) := by decide +kernel
theorem d3_3 : decode method_2_code 3 = .ok (.if_icmp .gt 5, 3) := by decide +kernel
theorem d3_6 : decode method_2_code 6 = .ok (.iconst 1, 1) := by decide +kernel
theorem d3_7 : decode method_2_code 7 = .ok (.ireturn, 1) := by decide +kernel
theorem d3_8 : decode method_2_code 8 = .ok (.iload_n 0, 1) := by decide +kernel
theorem d3_9 : decode method_2_code 9 = .ok (.ldc 7, 2) := by decide +kernel
theorem d3_11 : decode method_2_code 11 = .ok (.if_icmp .lt 5, 3) := by decide +kernel
theorem d3_14 : decode method_2_code 14 = .ok (.iconst 1, 1) := by decide +kernel
theorem d3_15 : decode method_2_code 15 = .ok (.ireturn, 1) := by decide +kernel
theorem d3_16 : decode method_2_code 16 = .ok (.iload_n 0, 1) := by decide +kernel
theorem d3_17 : decode method_2_code 17 = .ok (.bipush 91, 2) := by decide +kernel
theorem d3_19 : decode method_2_code 19 = .ok (.if_icmp .lt 9, 3) := by decide +kernel
theorem d3_22 : decode method_2_code 22 = .ok (.iload_n 0, 1) := by decide +kernel
theorem d3_23 : decode method_2_code 23 = .ok (.bipush 94, 2) := by decide +kernel
theorem d3_25 : decode method_2_code 25 = .ok (.if_icmp .le 149, 3) := by decide +kernel
theorem d3_28 : decode method_2_code 28 = .ok (.iload_n 0, 1) := by decide +kernel
theorem d3_29 : decode method_2_code 29 = .ok (.bipush 96, 2) := by decide +kernel
theorem d3_31 : decode method_2_code 31 = .ok (.if_icmp .eq 143, 3) := by decide +kernel
theorem d3_34 : decode method_2_code 34 = .ok (.iload_n 0, 1) := by decide +kernel
theorem d3_35 : decode method_2_code 35 = .ok (.bipush 123, 2) := by decide +kernel
theorem d3_37 : decode method_2_code 37 = .ok (.if_icmp .lt 10, 3) := by decide +kernel
theorem d3_40 : decode method_2_code 40 = .ok (.iload_n 0, 1) := by decide +kernel
theorem d3_41 : decode method_2_code 41 = .ok (.sipush 191, 3) := by decide +kernel
theorem d3_44 : decode method_2_code 44 = .ok (.if_icmp .le 130, 3) := by decide +kernel
theorem d3_47 : decode method_2_code 47 = .ok (.iload_n 0, 1) := by decide +kernel
theorem d3_48 : decode method_2_code 48 = .ok (.sipush 215, 3) := by decide +kernel
theorem d3_51 : decode method_2_code 51 = .ok (.if_icmp .eq 123, 3) := by decide +kernel
theorem d3_54 : decode method_2_code 54 = .ok (.iload_n 0, 1) := by decide +kernel
theorem d3_55 : decode method_2_code 55 = .ok (.sipush 247, 3) := by decide +kernel
theorem d3_58 : decode method_2_code 58 = .ok (.if_icmp .eq 116, 3) := by decide +kernel
theorem d3_61 : decode method_2_code 61 = .ok (.iload_n 0, 1) := by decide +kernel
theorem d3_62 : decode method_2_code 62 = .ok (.sipush 768, 3) := by decide +kernel
theorem d3_65 : decode method_2_code 65 = .ok (.if_icmp .lt 10, 3) := by decide +kernel
theorem d3_68 : decode method_2_code 68 = .ok (.iload_n 0, 1) := by decide +kernel
theorem d3_69 : decode method_2_code 69 = .ok (.sipush 879, 3) := by decide +kernel
theorem d3_72 : decode method_2_code 72 = .ok (.if_icmp .le 102, 3) := by decide +kernel
theorem d3_75 : decode method_2_code 75 = .ok (.iload_n 0, 1) := by decide +kernel
theorem d3_76 : decode method_2_code 76 = .ok (.sipush 894, 3) := by decide +kernel
theorem d3_79 : decode method_2_code 79 = .ok (.if_icmp .eq 95, 3) := by decide +kernel
theorem d3_82 : decode method_2_code 82 = .ok (.iload_n 0, 1) := by decide +kernel
theorem d3_83 : decode method_2_code 83 = .ok (.sipush 8192, 3) := by decide +kernel
theorem d3_86 : decode method_2_code 86 = .ok (.if_icmp .lt 10, 3) := by decide +kernel
theorem d3_89 : decode method_2_code 89 = .ok (.iload_n 0, 1) := by decide +kernel
theorem d3_90 : decode method_2_code 90 = .ok (.sipush 8203, 3) := by decide +kernel
theorem d3_93 : decode method_2_code 93 = .ok (.if_icmp .le 81, 3) := by decide +kernel
theorem d3_96 : decode method_2_code 96 = .ok (.iload_n 0, 1) := by decide +kernel
theorem d3_97 : decode method_2_code 97 = .ok (.sipush 8206, 3) := by decide +kernel
theorem d3_100 : decode method_2_code 100 = .ok (.if_icmp .lt 10, 3) := by decide +kernel
theorem d3_103 : decode method_2_code 103 = .ok (.iload_n 0, 1) := by decide +kernel
theorem d3_104 : decode method_2_code 104 = .ok (.sipush 8303, 3) := by decide +kernel
theorem d3_107 : decode method_2_code 107 = .ok (.if_icmp .le 67, 3) := by decide +kernel
theorem d3_110 : decode method_2_code 110 = .ok (.iload_n 0, 1) := by decide +kernel
theorem d3_111 : decode method_2_code 111 = .ok (.sipush 8592, 3) := by decide +kernel
theorem d3_114 : decode method_2_code 114 = .ok (.if_icmp .lt 10, 3) := by decide +kernel
theorem d3_117 : decode method_2_code 117 = .ok (.iload_n 0, 1) := by decide +kernel
theorem d3_118 : decode method_2_code 118 = .ok (.sipush 11263, 3) := by decide +kernel
theorem d3_121 : decode method_2_code 121 = .ok (.if_icmp .le 53, 3) := by decide +kernel
theorem d3_124 : decode method_2_code 124 = .ok (.iload_n 0, 1) := by decide +kernel
theorem d3_125 : decode method_2_code 125 = .ok (.sipush 12272, 3) := by decide +kernel
theorem d3_128 : decode method_2_code 128 = .ok (.if_icmp .lt 10, 3) := by decide +kernel
theorem d3_131 : decode method_2_code 131 = .ok (.iload_n 0, 1) := by decide +kernel
theorem d3_132 : decode method_2_code 132 = .ok (.sipush 12288, 3) := by decide +kernel
theorem d3_135 : decode method_2_code 135 = .ok (.if_icmp .le 39, 3) := by decide +kernel
theorem d3_138 : decode method_2_code 138 = .ok (.iload_n 0, 1) := by decide +kernel
theorem d3_139 : decode method_2_code 139 = .ok (.ldc 8, 2) := by decide +kernel
theorem d3_141 : decode method_2_code 141 = .ok (.if_icmp .lt 9, 3) := by decide +kernel
theorem d3_144 : decode method_2_code 144 = .ok (.iload_n 0, 1) := by decide +kernel
theorem d3_145 : decode method_2_code 145 = .ok (.ldc 9, 2) := by decide +kernel
theorem d3_147 : decode method_2_code 147 = .ok (.if_icmp .le 27, 3) := by decide +kernel
theorem d3_150 : decode method_2_code 150 = .ok (.iload_n 0, 1) := by decide +kernel
theorem d3_151 : decode method_2_code 151 = .ok (.ldc 10, 2) := by decide +kernel
theorem d3_153 : decode method_2_code 153 = .ok (.if_icmp .lt 9, 3) := by decide +kernel
theorem d3_156 : decode method_2_code 156 = .ok (.iload_n 0, 1) := by decide +kernel
theorem d3_157 : decode method_2_code 157 = .ok (.ldc 11, 2) := by decide +kernel
theorem d3_159 : decode method_2_code 159 = .ok (.if_icmp .le 15, 3) := by decide +kernel
theorem d3_162 : decode method_2_code 162 = .ok (.iload_n 0, 1) := by decide +kernel
theorem d3_163 : decode method_2_code 163 = .ok (.ldc 12, 2) := by decide +kernel
theorem d3_165 : decode method_2_code 165 = .ok (.if_icmp .lt 13, 3) := by decide +kernel
theorem d3_168 : decode method_2_code 168 = .ok (.iload_n 0, 1) := by decide +kernel
theorem d3_169 : decode method_2_code 169 = .ok (.ldc 13, 2) := by decide +kernel
theorem d3_171 : decode method_2_code 171 = .ok (.if_icmp .gt 7, 3) := by decide +kernel
theorem d3_174 : decode method_2_code 174 = .ok (.iconst 1, 1) := by decide +kernel
theorem d3_175 : decode method_2_code 175 = .ok (.goto 4, 3) := by decide +kernel
theorem d3_178 : decode method_2_code 178 = .ok (.iconst 0, 1) := by decide +kernel
theorem d3_179 : decode method_2_code 179 = .ok (.ireturn, 1) := by decide +kernel
theorem pn_3 : plainName "com/example/xml_document_query/xmldocumentquery/value/XmlCharactersIsNCNameStartCharPinLaw" = true := by first | (simp [plainName, overriddenIn]; done) | decide +kernel
theorem ef_3 (m : MethodId) (x0 : Int32) : entryFrame m #[(.int x0)] 1 = mkF m 0 #[.val (.int x0)] [] := by first | (simp [entryFrame, mkF, argsToLocals, Value.category]; done) | rfl
def Q3 (Z : State) (p1 : Int32)  (h0 : Heap) (n0 : Nat) (v : Option Value) (h : Heap) (L : List Loc) : Prop := v = some (.int (exx_0 p1)) ∧ Fr n0 L ∧ h = h0
set_option maxRecDepth 65536 in
set_option maxHeartbeats 40000000 in
theorem rm3 (l : Launch) (Z : State) (a0 : Array Value) (hw : ∀ d ∈ tables_1, d.before a0 Z = true) (ws : List Jvm.Cond) (p1 : Int32)  (h0 : Heap) (n0 : Nat) (Z0 : n0 ≤ h0.size) :
    MetFree l (⟨"com/example/xml_document_query/xmldocumentquery/value/XmlCharactersIsNCNameStartCharPinLaw", "excluded", "(I)Z"⟩ : MethodName) (head1 (Jvm.Cond.code (⟨"com/example/xml_document_query/xmldocumentquery/value/XmlCharactersIsNCNameStartCharPinLaw", "excluded", "(I)Z"⟩ : MethodName) method_2_code 1 (some .boolean) :: ws) ({ frames := 0, cells := 0, slots := 0, locals := 0 } : Room)) (fun a U => a = #[(.int p1)] ∧ Z.Warmed39 U.vm ∧ U.heap = h0) (fun _ _ _ _ _ => True) (fun _ U o U' => ∃ v L, o = .returned v ∧ Q3 Z p1 h0 n0 v U'.heap L ∧ FrameEnd U o U' L ({ frames := 0, cells := 0, slots := 0, locals := 0 } : Room).cells ({ frames := 0, cells := 0, slots := 0, locals := 0 } : Room).slots) := by
  refine MetFree.of_bodySF (plainFor_of_name pn_3) hisR ?_
  intro p e s m args below meth c s₁ Bd hml0 hP hK
  obtain ⟨rfl, hZ, hh⟩ := hP
  have hx := Bd.exec
  have hby := Bd.bytes
  have hlk := Bd.notSynchronized
  have hml : c.maxLocals = 1 := hml0
  have hown : s.vm.findClass "com/example/xml_document_query/xmldocumentquery/value/XmlCharactersIsNCNameStartCharPinLaw" = some m.cls := findClass_of_methodNamed Bd.named
  have hnm := (name_of_methodNamed Bd.named Bd.method).1
  have X0 : Stand p l e ({ frames := 0, cells := 0, slots := 0, locals := 0 } : Room) s m #[(.int p1)] below meth c s₁ [] 0 0 := Stand.of_body Bd
  have e0 : s₁.heap = h0 := by rw [← hh, Bd.state]; rfl
  have N0 := Fr.nil n0
  have K0 : Keep h0 h0 [] := Keep.refl h0 _
  show OutW p e below s ({ frames := 0, cells := 0, slots := 0, locals := 0 } : Room).cells ({ frames := 0, cells := 0, slots := 0, locals := 0 } : Room).slots (Qpure h0 n0 (.int (exx_0 p1))) _
  refine OutW.back (fun t k => castTop (ef_3 m p1) k) ?_
  show OutW _ _ _ _ _ _ _ (s₁.setTop (mkF m 0 #[.val (.int p1)] []))
  have b_162 : OutW p e below s 0 0 (Qpure h0 n0 (.int (exx_162 p1))) (s₁.setTop (mkF m 162 #[.val (.int p1)] [])) := by
    refine OutW.back (fun t k => XS.iloadN X0.here hx rfl (hb hby d3_162) rfl  k) ?_
    show OutW _ _ _ _ _ _ _ (s₁.setTop (mkF m 163 #[.val (.int p1)] [(.int p1)]))
    refine OutW.back (X0.ldcInt hx hown (mvT hZ (hw _ (List.mem_of_getElem? (i := 5) rfl))) (g := (mkF m 163 #[.val (.int p1)] [(.int p1)])) rfl (hb hby d3_163)) ?_
    show OutW _ _ _ _ _ _ _ (s₁.setTop (mkF m 165 #[.val (.int p1)] [(.int (65534 : Int32)), (.int p1)]))
    by_cases c165_1 : p1 < (65534 : Int32)
    · skip
      refine OutW.back (fun t k => XS.icmpYes X0.here hx rfl (pc0 := 165) (pc' := 178) rfl (hb hby d3_165) rfl (tlt c165_1).1 (by decide) (by decide) k) ?_
      show OutW _ _ _ _ _ _ _ (s₁.setTop (mkF m 178 #[.val (.int p1)] []))
      refine OutW.back (fun t k => XS.iconst X0.here hx rfl (hb hby d3_178) k) ?_
      show OutW _ _ _ _ _ _ _ (s₁.setTop (mkF m 179 #[.val (.int p1)] [(.int (0 : Int32))]))
      refine OutW.retN X0 hx (t := .boolean) (z' := (0 : Int32)) Bd.returns (by simp) hlk (hb hby d3_179) ?hz (by decide) (by decide) ?_
      case hz =>
        rfl
      show Qpure h0 n0 _ _ s₁.heap _
      rw [e0]
      exact ⟨by rw [exx_162, if_pos c165_1], N0, rfl⟩
    · skip
      refine OutW.back (fun t k => XS.icmpNo X0.here hx rfl (hb hby d3_165) rfl (flt c165_1).1 k) ?_
      show OutW _ _ _ _ _ _ _ (s₁.setTop (mkF m 168 #[.val (.int p1)] []))
      refine OutW.back (fun t k => XS.iloadN X0.here hx rfl (hb hby d3_168) rfl  k) ?_
      show OutW _ _ _ _ _ _ _ (s₁.setTop (mkF m 169 #[.val (.int p1)] [(.int p1)]))
      refine OutW.back (X0.ldcInt hx hown (mvT hZ (hw _ (List.mem_of_getElem? (i := 29) rfl))) (g := (mkF m 169 #[.val (.int p1)] [(.int p1)])) rfl (hb hby d3_169)) ?_
      show OutW _ _ _ _ _ _ _ (s₁.setTop (mkF m 171 #[.val (.int p1)] [(.int (65535 : Int32)), (.int p1)]))
      by_cases c171_2 : (65535 : Int32) < p1
      · skip
        refine OutW.back (fun t k => XS.icmpYes X0.here hx rfl (pc0 := 171) (pc' := 178) rfl (hb hby d3_171) rfl (tlt c171_2).2.2.1 (by decide) (by decide) k) ?_
        show OutW _ _ _ _ _ _ _ (s₁.setTop (mkF m 178 #[.val (.int p1)] []))
        refine OutW.back (fun t k => XS.iconst X0.here hx rfl (hb hby d3_178) k) ?_
        show OutW _ _ _ _ _ _ _ (s₁.setTop (mkF m 179 #[.val (.int p1)] [(.int (0 : Int32))]))
        refine OutW.retN X0 hx (t := .boolean) (z' := (0 : Int32)) Bd.returns (by simp) hlk (hb hby d3_179) ?hz (by decide) (by decide) ?_
        case hz =>
          rfl
        show Qpure h0 n0 _ _ s₁.heap _
        rw [e0]
        exact ⟨by rw [exx_162, if_neg c165_1, if_pos c171_2], N0, rfl⟩
      · skip
        refine OutW.back (fun t k => XS.icmpNo X0.here hx rfl (hb hby d3_171) rfl (flt c171_2).2.2.1 k) ?_
        show OutW _ _ _ _ _ _ _ (s₁.setTop (mkF m 174 #[.val (.int p1)] []))
        refine OutW.back (fun t k => XS.iconst X0.here hx rfl (hb hby d3_174) k) ?_
        show OutW _ _ _ _ _ _ _ (s₁.setTop (mkF m 175 #[.val (.int p1)] [(.int (1 : Int32))]))
        refine OutW.back (fun t k => XS.goto X0.here hx rfl (pc0 := 175) (pc' := 179) rfl (hb hby d3_175) (by decide) (by decide) k) ?_
        show OutW _ _ _ _ _ _ _ (s₁.setTop (mkF m 179 #[.val (.int p1)] [(.int (1 : Int32))]))
        refine OutW.retN X0 hx (t := .boolean) (z' := (1 : Int32)) Bd.returns (by simp) hlk (hb hby d3_179) ?hz (by decide) (by decide) ?_
        case hz =>
          rfl
        show Qpure h0 n0 _ _ s₁.heap _
        rw [e0]
        exact ⟨by rw [exx_162, if_neg c165_1, if_neg c171_2], N0, rfl⟩
  have b_150 : OutW p e below s 0 0 (Qpure h0 n0 (.int (exx_150 p1))) (s₁.setTop (mkF m 150 #[.val (.int p1)] [])) := by
    refine OutW.back (fun t k => XS.iloadN X0.here hx rfl (hb hby d3_150) rfl  k) ?_
    show OutW _ _ _ _ _ _ _ (s₁.setTop (mkF m 151 #[.val (.int p1)] [(.int p1)]))
    refine OutW.back (X0.ldcInt hx hown (mvT hZ (hw _ (List.mem_of_getElem? (i := 3) rfl))) (g := (mkF m 151 #[.val (.int p1)] [(.int p1)])) rfl (hb hby d3_151)) ?_
    show OutW _ _ _ _ _ _ _ (s₁.setTop (mkF m 153 #[.val (.int p1)] [(.int (64976 : Int32)), (.int p1)]))
    by_cases c153_3 : p1 < (64976 : Int32)
    · skip
      refine OutW.back (fun t k => XS.icmpYes X0.here hx rfl (pc0 := 153) (pc' := 162) rfl (hb hby d3_153) rfl (tlt c153_3).1 (by decide) (by decide) k) ?_
      show OutW _ _ _ _ _ _ _ (s₁.setTop (mkF m 162 #[.val (.int p1)] []))
      have eqb : exx_150 p1 = exx_162 p1 := by rw [exx_150, if_pos c153_3]
      rw [eqb]
      exact b_162
    · skip
      refine OutW.back (fun t k => XS.icmpNo X0.here hx rfl (hb hby d3_153) rfl (flt c153_3).1 k) ?_
      show OutW _ _ _ _ _ _ _ (s₁.setTop (mkF m 156 #[.val (.int p1)] []))
      refine OutW.back (fun t k => XS.iloadN X0.here hx rfl (hb hby d3_156) rfl  k) ?_
      show OutW _ _ _ _ _ _ _ (s₁.setTop (mkF m 157 #[.val (.int p1)] [(.int p1)]))
      refine OutW.back (X0.ldcInt hx hown (mvT hZ (hw _ (List.mem_of_getElem? (i := 28) rfl))) (g := (mkF m 157 #[.val (.int p1)] [(.int p1)])) rfl (hb hby d3_157)) ?_
      show OutW _ _ _ _ _ _ _ (s₁.setTop (mkF m 159 #[.val (.int p1)] [(.int (65007 : Int32)), (.int p1)]))
      by_cases c159_4 : (65007 : Int32) < p1
      · skip
        refine OutW.back (fun t k => XS.icmpNo X0.here hx rfl (hb hby d3_159) rfl (tlt c159_4).2.2.2 k) ?_
        show OutW _ _ _ _ _ _ _ (s₁.setTop (mkF m 162 #[.val (.int p1)] []))
        have eqb : exx_150 p1 = exx_162 p1 := by rw [exx_150, if_neg c153_3, if_pos c159_4]
        rw [eqb]
        exact b_162
      · skip
        refine OutW.back (fun t k => XS.icmpYes X0.here hx rfl (pc0 := 159) (pc' := 174) rfl (hb hby d3_159) rfl (flt c159_4).2.2.2 (by decide) (by decide) k) ?_
        show OutW _ _ _ _ _ _ _ (s₁.setTop (mkF m 174 #[.val (.int p1)] []))
        refine OutW.back (fun t k => XS.iconst X0.here hx rfl (hb hby d3_174) k) ?_
        show OutW _ _ _ _ _ _ _ (s₁.setTop (mkF m 175 #[.val (.int p1)] [(.int (1 : Int32))]))
        refine OutW.back (fun t k => XS.goto X0.here hx rfl (pc0 := 175) (pc' := 179) rfl (hb hby d3_175) (by decide) (by decide) k) ?_
        show OutW _ _ _ _ _ _ _ (s₁.setTop (mkF m 179 #[.val (.int p1)] [(.int (1 : Int32))]))
        refine OutW.retN X0 hx (t := .boolean) (z' := (1 : Int32)) Bd.returns (by simp) hlk (hb hby d3_179) ?hz (by decide) (by decide) ?_
        case hz =>
          rfl
        show Qpure h0 n0 _ _ s₁.heap _
        rw [e0]
        exact ⟨by rw [exx_150, if_neg c153_3, if_neg c159_4], N0, rfl⟩
  have b_138 : OutW p e below s 0 0 (Qpure h0 n0 (.int (exx_138 p1))) (s₁.setTop (mkF m 138 #[.val (.int p1)] [])) := by
    refine OutW.back (fun t k => XS.iloadN X0.here hx rfl (hb hby d3_138) rfl  k) ?_
    show OutW _ _ _ _ _ _ _ (s₁.setTop (mkF m 139 #[.val (.int p1)] [(.int p1)]))
    refine OutW.back (X0.ldcInt hx hown (mvT hZ (hw _ (List.mem_of_getElem? (i := 1) rfl))) (g := (mkF m 139 #[.val (.int p1)] [(.int p1)])) rfl (hb hby d3_139)) ?_
    show OutW _ _ _ _ _ _ _ (s₁.setTop (mkF m 141 #[.val (.int p1)] [(.int (55296 : Int32)), (.int p1)]))
    by_cases c141_5 : p1 < (55296 : Int32)
    · skip
      refine OutW.back (fun t k => XS.icmpYes X0.here hx rfl (pc0 := 141) (pc' := 150) rfl (hb hby d3_141) rfl (tlt c141_5).1 (by decide) (by decide) k) ?_
      show OutW _ _ _ _ _ _ _ (s₁.setTop (mkF m 150 #[.val (.int p1)] []))
      have eqb : exx_138 p1 = exx_150 p1 := by rw [exx_138, if_pos c141_5]
      rw [eqb]
      exact b_150
    · skip
      refine OutW.back (fun t k => XS.icmpNo X0.here hx rfl (hb hby d3_141) rfl (flt c141_5).1 k) ?_
      show OutW _ _ _ _ _ _ _ (s₁.setTop (mkF m 144 #[.val (.int p1)] []))
      refine OutW.back (fun t k => XS.iloadN X0.here hx rfl (hb hby d3_144) rfl  k) ?_
      show OutW _ _ _ _ _ _ _ (s₁.setTop (mkF m 145 #[.val (.int p1)] [(.int p1)]))
      refine OutW.back (X0.ldcInt hx hown (mvT hZ (hw _ (List.mem_of_getElem? (i := 27) rfl))) (g := (mkF m 145 #[.val (.int p1)] [(.int p1)])) rfl (hb hby d3_145)) ?_
      show OutW _ _ _ _ _ _ _ (s₁.setTop (mkF m 147 #[.val (.int p1)] [(.int (63743 : Int32)), (.int p1)]))
      by_cases c147_6 : (63743 : Int32) < p1
      · skip
        refine OutW.back (fun t k => XS.icmpNo X0.here hx rfl (hb hby d3_147) rfl (tlt c147_6).2.2.2 k) ?_
        show OutW _ _ _ _ _ _ _ (s₁.setTop (mkF m 150 #[.val (.int p1)] []))
        have eqb : exx_138 p1 = exx_150 p1 := by rw [exx_138, if_neg c141_5, if_pos c147_6]
        rw [eqb]
        exact b_150
      · skip
        refine OutW.back (fun t k => XS.icmpYes X0.here hx rfl (pc0 := 147) (pc' := 174) rfl (hb hby d3_147) rfl (flt c147_6).2.2.2 (by decide) (by decide) k) ?_
        show OutW _ _ _ _ _ _ _ (s₁.setTop (mkF m 174 #[.val (.int p1)] []))
        refine OutW.back (fun t k => XS.iconst X0.here hx rfl (hb hby d3_174) k) ?_
        show OutW _ _ _ _ _ _ _ (s₁.setTop (mkF m 175 #[.val (.int p1)] [(.int (1 : Int32))]))
        refine OutW.back (fun t k => XS.goto X0.here hx rfl (pc0 := 175) (pc' := 179) rfl (hb hby d3_175) (by decide) (by decide) k) ?_
        show OutW _ _ _ _ _ _ _ (s₁.setTop (mkF m 179 #[.val (.int p1)] [(.int (1 : Int32))]))
        refine OutW.retN X0 hx (t := .boolean) (z' := (1 : Int32)) Bd.returns (by simp) hlk (hb hby d3_179) ?hz (by decide) (by decide) ?_
        case hz =>
          rfl
        show Qpure h0 n0 _ _ s₁.heap _
        rw [e0]
        exact ⟨by rw [exx_138, if_neg c141_5, if_neg c147_6], N0, rfl⟩
  have b_124 : OutW p e below s 0 0 (Qpure h0 n0 (.int (exx_124 p1))) (s₁.setTop (mkF m 124 #[.val (.int p1)] [])) := by
    refine OutW.back (fun t k => XS.iloadN X0.here hx rfl (hb hby d3_124) rfl  k) ?_
    show OutW _ _ _ _ _ _ _ (s₁.setTop (mkF m 125 #[.val (.int p1)] [(.int p1)]))
    refine OutW.back (fun t k => XS.sipush X0.here hx rfl (hb hby d3_125) k) ?_
    show OutW _ _ _ _ _ _ _ (s₁.setTop (mkF m 128 #[.val (.int p1)] [(.int (12272 : Int32)), (.int p1)]))
    by_cases c128_7 : p1 < (12272 : Int32)
    · skip
      refine OutW.back (fun t k => XS.icmpYes X0.here hx rfl (pc0 := 128) (pc' := 138) rfl (hb hby d3_128) rfl (tlt c128_7).1 (by decide) (by decide) k) ?_
      show OutW _ _ _ _ _ _ _ (s₁.setTop (mkF m 138 #[.val (.int p1)] []))
      have eqb : exx_124 p1 = exx_138 p1 := by rw [exx_124, if_pos c128_7]
      rw [eqb]
      exact b_138
    · skip
      refine OutW.back (fun t k => XS.icmpNo X0.here hx rfl (hb hby d3_128) rfl (flt c128_7).1 k) ?_
      show OutW _ _ _ _ _ _ _ (s₁.setTop (mkF m 131 #[.val (.int p1)] []))
      refine OutW.back (fun t k => XS.iloadN X0.here hx rfl (hb hby d3_131) rfl  k) ?_
      show OutW _ _ _ _ _ _ _ (s₁.setTop (mkF m 132 #[.val (.int p1)] [(.int p1)]))
      refine OutW.back (fun t k => XS.sipush X0.here hx rfl (hb hby d3_132) k) ?_
      show OutW _ _ _ _ _ _ _ (s₁.setTop (mkF m 135 #[.val (.int p1)] [(.int (12288 : Int32)), (.int p1)]))
      by_cases c135_8 : (12288 : Int32) < p1
      · skip
        refine OutW.back (fun t k => XS.icmpNo X0.here hx rfl (hb hby d3_135) rfl (tlt c135_8).2.2.2 k) ?_
        show OutW _ _ _ _ _ _ _ (s₁.setTop (mkF m 138 #[.val (.int p1)] []))
        have eqb : exx_124 p1 = exx_138 p1 := by rw [exx_124, if_neg c128_7, if_pos c135_8]
        rw [eqb]
        exact b_138
      · skip
        refine OutW.back (fun t k => XS.icmpYes X0.here hx rfl (pc0 := 135) (pc' := 174) rfl (hb hby d3_135) rfl (flt c135_8).2.2.2 (by decide) (by decide) k) ?_
        show OutW _ _ _ _ _ _ _ (s₁.setTop (mkF m 174 #[.val (.int p1)] []))
        refine OutW.back (fun t k => XS.iconst X0.here hx rfl (hb hby d3_174) k) ?_
        show OutW _ _ _ _ _ _ _ (s₁.setTop (mkF m 175 #[.val (.int p1)] [(.int (1 : Int32))]))
        refine OutW.back (fun t k => XS.goto X0.here hx rfl (pc0 := 175) (pc' := 179) rfl (hb hby d3_175) (by decide) (by decide) k) ?_
        show OutW _ _ _ _ _ _ _ (s₁.setTop (mkF m 179 #[.val (.int p1)] [(.int (1 : Int32))]))
        refine OutW.retN X0 hx (t := .boolean) (z' := (1 : Int32)) Bd.returns (by simp) hlk (hb hby d3_179) ?hz (by decide) (by decide) ?_
        case hz =>
          rfl
        show Qpure h0 n0 _ _ s₁.heap _
        rw [e0]
        exact ⟨by rw [exx_124, if_neg c128_7, if_neg c135_8], N0, rfl⟩
  have b_110 : OutW p e below s 0 0 (Qpure h0 n0 (.int (exx_110 p1))) (s₁.setTop (mkF m 110 #[.val (.int p1)] [])) := by
    refine OutW.back (fun t k => XS.iloadN X0.here hx rfl (hb hby d3_110) rfl  k) ?_
    show OutW _ _ _ _ _ _ _ (s₁.setTop (mkF m 111 #[.val (.int p1)] [(.int p1)]))
    refine OutW.back (fun t k => XS.sipush X0.here hx rfl (hb hby d3_111) k) ?_
    show OutW _ _ _ _ _ _ _ (s₁.setTop (mkF m 114 #[.val (.int p1)] [(.int (8592 : Int32)), (.int p1)]))
    by_cases c114_9 : p1 < (8592 : Int32)
    · skip
      refine OutW.back (fun t k => XS.icmpYes X0.here hx rfl (pc0 := 114) (pc' := 124) rfl (hb hby d3_114) rfl (tlt c114_9).1 (by decide) (by decide) k) ?_
      show OutW _ _ _ _ _ _ _ (s₁.setTop (mkF m 124 #[.val (.int p1)] []))
      have eqb : exx_110 p1 = exx_124 p1 := by rw [exx_110, if_pos c114_9]
      rw [eqb]
      exact b_124
    · skip
      refine OutW.back (fun t k => XS.icmpNo X0.here hx rfl (hb hby d3_114) rfl (flt c114_9).1 k) ?_
      show OutW _ _ _ _ _ _ _ (s₁.setTop (mkF m 117 #[.val (.int p1)] []))
      refine OutW.back (fun t k => XS.iloadN X0.here hx rfl (hb hby d3_117) rfl  k) ?_
      show OutW _ _ _ _ _ _ _ (s₁.setTop (mkF m 118 #[.val (.int p1)] [(.int p1)]))
      refine OutW.back (fun t k => XS.sipush X0.here hx rfl (hb hby d3_118) k) ?_
      show OutW _ _ _ _ _ _ _ (s₁.setTop (mkF m 121 #[.val (.int p1)] [(.int (11263 : Int32)), (.int p1)]))
      by_cases c121_10 : (11263 : Int32) < p1
      · skip
        refine OutW.back (fun t k => XS.icmpNo X0.here hx rfl (hb hby d3_121) rfl (tlt c121_10).2.2.2 k) ?_
        show OutW _ _ _ _ _ _ _ (s₁.setTop (mkF m 124 #[.val (.int p1)] []))
        have eqb : exx_110 p1 = exx_124 p1 := by rw [exx_110, if_neg c114_9, if_pos c121_10]
        rw [eqb]
        exact b_124
      · skip
        refine OutW.back (fun t k => XS.icmpYes X0.here hx rfl (pc0 := 121) (pc' := 174) rfl (hb hby d3_121) rfl (flt c121_10).2.2.2 (by decide) (by decide) k) ?_
        show OutW _ _ _ _ _ _ _ (s₁.setTop (mkF m 174 #[.val (.int p1)] []))
        refine OutW.back (fun t k => XS.iconst X0.here hx rfl (hb hby d3_174) k) ?_
        show OutW _ _ _ _ _ _ _ (s₁.setTop (mkF m 175 #[.val (.int p1)] [(.int (1 : Int32))]))
        refine OutW.back (fun t k => XS.goto X0.here hx rfl (pc0 := 175) (pc' := 179) rfl (hb hby d3_175) (by decide) (by decide) k) ?_
        show OutW _ _ _ _ _ _ _ (s₁.setTop (mkF m 179 #[.val (.int p1)] [(.int (1 : Int32))]))
        refine OutW.retN X0 hx (t := .boolean) (z' := (1 : Int32)) Bd.returns (by simp) hlk (hb hby d3_179) ?hz (by decide) (by decide) ?_
        case hz =>
          rfl
        show Qpure h0 n0 _ _ s₁.heap _
        rw [e0]
        exact ⟨by rw [exx_110, if_neg c114_9, if_neg c121_10], N0, rfl⟩
  have b_96 : OutW p e below s 0 0 (Qpure h0 n0 (.int (exx_96 p1))) (s₁.setTop (mkF m 96 #[.val (.int p1)] [])) := by
    refine OutW.back (fun t k => XS.iloadN X0.here hx rfl (hb hby d3_96) rfl  k) ?_
    show OutW _ _ _ _ _ _ _ (s₁.setTop (mkF m 97 #[.val (.int p1)] [(.int p1)]))
    refine OutW.back (fun t k => XS.sipush X0.here hx rfl (hb hby d3_97) k) ?_
    show OutW _ _ _ _ _ _ _ (s₁.setTop (mkF m 100 #[.val (.int p1)] [(.int (8206 : Int32)), (.int p1)]))
    by_cases c100_11 : p1 < (8206 : Int32)
    · skip
      refine OutW.back (fun t k => XS.icmpYes X0.here hx rfl (pc0 := 100) (pc' := 110) rfl (hb hby d3_100) rfl (tlt c100_11).1 (by decide) (by decide) k) ?_
      show OutW _ _ _ _ _ _ _ (s₁.setTop (mkF m 110 #[.val (.int p1)] []))
      have eqb : exx_96 p1 = exx_110 p1 := by rw [exx_96, if_pos c100_11]
      rw [eqb]
      exact b_110
    · skip
      refine OutW.back (fun t k => XS.icmpNo X0.here hx rfl (hb hby d3_100) rfl (flt c100_11).1 k) ?_
      show OutW _ _ _ _ _ _ _ (s₁.setTop (mkF m 103 #[.val (.int p1)] []))
      refine OutW.back (fun t k => XS.iloadN X0.here hx rfl (hb hby d3_103) rfl  k) ?_
      show OutW _ _ _ _ _ _ _ (s₁.setTop (mkF m 104 #[.val (.int p1)] [(.int p1)]))
      refine OutW.back (fun t k => XS.sipush X0.here hx rfl (hb hby d3_104) k) ?_
      show OutW _ _ _ _ _ _ _ (s₁.setTop (mkF m 107 #[.val (.int p1)] [(.int (8303 : Int32)), (.int p1)]))
      by_cases c107_12 : (8303 : Int32) < p1
      · skip
        refine OutW.back (fun t k => XS.icmpNo X0.here hx rfl (hb hby d3_107) rfl (tlt c107_12).2.2.2 k) ?_
        show OutW _ _ _ _ _ _ _ (s₁.setTop (mkF m 110 #[.val (.int p1)] []))
        have eqb : exx_96 p1 = exx_110 p1 := by rw [exx_96, if_neg c100_11, if_pos c107_12]
        rw [eqb]
        exact b_110
      · skip
        refine OutW.back (fun t k => XS.icmpYes X0.here hx rfl (pc0 := 107) (pc' := 174) rfl (hb hby d3_107) rfl (flt c107_12).2.2.2 (by decide) (by decide) k) ?_
        show OutW _ _ _ _ _ _ _ (s₁.setTop (mkF m 174 #[.val (.int p1)] []))
        refine OutW.back (fun t k => XS.iconst X0.here hx rfl (hb hby d3_174) k) ?_
        show OutW _ _ _ _ _ _ _ (s₁.setTop (mkF m 175 #[.val (.int p1)] [(.int (1 : Int32))]))
        refine OutW.back (fun t k => XS.goto X0.here hx rfl (pc0 := 175) (pc' := 179) rfl (hb hby d3_175) (by decide) (by decide) k) ?_
        show OutW _ _ _ _ _ _ _ (s₁.setTop (mkF m 179 #[.val (.int p1)] [(.int (1 : Int32))]))
        refine OutW.retN X0 hx (t := .boolean) (z' := (1 : Int32)) Bd.returns (by simp) hlk (hb hby d3_179) ?hz (by decide) (by decide) ?_
        case hz =>
          rfl
        show Qpure h0 n0 _ _ s₁.heap _
        rw [e0]
        exact ⟨by rw [exx_96, if_neg c100_11, if_neg c107_12], N0, rfl⟩
  have b_82 : OutW p e below s 0 0 (Qpure h0 n0 (.int (exx_82 p1))) (s₁.setTop (mkF m 82 #[.val (.int p1)] [])) := by
    refine OutW.back (fun t k => XS.iloadN X0.here hx rfl (hb hby d3_82) rfl  k) ?_
    show OutW _ _ _ _ _ _ _ (s₁.setTop (mkF m 83 #[.val (.int p1)] [(.int p1)]))
    refine OutW.back (fun t k => XS.sipush X0.here hx rfl (hb hby d3_83) k) ?_
    show OutW _ _ _ _ _ _ _ (s₁.setTop (mkF m 86 #[.val (.int p1)] [(.int (8192 : Int32)), (.int p1)]))
    by_cases c86_13 : p1 < (8192 : Int32)
    · skip
      refine OutW.back (fun t k => XS.icmpYes X0.here hx rfl (pc0 := 86) (pc' := 96) rfl (hb hby d3_86) rfl (tlt c86_13).1 (by decide) (by decide) k) ?_
      show OutW _ _ _ _ _ _ _ (s₁.setTop (mkF m 96 #[.val (.int p1)] []))
      have eqb : exx_82 p1 = exx_96 p1 := by rw [exx_82, if_pos c86_13]
      rw [eqb]
      exact b_96
    · skip
      refine OutW.back (fun t k => XS.icmpNo X0.here hx rfl (hb hby d3_86) rfl (flt c86_13).1 k) ?_
      show OutW _ _ _ _ _ _ _ (s₁.setTop (mkF m 89 #[.val (.int p1)] []))
      refine OutW.back (fun t k => XS.iloadN X0.here hx rfl (hb hby d3_89) rfl  k) ?_
      show OutW _ _ _ _ _ _ _ (s₁.setTop (mkF m 90 #[.val (.int p1)] [(.int p1)]))
      refine OutW.back (fun t k => XS.sipush X0.here hx rfl (hb hby d3_90) k) ?_
      show OutW _ _ _ _ _ _ _ (s₁.setTop (mkF m 93 #[.val (.int p1)] [(.int (8203 : Int32)), (.int p1)]))
      by_cases c93_14 : (8203 : Int32) < p1
      · skip
        refine OutW.back (fun t k => XS.icmpNo X0.here hx rfl (hb hby d3_93) rfl (tlt c93_14).2.2.2 k) ?_
        show OutW _ _ _ _ _ _ _ (s₁.setTop (mkF m 96 #[.val (.int p1)] []))
        have eqb : exx_82 p1 = exx_96 p1 := by rw [exx_82, if_neg c86_13, if_pos c93_14]
        rw [eqb]
        exact b_96
      · skip
        refine OutW.back (fun t k => XS.icmpYes X0.here hx rfl (pc0 := 93) (pc' := 174) rfl (hb hby d3_93) rfl (flt c93_14).2.2.2 (by decide) (by decide) k) ?_
        show OutW _ _ _ _ _ _ _ (s₁.setTop (mkF m 174 #[.val (.int p1)] []))
        refine OutW.back (fun t k => XS.iconst X0.here hx rfl (hb hby d3_174) k) ?_
        show OutW _ _ _ _ _ _ _ (s₁.setTop (mkF m 175 #[.val (.int p1)] [(.int (1 : Int32))]))
        refine OutW.back (fun t k => XS.goto X0.here hx rfl (pc0 := 175) (pc' := 179) rfl (hb hby d3_175) (by decide) (by decide) k) ?_
        show OutW _ _ _ _ _ _ _ (s₁.setTop (mkF m 179 #[.val (.int p1)] [(.int (1 : Int32))]))
        refine OutW.retN X0 hx (t := .boolean) (z' := (1 : Int32)) Bd.returns (by simp) hlk (hb hby d3_179) ?hz (by decide) (by decide) ?_
        case hz =>
          rfl
        show Qpure h0 n0 _ _ s₁.heap _
        rw [e0]
        exact ⟨by rw [exx_82, if_neg c86_13, if_neg c93_14], N0, rfl⟩
  have b_75 : OutW p e below s 0 0 (Qpure h0 n0 (.int (exx_75 p1))) (s₁.setTop (mkF m 75 #[.val (.int p1)] [])) := by
    refine OutW.back (fun t k => XS.iloadN X0.here hx rfl (hb hby d3_75) rfl  k) ?_
    show OutW _ _ _ _ _ _ _ (s₁.setTop (mkF m 76 #[.val (.int p1)] [(.int p1)]))
    refine OutW.back (fun t k => XS.sipush X0.here hx rfl (hb hby d3_76) k) ?_
    show OutW _ _ _ _ _ _ _ (s₁.setTop (mkF m 79 #[.val (.int p1)] [(.int (894 : Int32)), (.int p1)]))
    by_cases c79_15 : p1 = (894 : Int32)
    · skip
      refine OutW.back (fun t k => XS.icmpYes X0.here hx rfl (pc0 := 79) (pc' := 174) rfl (hb hby d3_79) rfl (teq c79_15).1 (by decide) (by decide) k) ?_
      show OutW _ _ _ _ _ _ _ (s₁.setTop (mkF m 174 #[.val (.int p1)] []))
      refine OutW.back (fun t k => XS.iconst X0.here hx rfl (hb hby d3_174) k) ?_
      show OutW _ _ _ _ _ _ _ (s₁.setTop (mkF m 175 #[.val (.int p1)] [(.int (1 : Int32))]))
      refine OutW.back (fun t k => XS.goto X0.here hx rfl (pc0 := 175) (pc' := 179) rfl (hb hby d3_175) (by decide) (by decide) k) ?_
      show OutW _ _ _ _ _ _ _ (s₁.setTop (mkF m 179 #[.val (.int p1)] [(.int (1 : Int32))]))
      refine OutW.retN X0 hx (t := .boolean) (z' := (1 : Int32)) Bd.returns (by simp) hlk (hb hby d3_179) ?hz (by decide) (by decide) ?_
      case hz =>
        rfl
      show Qpure h0 n0 _ _ s₁.heap _
      rw [e0]
      exact ⟨by rw [exx_75, if_pos c79_15], N0, rfl⟩
    · skip
      refine OutW.back (fun t k => XS.icmpNo X0.here hx rfl (hb hby d3_79) rfl (feq c79_15).1 k) ?_
      show OutW _ _ _ _ _ _ _ (s₁.setTop (mkF m 82 #[.val (.int p1)] []))
      have eqb : exx_75 p1 = exx_82 p1 := by rw [exx_75, if_neg c79_15]
      rw [eqb]
      exact b_82
  have b_61 : OutW p e below s 0 0 (Qpure h0 n0 (.int (exx_61 p1))) (s₁.setTop (mkF m 61 #[.val (.int p1)] [])) := by
    refine OutW.back (fun t k => XS.iloadN X0.here hx rfl (hb hby d3_61) rfl  k) ?_
    show OutW _ _ _ _ _ _ _ (s₁.setTop (mkF m 62 #[.val (.int p1)] [(.int p1)]))
    refine OutW.back (fun t k => XS.sipush X0.here hx rfl (hb hby d3_62) k) ?_
    show OutW _ _ _ _ _ _ _ (s₁.setTop (mkF m 65 #[.val (.int p1)] [(.int (768 : Int32)), (.int p1)]))
    by_cases c65_16 : p1 < (768 : Int32)
    · skip
      refine OutW.back (fun t k => XS.icmpYes X0.here hx rfl (pc0 := 65) (pc' := 75) rfl (hb hby d3_65) rfl (tlt c65_16).1 (by decide) (by decide) k) ?_
      show OutW _ _ _ _ _ _ _ (s₁.setTop (mkF m 75 #[.val (.int p1)] []))
      have eqb : exx_61 p1 = exx_75 p1 := by rw [exx_61, if_pos c65_16]
      rw [eqb]
      exact b_75
    · skip
      refine OutW.back (fun t k => XS.icmpNo X0.here hx rfl (hb hby d3_65) rfl (flt c65_16).1 k) ?_
      show OutW _ _ _ _ _ _ _ (s₁.setTop (mkF m 68 #[.val (.int p1)] []))
      refine OutW.back (fun t k => XS.iloadN X0.here hx rfl (hb hby d3_68) rfl  k) ?_
      show OutW _ _ _ _ _ _ _ (s₁.setTop (mkF m 69 #[.val (.int p1)] [(.int p1)]))
      refine OutW.back (fun t k => XS.sipush X0.here hx rfl (hb hby d3_69) k) ?_
      show OutW _ _ _ _ _ _ _ (s₁.setTop (mkF m 72 #[.val (.int p1)] [(.int (879 : Int32)), (.int p1)]))
      by_cases c72_17 : (879 : Int32) < p1
      · skip
        refine OutW.back (fun t k => XS.icmpNo X0.here hx rfl (hb hby d3_72) rfl (tlt c72_17).2.2.2 k) ?_
        show OutW _ _ _ _ _ _ _ (s₁.setTop (mkF m 75 #[.val (.int p1)] []))
        have eqb : exx_61 p1 = exx_75 p1 := by rw [exx_61, if_neg c65_16, if_pos c72_17]
        rw [eqb]
        exact b_75
      · skip
        refine OutW.back (fun t k => XS.icmpYes X0.here hx rfl (pc0 := 72) (pc' := 174) rfl (hb hby d3_72) rfl (flt c72_17).2.2.2 (by decide) (by decide) k) ?_
        show OutW _ _ _ _ _ _ _ (s₁.setTop (mkF m 174 #[.val (.int p1)] []))
        refine OutW.back (fun t k => XS.iconst X0.here hx rfl (hb hby d3_174) k) ?_
        show OutW _ _ _ _ _ _ _ (s₁.setTop (mkF m 175 #[.val (.int p1)] [(.int (1 : Int32))]))
        refine OutW.back (fun t k => XS.goto X0.here hx rfl (pc0 := 175) (pc' := 179) rfl (hb hby d3_175) (by decide) (by decide) k) ?_
        show OutW _ _ _ _ _ _ _ (s₁.setTop (mkF m 179 #[.val (.int p1)] [(.int (1 : Int32))]))
        refine OutW.retN X0 hx (t := .boolean) (z' := (1 : Int32)) Bd.returns (by simp) hlk (hb hby d3_179) ?hz (by decide) (by decide) ?_
        case hz =>
          rfl
        show Qpure h0 n0 _ _ s₁.heap _
        rw [e0]
        exact ⟨by rw [exx_61, if_neg c65_16, if_neg c72_17], N0, rfl⟩
  have b_54 : OutW p e below s 0 0 (Qpure h0 n0 (.int (exx_54 p1))) (s₁.setTop (mkF m 54 #[.val (.int p1)] [])) := by
    refine OutW.back (fun t k => XS.iloadN X0.here hx rfl (hb hby d3_54) rfl  k) ?_
    show OutW _ _ _ _ _ _ _ (s₁.setTop (mkF m 55 #[.val (.int p1)] [(.int p1)]))
    refine OutW.back (fun t k => XS.sipush X0.here hx rfl (hb hby d3_55) k) ?_
    show OutW _ _ _ _ _ _ _ (s₁.setTop (mkF m 58 #[.val (.int p1)] [(.int (247 : Int32)), (.int p1)]))
    by_cases c58_18 : p1 = (247 : Int32)
    · skip
      refine OutW.back (fun t k => XS.icmpYes X0.here hx rfl (pc0 := 58) (pc' := 174) rfl (hb hby d3_58) rfl (teq c58_18).1 (by decide) (by decide) k) ?_
      show OutW _ _ _ _ _ _ _ (s₁.setTop (mkF m 174 #[.val (.int p1)] []))
      refine OutW.back (fun t k => XS.iconst X0.here hx rfl (hb hby d3_174) k) ?_
      show OutW _ _ _ _ _ _ _ (s₁.setTop (mkF m 175 #[.val (.int p1)] [(.int (1 : Int32))]))
      refine OutW.back (fun t k => XS.goto X0.here hx rfl (pc0 := 175) (pc' := 179) rfl (hb hby d3_175) (by decide) (by decide) k) ?_
      show OutW _ _ _ _ _ _ _ (s₁.setTop (mkF m 179 #[.val (.int p1)] [(.int (1 : Int32))]))
      refine OutW.retN X0 hx (t := .boolean) (z' := (1 : Int32)) Bd.returns (by simp) hlk (hb hby d3_179) ?hz (by decide) (by decide) ?_
      case hz =>
        rfl
      show Qpure h0 n0 _ _ s₁.heap _
      rw [e0]
      exact ⟨by rw [exx_54, if_pos c58_18], N0, rfl⟩
    · skip
      refine OutW.back (fun t k => XS.icmpNo X0.here hx rfl (hb hby d3_58) rfl (feq c58_18).1 k) ?_
      show OutW _ _ _ _ _ _ _ (s₁.setTop (mkF m 61 #[.val (.int p1)] []))
      have eqb : exx_54 p1 = exx_61 p1 := by rw [exx_54, if_neg c58_18]
      rw [eqb]
      exact b_61
  have b_47 : OutW p e below s 0 0 (Qpure h0 n0 (.int (exx_47 p1))) (s₁.setTop (mkF m 47 #[.val (.int p1)] [])) := by
    refine OutW.back (fun t k => XS.iloadN X0.here hx rfl (hb hby d3_47) rfl  k) ?_
    show OutW _ _ _ _ _ _ _ (s₁.setTop (mkF m 48 #[.val (.int p1)] [(.int p1)]))
    refine OutW.back (fun t k => XS.sipush X0.here hx rfl (hb hby d3_48) k) ?_
    show OutW _ _ _ _ _ _ _ (s₁.setTop (mkF m 51 #[.val (.int p1)] [(.int (215 : Int32)), (.int p1)]))
    by_cases c51_19 : p1 = (215 : Int32)
    · skip
      refine OutW.back (fun t k => XS.icmpYes X0.here hx rfl (pc0 := 51) (pc' := 174) rfl (hb hby d3_51) rfl (teq c51_19).1 (by decide) (by decide) k) ?_
      show OutW _ _ _ _ _ _ _ (s₁.setTop (mkF m 174 #[.val (.int p1)] []))
      refine OutW.back (fun t k => XS.iconst X0.here hx rfl (hb hby d3_174) k) ?_
      show OutW _ _ _ _ _ _ _ (s₁.setTop (mkF m 175 #[.val (.int p1)] [(.int (1 : Int32))]))
      refine OutW.back (fun t k => XS.goto X0.here hx rfl (pc0 := 175) (pc' := 179) rfl (hb hby d3_175) (by decide) (by decide) k) ?_
      show OutW _ _ _ _ _ _ _ (s₁.setTop (mkF m 179 #[.val (.int p1)] [(.int (1 : Int32))]))
      refine OutW.retN X0 hx (t := .boolean) (z' := (1 : Int32)) Bd.returns (by simp) hlk (hb hby d3_179) ?hz (by decide) (by decide) ?_
      case hz =>
        rfl
      show Qpure h0 n0 _ _ s₁.heap _
      rw [e0]
      exact ⟨by rw [exx_47, if_pos c51_19], N0, rfl⟩
    · skip
      refine OutW.back (fun t k => XS.icmpNo X0.here hx rfl (hb hby d3_51) rfl (feq c51_19).1 k) ?_
      show OutW _ _ _ _ _ _ _ (s₁.setTop (mkF m 54 #[.val (.int p1)] []))
      have eqb : exx_47 p1 = exx_54 p1 := by rw [exx_47, if_neg c51_19]
      rw [eqb]
      exact b_54
  have b_34 : OutW p e below s 0 0 (Qpure h0 n0 (.int (exx_34 p1))) (s₁.setTop (mkF m 34 #[.val (.int p1)] [])) := by
    refine OutW.back (fun t k => XS.iloadN X0.here hx rfl (hb hby d3_34) rfl  k) ?_
    show OutW _ _ _ _ _ _ _ (s₁.setTop (mkF m 35 #[.val (.int p1)] [(.int p1)]))
    refine OutW.back (fun t k => XS.bipush X0.here hx rfl (hb hby d3_35) k) ?_
    show OutW _ _ _ _ _ _ _ (s₁.setTop (mkF m 37 #[.val (.int p1)] [(.int (123 : Int32)), (.int p1)]))
    by_cases c37_20 : p1 < (123 : Int32)
    · skip
      refine OutW.back (fun t k => XS.icmpYes X0.here hx rfl (pc0 := 37) (pc' := 47) rfl (hb hby d3_37) rfl (tlt c37_20).1 (by decide) (by decide) k) ?_
      show OutW _ _ _ _ _ _ _ (s₁.setTop (mkF m 47 #[.val (.int p1)] []))
      have eqb : exx_34 p1 = exx_47 p1 := by rw [exx_34, if_pos c37_20]
      rw [eqb]
      exact b_47
    · skip
      refine OutW.back (fun t k => XS.icmpNo X0.here hx rfl (hb hby d3_37) rfl (flt c37_20).1 k) ?_
      show OutW _ _ _ _ _ _ _ (s₁.setTop (mkF m 40 #[.val (.int p1)] []))
      refine OutW.back (fun t k => XS.iloadN X0.here hx rfl (hb hby d3_40) rfl  k) ?_
      show OutW _ _ _ _ _ _ _ (s₁.setTop (mkF m 41 #[.val (.int p1)] [(.int p1)]))
      refine OutW.back (fun t k => XS.sipush X0.here hx rfl (hb hby d3_41) k) ?_
      show OutW _ _ _ _ _ _ _ (s₁.setTop (mkF m 44 #[.val (.int p1)] [(.int (191 : Int32)), (.int p1)]))
      by_cases c44_21 : (191 : Int32) < p1
      · skip
        refine OutW.back (fun t k => XS.icmpNo X0.here hx rfl (hb hby d3_44) rfl (tlt c44_21).2.2.2 k) ?_
        show OutW _ _ _ _ _ _ _ (s₁.setTop (mkF m 47 #[.val (.int p1)] []))
        have eqb : exx_34 p1 = exx_47 p1 := by rw [exx_34, if_neg c37_20, if_pos c44_21]
        rw [eqb]
        exact b_47
      · skip
        refine OutW.back (fun t k => XS.icmpYes X0.here hx rfl (pc0 := 44) (pc' := 174) rfl (hb hby d3_44) rfl (flt c44_21).2.2.2 (by decide) (by decide) k) ?_
        show OutW _ _ _ _ _ _ _ (s₁.setTop (mkF m 174 #[.val (.int p1)] []))
        refine OutW.back (fun t k => XS.iconst X0.here hx rfl (hb hby d3_174) k) ?_
        show OutW _ _ _ _ _ _ _ (s₁.setTop (mkF m 175 #[.val (.int p1)] [(.int (1 : Int32))]))
        refine OutW.back (fun t k => XS.goto X0.here hx rfl (pc0 := 175) (pc' := 179) rfl (hb hby d3_175) (by decide) (by decide) k) ?_
        show OutW _ _ _ _ _ _ _ (s₁.setTop (mkF m 179 #[.val (.int p1)] [(.int (1 : Int32))]))
        refine OutW.retN X0 hx (t := .boolean) (z' := (1 : Int32)) Bd.returns (by simp) hlk (hb hby d3_179) ?hz (by decide) (by decide) ?_
        case hz =>
          rfl
        show Qpure h0 n0 _ _ s₁.heap _
        rw [e0]
        exact ⟨by rw [exx_34, if_neg c37_20, if_neg c44_21], N0, rfl⟩
  have b_28 : OutW p e below s 0 0 (Qpure h0 n0 (.int (exx_28 p1))) (s₁.setTop (mkF m 28 #[.val (.int p1)] [])) := by
    refine OutW.back (fun t k => XS.iloadN X0.here hx rfl (hb hby d3_28) rfl  k) ?_
    show OutW _ _ _ _ _ _ _ (s₁.setTop (mkF m 29 #[.val (.int p1)] [(.int p1)]))
    refine OutW.back (fun t k => XS.bipush X0.here hx rfl (hb hby d3_29) k) ?_
    show OutW _ _ _ _ _ _ _ (s₁.setTop (mkF m 31 #[.val (.int p1)] [(.int (96 : Int32)), (.int p1)]))
    by_cases c31_22 : p1 = (96 : Int32)
    · skip
      refine OutW.back (fun t k => XS.icmpYes X0.here hx rfl (pc0 := 31) (pc' := 174) rfl (hb hby d3_31) rfl (teq c31_22).1 (by decide) (by decide) k) ?_
      show OutW _ _ _ _ _ _ _ (s₁.setTop (mkF m 174 #[.val (.int p1)] []))
      refine OutW.back (fun t k => XS.iconst X0.here hx rfl (hb hby d3_174) k) ?_
      show OutW _ _ _ _ _ _ _ (s₁.setTop (mkF m 175 #[.val (.int p1)] [(.int (1 : Int32))]))
      refine OutW.back (fun t k => XS.goto X0.here hx rfl (pc0 := 175) (pc' := 179) rfl (hb hby d3_175) (by decide) (by decide) k) ?_
      show OutW _ _ _ _ _ _ _ (s₁.setTop (mkF m 179 #[.val (.int p1)] [(.int (1 : Int32))]))
      refine OutW.retN X0 hx (t := .boolean) (z' := (1 : Int32)) Bd.returns (by simp) hlk (hb hby d3_179) ?hz (by decide) (by decide) ?_
      case hz =>
        rfl
      show Qpure h0 n0 _ _ s₁.heap _
      rw [e0]
      exact ⟨by rw [exx_28, if_pos c31_22], N0, rfl⟩
    · skip
      refine OutW.back (fun t k => XS.icmpNo X0.here hx rfl (hb hby d3_31) rfl (feq c31_22).1 k) ?_
      show OutW _ _ _ _ _ _ _ (s₁.setTop (mkF m 34 #[.val (.int p1)] []))
      have eqb : exx_28 p1 = exx_34 p1 := by rw [exx_28, if_neg c31_22]
      rw [eqb]
      exact b_34
  have b_16 : OutW p e below s 0 0 (Qpure h0 n0 (.int (exx_16 p1))) (s₁.setTop (mkF m 16 #[.val (.int p1)] [])) := by
    refine OutW.back (fun t k => XS.iloadN X0.here hx rfl (hb hby d3_16) rfl  k) ?_
    show OutW _ _ _ _ _ _ _ (s₁.setTop (mkF m 17 #[.val (.int p1)] [(.int p1)]))
    refine OutW.back (fun t k => XS.bipush X0.here hx rfl (hb hby d3_17) k) ?_
    show OutW _ _ _ _ _ _ _ (s₁.setTop (mkF m 19 #[.val (.int p1)] [(.int (91 : Int32)), (.int p1)]))
    by_cases c19_23 : p1 < (91 : Int32)
    · skip
      refine OutW.back (fun t k => XS.icmpYes X0.here hx rfl (pc0 := 19) (pc' := 28) rfl (hb hby d3_19) rfl (tlt c19_23).1 (by decide) (by decide) k) ?_
      show OutW _ _ _ _ _ _ _ (s₁.setTop (mkF m 28 #[.val (.int p1)] []))
      have eqb : exx_16 p1 = exx_28 p1 := by rw [exx_16, if_pos c19_23]
      rw [eqb]
      exact b_28
    · skip
      refine OutW.back (fun t k => XS.icmpNo X0.here hx rfl (hb hby d3_19) rfl (flt c19_23).1 k) ?_
      show OutW _ _ _ _ _ _ _ (s₁.setTop (mkF m 22 #[.val (.int p1)] []))
      refine OutW.back (fun t k => XS.iloadN X0.here hx rfl (hb hby d3_22) rfl  k) ?_
      show OutW _ _ _ _ _ _ _ (s₁.setTop (mkF m 23 #[.val (.int p1)] [(.int p1)]))
      refine OutW.back (fun t k => XS.bipush X0.here hx rfl (hb hby d3_23) k) ?_
      show OutW _ _ _ _ _ _ _ (s₁.setTop (mkF m 25 #[.val (.int p1)] [(.int (94 : Int32)), (.int p1)]))
      by_cases c25_24 : (94 : Int32) < p1
      · skip
        refine OutW.back (fun t k => XS.icmpNo X0.here hx rfl (hb hby d3_25) rfl (tlt c25_24).2.2.2 k) ?_
        show OutW _ _ _ _ _ _ _ (s₁.setTop (mkF m 28 #[.val (.int p1)] []))
        have eqb : exx_16 p1 = exx_28 p1 := by rw [exx_16, if_neg c19_23, if_pos c25_24]
        rw [eqb]
        exact b_28
      · skip
        refine OutW.back (fun t k => XS.icmpYes X0.here hx rfl (pc0 := 25) (pc' := 174) rfl (hb hby d3_25) rfl (flt c25_24).2.2.2 (by decide) (by decide) k) ?_
        show OutW _ _ _ _ _ _ _ (s₁.setTop (mkF m 174 #[.val (.int p1)] []))
        refine OutW.back (fun t k => XS.iconst X0.here hx rfl (hb hby d3_174) k) ?_
        show OutW _ _ _ _ _ _ _ (s₁.setTop (mkF m 175 #[.val (.int p1)] [(.int (1 : Int32))]))
        refine OutW.back (fun t k => XS.goto X0.here hx rfl (pc0 := 175) (pc' := 179) rfl (hb hby d3_175) (by decide) (by decide) k) ?_
        show OutW _ _ _ _ _ _ _ (s₁.setTop (mkF m 179 #[.val (.int p1)] [(.int (1 : Int32))]))
        refine OutW.retN X0 hx (t := .boolean) (z' := (1 : Int32)) Bd.returns (by simp) hlk (hb hby d3_179) ?hz (by decide) (by decide) ?_
        case hz =>
          rfl
        show Qpure h0 n0 _ _ s₁.heap _
        rw [e0]
        exact ⟨by rw [exx_16, if_neg c19_23, if_neg c25_24], N0, rfl⟩
  refine OutW.back (fun t k => XS.iloadN X0.here hx rfl (hb hby d3_0) rfl  k) ?_
  show OutW _ _ _ _ _ _ _ (s₁.setTop (mkF m 1 #[.val (.int p1)] [(.int p1)]))
  refine OutW.back (fun t k => XS.bipush X0.here hx rfl (hb hby d3_1) k) ?_
  show OutW _ _ _ _ _ _ _ (s₁.setTop (mkF m 3 #[.val (.int p1)] [(.int (64 : Int32)), (.int p1)]))
  by_cases c3_25 : (64 : Int32) < p1
  · skip
    refine OutW.back (fun t k => XS.icmpYes X0.here hx rfl (pc0 := 3) (pc' := 8) rfl (hb hby d3_3) rfl (tlt c3_25).2.2.1 (by decide) (by decide) k) ?_
    show OutW _ _ _ _ _ _ _ (s₁.setTop (mkF m 8 #[.val (.int p1)] []))
    refine OutW.back (fun t k => XS.iloadN X0.here hx rfl (hb hby d3_8) rfl  k) ?_
    show OutW _ _ _ _ _ _ _ (s₁.setTop (mkF m 9 #[.val (.int p1)] [(.int p1)]))
    refine OutW.back (X0.ldcInt hx hown (mvT hZ (hw _ (List.mem_of_getElem? (i := 7) rfl))) (g := (mkF m 9 #[.val (.int p1)] [(.int p1)])) rfl (hb hby d3_9)) ?_
    show OutW _ _ _ _ _ _ _ (s₁.setTop (mkF m 11 #[.val (.int p1)] [(.int (983040 : Int32)), (.int p1)]))
    by_cases c11_26 : p1 < (983040 : Int32)
    · skip
      refine OutW.back (fun t k => XS.icmpYes X0.here hx rfl (pc0 := 11) (pc' := 16) rfl (hb hby d3_11) rfl (tlt c11_26).1 (by decide) (by decide) k) ?_
      show OutW _ _ _ _ _ _ _ (s₁.setTop (mkF m 16 #[.val (.int p1)] []))
      have eqb : exx_0 p1 = exx_16 p1 := by rw [exx_0, if_pos c3_25, if_pos c11_26]
      rw [eqb]
      exact b_16
    · skip
      refine OutW.back (fun t k => XS.icmpNo X0.here hx rfl (hb hby d3_11) rfl (flt c11_26).1 k) ?_
      show OutW _ _ _ _ _ _ _ (s₁.setTop (mkF m 14 #[.val (.int p1)] []))
      refine OutW.back (fun t k => XS.iconst X0.here hx rfl (hb hby d3_14) k) ?_
      show OutW _ _ _ _ _ _ _ (s₁.setTop (mkF m 15 #[.val (.int p1)] [(.int (1 : Int32))]))
      refine OutW.retN X0 hx (t := .boolean) (z' := (1 : Int32)) Bd.returns (by simp) hlk (hb hby d3_15) ?hz (by decide) (by decide) ?_
      case hz =>
        rfl
      show Qpure h0 n0 _ _ s₁.heap _
      rw [e0]
      exact ⟨by rw [exx_0, if_pos c3_25, if_neg c11_26], N0, rfl⟩
  · skip
    refine OutW.back (fun t k => XS.icmpNo X0.here hx rfl (hb hby d3_3) rfl (flt c3_25).2.2.1 k) ?_
    show OutW _ _ _ _ _ _ _ (s₁.setTop (mkF m 6 #[.val (.int p1)] []))
    refine OutW.back (fun t k => XS.iconst X0.here hx rfl (hb hby d3_6) k) ?_
    show OutW _ _ _ _ _ _ _ (s₁.setTop (mkF m 7 #[.val (.int p1)] [(.int (1 : Int32))]))
    refine OutW.retN X0 hx (t := .boolean) (z' := (1 : Int32)) Bd.returns (by simp) hlk (hb hby d3_7) ?hz (by decide) (by decide) ?_
    case hz =>
      rfl
    show Qpure h0 n0 _ _ s₁.heap _
    rw [e0]
    exact ⟨by rw [exx_0, if_neg c3_25], N0, rfl⟩
def ncxS_179 (x : Int) : Prop := (65536 ≤ x ∧ x ≤ 983039)
theorem ncxL_179 (c : Int32) : (ncx_179 c = 1 ∧ ncxS_179 c.toInt) ∨ (ncx_179 c = 0 ∧ ¬ ncxS_179 c.toInt) := by
  unfold ncx_179 ncxS_179
  simp only [Int32.lt_iff_toInt_lt, eqI c, Int32.reduceToInt]
  repeat' split
  all_goals first | exact Or.inl ⟨rfl, by omega⟩ | exact Or.inr ⟨rfl, by omega⟩
def ncxS_167 (x : Int) : Prop := (65008 ≤ x ∧ x ≤ 65533) ∨ (65536 ≤ x ∧ x ≤ 983039)
theorem ncxL_167 (c : Int32) : (ncx_167 c = 1 ∧ ncxS_167 c.toInt) ∨ (ncx_167 c = 0 ∧ ¬ ncxS_167 c.toInt) := by
  have l179 := ncxL_179 c
  unfold ncxS_179 at l179
  unfold ncx_167 ncxS_167
  simp only [Int32.lt_iff_toInt_lt, eqI c, Int32.reduceToInt]
  repeat' split
  all_goals first | exact Or.inl ⟨rfl, by omega⟩ | exact Or.inr ⟨rfl, by omega⟩ | (rcases l179 with ⟨e, r⟩ | ⟨e, r⟩ <;> first | exact Or.inl ⟨e, by omega⟩ | exact Or.inr ⟨e, by omega⟩)
def ncxS_155 (x : Int) : Prop := (63744 ≤ x ∧ x ≤ 64975) ∨ (65008 ≤ x ∧ x ≤ 65533) ∨ (65536 ≤ x ∧ x ≤ 983039)
theorem ncxL_155 (c : Int32) : (ncx_155 c = 1 ∧ ncxS_155 c.toInt) ∨ (ncx_155 c = 0 ∧ ¬ ncxS_155 c.toInt) := by
  have l167 := ncxL_167 c
  unfold ncxS_167 at l167
  unfold ncx_155 ncxS_155
  simp only [Int32.lt_iff_toInt_lt, eqI c, Int32.reduceToInt]
  repeat' split
  all_goals first | exact Or.inl ⟨rfl, by omega⟩ | exact Or.inr ⟨rfl, by omega⟩ | (rcases l167 with ⟨e, r⟩ | ⟨e, r⟩ <;> first | exact Or.inl ⟨e, by omega⟩ | exact Or.inr ⟨e, by omega⟩)
def ncxS_142 (x : Int) : Prop := (12289 ≤ x ∧ x ≤ 55295) ∨ (63744 ≤ x ∧ x ≤ 64975) ∨ (65008 ≤ x ∧ x ≤ 65533) ∨ (65536 ≤ x ∧ x ≤ 983039)
theorem ncxL_142 (c : Int32) : (ncx_142 c = 1 ∧ ncxS_142 c.toInt) ∨ (ncx_142 c = 0 ∧ ¬ ncxS_142 c.toInt) := by
  have l155 := ncxL_155 c
  unfold ncxS_155 at l155
  unfold ncx_142 ncxS_142
  simp only [Int32.lt_iff_toInt_lt, eqI c, Int32.reduceToInt]
  repeat' split
  all_goals first | exact Or.inl ⟨rfl, by omega⟩ | exact Or.inr ⟨rfl, by omega⟩ | (rcases l155 with ⟨e, r⟩ | ⟨e, r⟩ <;> first | exact Or.inl ⟨e, by omega⟩ | exact Or.inr ⟨e, by omega⟩)
def ncxS_128 (x : Int) : Prop := (11264 ≤ x ∧ x ≤ 12271) ∨ (12289 ≤ x ∧ x ≤ 55295) ∨ (63744 ≤ x ∧ x ≤ 64975) ∨ (65008 ≤ x ∧ x ≤ 65533) ∨ (65536 ≤ x ∧ x ≤ 983039)
theorem ncxL_128 (c : Int32) : (ncx_128 c = 1 ∧ ncxS_128 c.toInt) ∨ (ncx_128 c = 0 ∧ ¬ ncxS_128 c.toInt) := by
  have l142 := ncxL_142 c
  unfold ncxS_142 at l142
  unfold ncx_128 ncxS_128
  simp only [Int32.lt_iff_toInt_lt, eqI c, Int32.reduceToInt]
  repeat' split
  all_goals first | exact Or.inl ⟨rfl, by omega⟩ | exact Or.inr ⟨rfl, by omega⟩ | (rcases l142 with ⟨e, r⟩ | ⟨e, r⟩ <;> first | exact Or.inl ⟨e, by omega⟩ | exact Or.inr ⟨e, by omega⟩)
def ncxS_114 (x : Int) : Prop := (8304 ≤ x ∧ x ≤ 8591) ∨ (11264 ≤ x ∧ x ≤ 12271) ∨ (12289 ≤ x ∧ x ≤ 55295) ∨ (63744 ≤ x ∧ x ≤ 64975) ∨ (65008 ≤ x ∧ x ≤ 65533) ∨ (65536 ≤ x ∧ x ≤ 983039)
theorem ncxL_114 (c : Int32) : (ncx_114 c = 1 ∧ ncxS_114 c.toInt) ∨ (ncx_114 c = 0 ∧ ¬ ncxS_114 c.toInt) := by
  have l128 := ncxL_128 c
  unfold ncxS_128 at l128
  unfold ncx_114 ncxS_114
  simp only [Int32.lt_iff_toInt_lt, eqI c, Int32.reduceToInt]
  repeat' split
  all_goals first | exact Or.inl ⟨rfl, by omega⟩ | exact Or.inr ⟨rfl, by omega⟩ | (rcases l128 with ⟨e, r⟩ | ⟨e, r⟩ <;> first | exact Or.inl ⟨e, by omega⟩ | exact Or.inr ⟨e, by omega⟩)
def ncxS_100 (x : Int) : Prop := (8204 ≤ x ∧ x ≤ 8205) ∨ (8304 ≤ x ∧ x ≤ 8591) ∨ (11264 ≤ x ∧ x ≤ 12271) ∨ (12289 ≤ x ∧ x ≤ 55295) ∨ (63744 ≤ x ∧ x ≤ 64975) ∨ (65008 ≤ x ∧ x ≤ 65533) ∨ (65536 ≤ x ∧ x ≤ 983039)
theorem ncxL_100 (c : Int32) : (ncx_100 c = 1 ∧ ncxS_100 c.toInt) ∨ (ncx_100 c = 0 ∧ ¬ ncxS_100 c.toInt) := by
  have l114 := ncxL_114 c
  unfold ncxS_114 at l114
  unfold ncx_100 ncxS_100
  simp only [Int32.lt_iff_toInt_lt, eqI c, Int32.reduceToInt]
  repeat' split
  all_goals first | exact Or.inl ⟨rfl, by omega⟩ | exact Or.inr ⟨rfl, by omega⟩ | (rcases l114 with ⟨e, r⟩ | ⟨e, r⟩ <;> first | exact Or.inl ⟨e, by omega⟩ | exact Or.inr ⟨e, by omega⟩)
def ncxS_86 (x : Int) : Prop := (895 ≤ x ∧ x ≤ 8191) ∨ (8204 ≤ x ∧ x ≤ 8205) ∨ (8304 ≤ x ∧ x ≤ 8591) ∨ (11264 ≤ x ∧ x ≤ 12271) ∨ (12289 ≤ x ∧ x ≤ 55295) ∨ (63744 ≤ x ∧ x ≤ 64975) ∨ (65008 ≤ x ∧ x ≤ 65533) ∨ (65536 ≤ x ∧ x ≤ 983039)
theorem ncxL_86 (c : Int32) : (ncx_86 c = 1 ∧ ncxS_86 c.toInt) ∨ (ncx_86 c = 0 ∧ ¬ ncxS_86 c.toInt) := by
  have l100 := ncxL_100 c
  unfold ncxS_100 at l100
  unfold ncx_86 ncxS_86
  simp only [Int32.lt_iff_toInt_lt, eqI c, Int32.reduceToInt]
  repeat' split
  all_goals first | exact Or.inl ⟨rfl, by omega⟩ | exact Or.inr ⟨rfl, by omega⟩ | (rcases l100 with ⟨e, r⟩ | ⟨e, r⟩ <;> first | exact Or.inl ⟨e, by omega⟩ | exact Or.inr ⟨e, by omega⟩)
def ncxS_72 (x : Int) : Prop := (880 ≤ x ∧ x ≤ 893) ∨ (895 ≤ x ∧ x ≤ 8191) ∨ (8204 ≤ x ∧ x ≤ 8205) ∨ (8304 ≤ x ∧ x ≤ 8591) ∨ (11264 ≤ x ∧ x ≤ 12271) ∨ (12289 ≤ x ∧ x ≤ 55295) ∨ (63744 ≤ x ∧ x ≤ 64975) ∨ (65008 ≤ x ∧ x ≤ 65533) ∨ (65536 ≤ x ∧ x ≤ 983039)
theorem ncxL_72 (c : Int32) : (ncx_72 c = 1 ∧ ncxS_72 c.toInt) ∨ (ncx_72 c = 0 ∧ ¬ ncxS_72 c.toInt) := by
  have l86 := ncxL_86 c
  unfold ncxS_86 at l86
  unfold ncx_72 ncxS_72
  simp only [Int32.lt_iff_toInt_lt, eqI c, Int32.reduceToInt]
  repeat' split
  all_goals first | exact Or.inl ⟨rfl, by omega⟩ | exact Or.inr ⟨rfl, by omega⟩ | (rcases l86 with ⟨e, r⟩ | ⟨e, r⟩ <;> first | exact Or.inl ⟨e, by omega⟩ | exact Or.inr ⟨e, by omega⟩)
def ncxS_58 (x : Int) : Prop := (248 ≤ x ∧ x ≤ 767) ∨ (880 ≤ x ∧ x ≤ 893) ∨ (895 ≤ x ∧ x ≤ 8191) ∨ (8204 ≤ x ∧ x ≤ 8205) ∨ (8304 ≤ x ∧ x ≤ 8591) ∨ (11264 ≤ x ∧ x ≤ 12271) ∨ (12289 ≤ x ∧ x ≤ 55295) ∨ (63744 ≤ x ∧ x ≤ 64975) ∨ (65008 ≤ x ∧ x ≤ 65533) ∨ (65536 ≤ x ∧ x ≤ 983039)
theorem ncxL_58 (c : Int32) : (ncx_58 c = 1 ∧ ncxS_58 c.toInt) ∨ (ncx_58 c = 0 ∧ ¬ ncxS_58 c.toInt) := by
  have l72 := ncxL_72 c
  unfold ncxS_72 at l72
  unfold ncx_58 ncxS_58
  simp only [Int32.lt_iff_toInt_lt, eqI c, Int32.reduceToInt]
  repeat' split
  all_goals first | exact Or.inl ⟨rfl, by omega⟩ | exact Or.inr ⟨rfl, by omega⟩ | (rcases l72 with ⟨e, r⟩ | ⟨e, r⟩ <;> first | exact Or.inl ⟨e, by omega⟩ | exact Or.inr ⟨e, by omega⟩)
def ncxS_44 (x : Int) : Prop := (216 ≤ x ∧ x ≤ 246) ∨ (248 ≤ x ∧ x ≤ 767) ∨ (880 ≤ x ∧ x ≤ 893) ∨ (895 ≤ x ∧ x ≤ 8191) ∨ (8204 ≤ x ∧ x ≤ 8205) ∨ (8304 ≤ x ∧ x ≤ 8591) ∨ (11264 ≤ x ∧ x ≤ 12271) ∨ (12289 ≤ x ∧ x ≤ 55295) ∨ (63744 ≤ x ∧ x ≤ 64975) ∨ (65008 ≤ x ∧ x ≤ 65533) ∨ (65536 ≤ x ∧ x ≤ 983039)
theorem ncxL_44 (c : Int32) : (ncx_44 c = 1 ∧ ncxS_44 c.toInt) ∨ (ncx_44 c = 0 ∧ ¬ ncxS_44 c.toInt) := by
  have l58 := ncxL_58 c
  unfold ncxS_58 at l58
  unfold ncx_44 ncxS_44
  simp only [Int32.lt_iff_toInt_lt, eqI c, Int32.reduceToInt]
  repeat' split
  all_goals first | exact Or.inl ⟨rfl, by omega⟩ | exact Or.inr ⟨rfl, by omega⟩ | (rcases l58 with ⟨e, r⟩ | ⟨e, r⟩ <;> first | exact Or.inl ⟨e, by omega⟩ | exact Or.inr ⟨e, by omega⟩)
def ncxS_30 (x : Int) : Prop := (192 ≤ x ∧ x ≤ 214) ∨ (216 ≤ x ∧ x ≤ 246) ∨ (248 ≤ x ∧ x ≤ 767) ∨ (880 ≤ x ∧ x ≤ 893) ∨ (895 ≤ x ∧ x ≤ 8191) ∨ (8204 ≤ x ∧ x ≤ 8205) ∨ (8304 ≤ x ∧ x ≤ 8591) ∨ (11264 ≤ x ∧ x ≤ 12271) ∨ (12289 ≤ x ∧ x ≤ 55295) ∨ (63744 ≤ x ∧ x ≤ 64975) ∨ (65008 ≤ x ∧ x ≤ 65533) ∨ (65536 ≤ x ∧ x ≤ 983039)
theorem ncxL_30 (c : Int32) : (ncx_30 c = 1 ∧ ncxS_30 c.toInt) ∨ (ncx_30 c = 0 ∧ ¬ ncxS_30 c.toInt) := by
  have l44 := ncxL_44 c
  unfold ncxS_44 at l44
  unfold ncx_30 ncxS_30
  simp only [Int32.lt_iff_toInt_lt, eqI c, Int32.reduceToInt]
  repeat' split
  all_goals first | exact Or.inl ⟨rfl, by omega⟩ | exact Or.inr ⟨rfl, by omega⟩ | (rcases l44 with ⟨e, r⟩ | ⟨e, r⟩ <;> first | exact Or.inl ⟨e, by omega⟩ | exact Or.inr ⟨e, by omega⟩)
def ncxS_24 (x : Int) : Prop := x = 95 ∨ (192 ≤ x ∧ x ≤ 214) ∨ (216 ≤ x ∧ x ≤ 246) ∨ (248 ≤ x ∧ x ≤ 767) ∨ (880 ≤ x ∧ x ≤ 893) ∨ (895 ≤ x ∧ x ≤ 8191) ∨ (8204 ≤ x ∧ x ≤ 8205) ∨ (8304 ≤ x ∧ x ≤ 8591) ∨ (11264 ≤ x ∧ x ≤ 12271) ∨ (12289 ≤ x ∧ x ≤ 55295) ∨ (63744 ≤ x ∧ x ≤ 64975) ∨ (65008 ≤ x ∧ x ≤ 65533) ∨ (65536 ≤ x ∧ x ≤ 983039)
theorem ncxL_24 (c : Int32) : (ncx_24 c = 1 ∧ ncxS_24 c.toInt) ∨ (ncx_24 c = 0 ∧ ¬ ncxS_24 c.toInt) := by
  have l30 := ncxL_30 c
  unfold ncxS_30 at l30
  unfold ncx_24 ncxS_24
  simp only [Int32.lt_iff_toInt_lt, eqI c, Int32.reduceToInt]
  repeat' split
  all_goals first | exact Or.inl ⟨rfl, by omega⟩ | exact Or.inr ⟨rfl, by omega⟩ | (rcases l30 with ⟨e, r⟩ | ⟨e, r⟩ <;> first | exact Or.inl ⟨e, by omega⟩ | exact Or.inr ⟨e, by omega⟩)
def ncxS_12 (x : Int) : Prop := (65 ≤ x ∧ x ≤ 90) ∨ x = 95 ∨ (192 ≤ x ∧ x ≤ 214) ∨ (216 ≤ x ∧ x ≤ 246) ∨ (248 ≤ x ∧ x ≤ 767) ∨ (880 ≤ x ∧ x ≤ 893) ∨ (895 ≤ x ∧ x ≤ 8191) ∨ (8204 ≤ x ∧ x ≤ 8205) ∨ (8304 ≤ x ∧ x ≤ 8591) ∨ (11264 ≤ x ∧ x ≤ 12271) ∨ (12289 ≤ x ∧ x ≤ 55295) ∨ (63744 ≤ x ∧ x ≤ 64975) ∨ (65008 ≤ x ∧ x ≤ 65533) ∨ (65536 ≤ x ∧ x ≤ 983039)
theorem ncxL_12 (c : Int32) : (ncx_12 c = 1 ∧ ncxS_12 c.toInt) ∨ (ncx_12 c = 0 ∧ ¬ ncxS_12 c.toInt) := by
  have l24 := ncxL_24 c
  unfold ncxS_24 at l24
  unfold ncx_12 ncxS_12
  simp only [Int32.lt_iff_toInt_lt, eqI c, Int32.reduceToInt]
  repeat' split
  all_goals first | exact Or.inl ⟨rfl, by omega⟩ | exact Or.inr ⟨rfl, by omega⟩ | (rcases l24 with ⟨e, r⟩ | ⟨e, r⟩ <;> first | exact Or.inl ⟨e, by omega⟩ | exact Or.inr ⟨e, by omega⟩)
def ncxS_0 (x : Int) : Prop := (97 ≤ x ∧ x ≤ 122) ∨ (65 ≤ x ∧ x ≤ 90) ∨ x = 95 ∨ (192 ≤ x ∧ x ≤ 214) ∨ (216 ≤ x ∧ x ≤ 246) ∨ (248 ≤ x ∧ x ≤ 767) ∨ (880 ≤ x ∧ x ≤ 893) ∨ (895 ≤ x ∧ x ≤ 8191) ∨ (8204 ≤ x ∧ x ≤ 8205) ∨ (8304 ≤ x ∧ x ≤ 8591) ∨ (11264 ≤ x ∧ x ≤ 12271) ∨ (12289 ≤ x ∧ x ≤ 55295) ∨ (63744 ≤ x ∧ x ≤ 64975) ∨ (65008 ≤ x ∧ x ≤ 65533) ∨ (65536 ≤ x ∧ x ≤ 983039)
theorem ncxL_0 (c : Int32) : (ncx_0 c = 1 ∧ ncxS_0 c.toInt) ∨ (ncx_0 c = 0 ∧ ¬ ncxS_0 c.toInt) := by
  have l12 := ncxL_12 c
  unfold ncxS_12 at l12
  unfold ncx_0 ncxS_0
  simp only [Int32.lt_iff_toInt_lt, eqI c, Int32.reduceToInt]
  repeat' split
  all_goals first | exact Or.inl ⟨rfl, by omega⟩ | exact Or.inr ⟨rfl, by omega⟩ | (rcases l12 with ⟨e, r⟩ | ⟨e, r⟩ <;> first | exact Or.inl ⟨e, by omega⟩ | exact Or.inr ⟨e, by omega⟩)
def exxS_162 (x : Int) : Prop := (65534 ≤ x ∧ x ≤ 65535)
theorem exxL_162 (c : Int32) : (exx_162 c = 1 ∧ exxS_162 c.toInt) ∨ (exx_162 c = 0 ∧ ¬ exxS_162 c.toInt) := by
  unfold exx_162 exxS_162
  simp only [Int32.lt_iff_toInt_lt, eqI c, Int32.reduceToInt]
  repeat' split
  all_goals first | exact Or.inl ⟨rfl, by omega⟩ | exact Or.inr ⟨rfl, by omega⟩
def exxS_150 (x : Int) : Prop := (64976 ≤ x ∧ x ≤ 65007) ∨ (65534 ≤ x ∧ x ≤ 65535)
theorem exxL_150 (c : Int32) : (exx_150 c = 1 ∧ exxS_150 c.toInt) ∨ (exx_150 c = 0 ∧ ¬ exxS_150 c.toInt) := by
  have l162 := exxL_162 c
  unfold exxS_162 at l162
  unfold exx_150 exxS_150
  simp only [Int32.lt_iff_toInt_lt, eqI c, Int32.reduceToInt]
  repeat' split
  all_goals first | exact Or.inl ⟨rfl, by omega⟩ | exact Or.inr ⟨rfl, by omega⟩ | (rcases l162 with ⟨e, r⟩ | ⟨e, r⟩ <;> first | exact Or.inl ⟨e, by omega⟩ | exact Or.inr ⟨e, by omega⟩)
def exxS_138 (x : Int) : Prop := (55296 ≤ x ∧ x ≤ 63743) ∨ (64976 ≤ x ∧ x ≤ 65007) ∨ (65534 ≤ x ∧ x ≤ 65535)
theorem exxL_138 (c : Int32) : (exx_138 c = 1 ∧ exxS_138 c.toInt) ∨ (exx_138 c = 0 ∧ ¬ exxS_138 c.toInt) := by
  have l150 := exxL_150 c
  unfold exxS_150 at l150
  unfold exx_138 exxS_138
  simp only [Int32.lt_iff_toInt_lt, eqI c, Int32.reduceToInt]
  repeat' split
  all_goals first | exact Or.inl ⟨rfl, by omega⟩ | exact Or.inr ⟨rfl, by omega⟩ | (rcases l150 with ⟨e, r⟩ | ⟨e, r⟩ <;> first | exact Or.inl ⟨e, by omega⟩ | exact Or.inr ⟨e, by omega⟩)
def exxS_124 (x : Int) : Prop := (12272 ≤ x ∧ x ≤ 12288) ∨ (55296 ≤ x ∧ x ≤ 63743) ∨ (64976 ≤ x ∧ x ≤ 65007) ∨ (65534 ≤ x ∧ x ≤ 65535)
theorem exxL_124 (c : Int32) : (exx_124 c = 1 ∧ exxS_124 c.toInt) ∨ (exx_124 c = 0 ∧ ¬ exxS_124 c.toInt) := by
  have l138 := exxL_138 c
  unfold exxS_138 at l138
  unfold exx_124 exxS_124
  simp only [Int32.lt_iff_toInt_lt, eqI c, Int32.reduceToInt]
  repeat' split
  all_goals first | exact Or.inl ⟨rfl, by omega⟩ | exact Or.inr ⟨rfl, by omega⟩ | (rcases l138 with ⟨e, r⟩ | ⟨e, r⟩ <;> first | exact Or.inl ⟨e, by omega⟩ | exact Or.inr ⟨e, by omega⟩)
def exxS_110 (x : Int) : Prop := (8592 ≤ x ∧ x ≤ 11263) ∨ (12272 ≤ x ∧ x ≤ 12288) ∨ (55296 ≤ x ∧ x ≤ 63743) ∨ (64976 ≤ x ∧ x ≤ 65007) ∨ (65534 ≤ x ∧ x ≤ 65535)
theorem exxL_110 (c : Int32) : (exx_110 c = 1 ∧ exxS_110 c.toInt) ∨ (exx_110 c = 0 ∧ ¬ exxS_110 c.toInt) := by
  have l124 := exxL_124 c
  unfold exxS_124 at l124
  unfold exx_110 exxS_110
  simp only [Int32.lt_iff_toInt_lt, eqI c, Int32.reduceToInt]
  repeat' split
  all_goals first | exact Or.inl ⟨rfl, by omega⟩ | exact Or.inr ⟨rfl, by omega⟩ | (rcases l124 with ⟨e, r⟩ | ⟨e, r⟩ <;> first | exact Or.inl ⟨e, by omega⟩ | exact Or.inr ⟨e, by omega⟩)
def exxS_96 (x : Int) : Prop := (8206 ≤ x ∧ x ≤ 8303) ∨ (8592 ≤ x ∧ x ≤ 11263) ∨ (12272 ≤ x ∧ x ≤ 12288) ∨ (55296 ≤ x ∧ x ≤ 63743) ∨ (64976 ≤ x ∧ x ≤ 65007) ∨ (65534 ≤ x ∧ x ≤ 65535)
theorem exxL_96 (c : Int32) : (exx_96 c = 1 ∧ exxS_96 c.toInt) ∨ (exx_96 c = 0 ∧ ¬ exxS_96 c.toInt) := by
  have l110 := exxL_110 c
  unfold exxS_110 at l110
  unfold exx_96 exxS_96
  simp only [Int32.lt_iff_toInt_lt, eqI c, Int32.reduceToInt]
  repeat' split
  all_goals first | exact Or.inl ⟨rfl, by omega⟩ | exact Or.inr ⟨rfl, by omega⟩ | (rcases l110 with ⟨e, r⟩ | ⟨e, r⟩ <;> first | exact Or.inl ⟨e, by omega⟩ | exact Or.inr ⟨e, by omega⟩)
def exxS_82 (x : Int) : Prop := (8192 ≤ x ∧ x ≤ 8203) ∨ (8206 ≤ x ∧ x ≤ 8303) ∨ (8592 ≤ x ∧ x ≤ 11263) ∨ (12272 ≤ x ∧ x ≤ 12288) ∨ (55296 ≤ x ∧ x ≤ 63743) ∨ (64976 ≤ x ∧ x ≤ 65007) ∨ (65534 ≤ x ∧ x ≤ 65535)
theorem exxL_82 (c : Int32) : (exx_82 c = 1 ∧ exxS_82 c.toInt) ∨ (exx_82 c = 0 ∧ ¬ exxS_82 c.toInt) := by
  have l96 := exxL_96 c
  unfold exxS_96 at l96
  unfold exx_82 exxS_82
  simp only [Int32.lt_iff_toInt_lt, eqI c, Int32.reduceToInt]
  repeat' split
  all_goals first | exact Or.inl ⟨rfl, by omega⟩ | exact Or.inr ⟨rfl, by omega⟩ | (rcases l96 with ⟨e, r⟩ | ⟨e, r⟩ <;> first | exact Or.inl ⟨e, by omega⟩ | exact Or.inr ⟨e, by omega⟩)
def exxS_75 (x : Int) : Prop := x = 894 ∨ (8192 ≤ x ∧ x ≤ 8203) ∨ (8206 ≤ x ∧ x ≤ 8303) ∨ (8592 ≤ x ∧ x ≤ 11263) ∨ (12272 ≤ x ∧ x ≤ 12288) ∨ (55296 ≤ x ∧ x ≤ 63743) ∨ (64976 ≤ x ∧ x ≤ 65007) ∨ (65534 ≤ x ∧ x ≤ 65535)
theorem exxL_75 (c : Int32) : (exx_75 c = 1 ∧ exxS_75 c.toInt) ∨ (exx_75 c = 0 ∧ ¬ exxS_75 c.toInt) := by
  have l82 := exxL_82 c
  unfold exxS_82 at l82
  unfold exx_75 exxS_75
  simp only [Int32.lt_iff_toInt_lt, eqI c, Int32.reduceToInt]
  repeat' split
  all_goals first | exact Or.inl ⟨rfl, by omega⟩ | exact Or.inr ⟨rfl, by omega⟩ | (rcases l82 with ⟨e, r⟩ | ⟨e, r⟩ <;> first | exact Or.inl ⟨e, by omega⟩ | exact Or.inr ⟨e, by omega⟩)
def exxS_61 (x : Int) : Prop := (768 ≤ x ∧ x ≤ 879) ∨ x = 894 ∨ (8192 ≤ x ∧ x ≤ 8203) ∨ (8206 ≤ x ∧ x ≤ 8303) ∨ (8592 ≤ x ∧ x ≤ 11263) ∨ (12272 ≤ x ∧ x ≤ 12288) ∨ (55296 ≤ x ∧ x ≤ 63743) ∨ (64976 ≤ x ∧ x ≤ 65007) ∨ (65534 ≤ x ∧ x ≤ 65535)
theorem exxL_61 (c : Int32) : (exx_61 c = 1 ∧ exxS_61 c.toInt) ∨ (exx_61 c = 0 ∧ ¬ exxS_61 c.toInt) := by
  have l75 := exxL_75 c
  unfold exxS_75 at l75
  unfold exx_61 exxS_61
  simp only [Int32.lt_iff_toInt_lt, eqI c, Int32.reduceToInt]
  repeat' split
  all_goals first | exact Or.inl ⟨rfl, by omega⟩ | exact Or.inr ⟨rfl, by omega⟩ | (rcases l75 with ⟨e, r⟩ | ⟨e, r⟩ <;> first | exact Or.inl ⟨e, by omega⟩ | exact Or.inr ⟨e, by omega⟩)
def exxS_54 (x : Int) : Prop := x = 247 ∨ (768 ≤ x ∧ x ≤ 879) ∨ x = 894 ∨ (8192 ≤ x ∧ x ≤ 8203) ∨ (8206 ≤ x ∧ x ≤ 8303) ∨ (8592 ≤ x ∧ x ≤ 11263) ∨ (12272 ≤ x ∧ x ≤ 12288) ∨ (55296 ≤ x ∧ x ≤ 63743) ∨ (64976 ≤ x ∧ x ≤ 65007) ∨ (65534 ≤ x ∧ x ≤ 65535)
theorem exxL_54 (c : Int32) : (exx_54 c = 1 ∧ exxS_54 c.toInt) ∨ (exx_54 c = 0 ∧ ¬ exxS_54 c.toInt) := by
  have l61 := exxL_61 c
  unfold exxS_61 at l61
  unfold exx_54 exxS_54
  simp only [Int32.lt_iff_toInt_lt, eqI c, Int32.reduceToInt]
  repeat' split
  all_goals first | exact Or.inl ⟨rfl, by omega⟩ | exact Or.inr ⟨rfl, by omega⟩ | (rcases l61 with ⟨e, r⟩ | ⟨e, r⟩ <;> first | exact Or.inl ⟨e, by omega⟩ | exact Or.inr ⟨e, by omega⟩)
def exxS_47 (x : Int) : Prop := x = 215 ∨ x = 247 ∨ (768 ≤ x ∧ x ≤ 879) ∨ x = 894 ∨ (8192 ≤ x ∧ x ≤ 8203) ∨ (8206 ≤ x ∧ x ≤ 8303) ∨ (8592 ≤ x ∧ x ≤ 11263) ∨ (12272 ≤ x ∧ x ≤ 12288) ∨ (55296 ≤ x ∧ x ≤ 63743) ∨ (64976 ≤ x ∧ x ≤ 65007) ∨ (65534 ≤ x ∧ x ≤ 65535)
theorem exxL_47 (c : Int32) : (exx_47 c = 1 ∧ exxS_47 c.toInt) ∨ (exx_47 c = 0 ∧ ¬ exxS_47 c.toInt) := by
  have l54 := exxL_54 c
  unfold exxS_54 at l54
  unfold exx_47 exxS_47
  simp only [Int32.lt_iff_toInt_lt, eqI c, Int32.reduceToInt]
  repeat' split
  all_goals first | exact Or.inl ⟨rfl, by omega⟩ | exact Or.inr ⟨rfl, by omega⟩ | (rcases l54 with ⟨e, r⟩ | ⟨e, r⟩ <;> first | exact Or.inl ⟨e, by omega⟩ | exact Or.inr ⟨e, by omega⟩)
def exxS_34 (x : Int) : Prop := (123 ≤ x ∧ x ≤ 191) ∨ x = 215 ∨ x = 247 ∨ (768 ≤ x ∧ x ≤ 879) ∨ x = 894 ∨ (8192 ≤ x ∧ x ≤ 8203) ∨ (8206 ≤ x ∧ x ≤ 8303) ∨ (8592 ≤ x ∧ x ≤ 11263) ∨ (12272 ≤ x ∧ x ≤ 12288) ∨ (55296 ≤ x ∧ x ≤ 63743) ∨ (64976 ≤ x ∧ x ≤ 65007) ∨ (65534 ≤ x ∧ x ≤ 65535)
theorem exxL_34 (c : Int32) : (exx_34 c = 1 ∧ exxS_34 c.toInt) ∨ (exx_34 c = 0 ∧ ¬ exxS_34 c.toInt) := by
  have l47 := exxL_47 c
  unfold exxS_47 at l47
  unfold exx_34 exxS_34
  simp only [Int32.lt_iff_toInt_lt, eqI c, Int32.reduceToInt]
  repeat' split
  all_goals first | exact Or.inl ⟨rfl, by omega⟩ | exact Or.inr ⟨rfl, by omega⟩ | (rcases l47 with ⟨e, r⟩ | ⟨e, r⟩ <;> first | exact Or.inl ⟨e, by omega⟩ | exact Or.inr ⟨e, by omega⟩)
def exxS_28 (x : Int) : Prop := x = 96 ∨ (123 ≤ x ∧ x ≤ 191) ∨ x = 215 ∨ x = 247 ∨ (768 ≤ x ∧ x ≤ 879) ∨ x = 894 ∨ (8192 ≤ x ∧ x ≤ 8203) ∨ (8206 ≤ x ∧ x ≤ 8303) ∨ (8592 ≤ x ∧ x ≤ 11263) ∨ (12272 ≤ x ∧ x ≤ 12288) ∨ (55296 ≤ x ∧ x ≤ 63743) ∨ (64976 ≤ x ∧ x ≤ 65007) ∨ (65534 ≤ x ∧ x ≤ 65535)
theorem exxL_28 (c : Int32) : (exx_28 c = 1 ∧ exxS_28 c.toInt) ∨ (exx_28 c = 0 ∧ ¬ exxS_28 c.toInt) := by
  have l34 := exxL_34 c
  unfold exxS_34 at l34
  unfold exx_28 exxS_28
  simp only [Int32.lt_iff_toInt_lt, eqI c, Int32.reduceToInt]
  repeat' split
  all_goals first | exact Or.inl ⟨rfl, by omega⟩ | exact Or.inr ⟨rfl, by omega⟩ | (rcases l34 with ⟨e, r⟩ | ⟨e, r⟩ <;> first | exact Or.inl ⟨e, by omega⟩ | exact Or.inr ⟨e, by omega⟩)
def exxS_16 (x : Int) : Prop := (91 ≤ x ∧ x ≤ 94) ∨ x = 96 ∨ (123 ≤ x ∧ x ≤ 191) ∨ x = 215 ∨ x = 247 ∨ (768 ≤ x ∧ x ≤ 879) ∨ x = 894 ∨ (8192 ≤ x ∧ x ≤ 8203) ∨ (8206 ≤ x ∧ x ≤ 8303) ∨ (8592 ≤ x ∧ x ≤ 11263) ∨ (12272 ≤ x ∧ x ≤ 12288) ∨ (55296 ≤ x ∧ x ≤ 63743) ∨ (64976 ≤ x ∧ x ≤ 65007) ∨ (65534 ≤ x ∧ x ≤ 65535)
theorem exxL_16 (c : Int32) : (exx_16 c = 1 ∧ exxS_16 c.toInt) ∨ (exx_16 c = 0 ∧ ¬ exxS_16 c.toInt) := by
  have l28 := exxL_28 c
  unfold exxS_28 at l28
  unfold exx_16 exxS_16
  simp only [Int32.lt_iff_toInt_lt, eqI c, Int32.reduceToInt]
  repeat' split
  all_goals first | exact Or.inl ⟨rfl, by omega⟩ | exact Or.inr ⟨rfl, by omega⟩ | (rcases l28 with ⟨e, r⟩ | ⟨e, r⟩ <;> first | exact Or.inl ⟨e, by omega⟩ | exact Or.inr ⟨e, by omega⟩)
def exxS_0 (x : Int) : Prop := x ≤ 64 ∨ 983040 ≤ x ∨ (91 ≤ x ∧ x ≤ 94) ∨ x = 96 ∨ (123 ≤ x ∧ x ≤ 191) ∨ x = 215 ∨ x = 247 ∨ (768 ≤ x ∧ x ≤ 879) ∨ x = 894 ∨ (8192 ≤ x ∧ x ≤ 8203) ∨ (8206 ≤ x ∧ x ≤ 8303) ∨ (8592 ≤ x ∧ x ≤ 11263) ∨ (12272 ≤ x ∧ x ≤ 12288) ∨ (55296 ≤ x ∧ x ≤ 63743) ∨ (64976 ≤ x ∧ x ≤ 65007) ∨ (65534 ≤ x ∧ x ≤ 65535)
theorem exxL_0 (c : Int32) : (exx_0 c = 1 ∧ exxS_0 c.toInt) ∨ (exx_0 c = 0 ∧ ¬ exxS_0 c.toInt) := by
  have l16 := exxL_16 c
  unfold exxS_16 at l16
  unfold exx_0 exxS_0
  simp only [Int32.lt_iff_toInt_lt, eqI c, Int32.reduceToInt]
  repeat' split
  all_goals first | exact Or.inl ⟨rfl, by omega⟩ | exact Or.inr ⟨rfl, by omega⟩ | (rcases l16 with ⟨e, r⟩ | ⟨e, r⟩ <;> first | exact Or.inl ⟨e, by omega⟩ | exact Or.inr ⟨e, by omega⟩)
theorem own_opp (c : Int32) : (ncx_0 c = 1 ∧ exx_0 c = 0) ∨ (ncx_0 c = 0 ∧ exx_0 c = 1) := by
  have l1 := ncxL_0 c
  have l2 := exxL_0 c
  unfold ncxS_0 at l1
  unfold exxS_0 at l2
  rcases l1 with ⟨e1, r1⟩ | ⟨e1, r1⟩ <;> rcases l2 with ⟨e2, r2⟩ | ⟨e2, r2⟩
  · exfalso; omega
  · exact Or.inl ⟨e1, e2⟩
  · exact Or.inr ⟨e1, e2⟩
  · exfalso; omega
theorem pd_0 : parseMethodDescriptor "(I)Z" = some ⟨[.int], some .boolean⟩ := by decide +kernel
theorem d1_0 : decode method_3_code 0 = .ok (.iload_n 0, 1) := by decide +kernel
theorem d1_1 : decode method_3_code 1 = .ok (.invokestatic 14, 3) := by decide +kernel
theorem d1_4 : decode method_3_code 4 = .ok (.iload_n 0, 1) := by decide +kernel
theorem d1_5 : decode method_3_code 5 = .ok (.invokestatic 20, 3) := by decide +kernel
theorem d1_8 : decode method_3_code 8 = .ok (.ifCond .ne 7, 3) := by decide +kernel
theorem d1_11 : decode method_3_code 11 = .ok (.iconst 1, 1) := by decide +kernel
theorem d1_12 : decode method_3_code 12 = .ok (.goto 4, 3) := by decide +kernel
theorem d1_15 : decode method_3_code 15 = .ok (.iconst 0, 1) := by decide +kernel
theorem d1_16 : decode method_3_code 16 = .ok (.if_icmp .ne 7, 3) := by decide +kernel
theorem d1_19 : decode method_3_code 19 = .ok (.iconst 1, 1) := by decide +kernel
theorem d1_20 : decode method_3_code 20 = .ok (.goto 4, 3) := by decide +kernel
theorem d1_23 : decode method_3_code 23 = .ok (.iconst 0, 1) := by decide +kernel
theorem d1_24 : decode method_3_code 24 = .ok (.ireturn, 1) := by decide +kernel
theorem pn_1 : plainName "com/example/xml_document_query/xmldocumentquery/value/XmlCharactersIsNCNameStartCharPinLaw" = true := by first | (simp [plainName, overriddenIn]; done) | decide +kernel
theorem ef_1 (m : MethodId) (x0 : Int32) : entryFrame m #[(.int x0)] 1 = mkF m 0 #[.val (.int x0)] [] := by first | (simp [entryFrame, mkF, argsToLocals, Value.category]; done) | rfl
def Q1 (Z : State) (p1 : Int32)  (h0 : Heap) (n0 : Nat) (v : Option Value) (h : Heap) (L : List Loc) : Prop := v = some (.int 1) ∧ Fr n0 L ∧ h = h0
set_option maxRecDepth 65536 in
set_option maxHeartbeats 40000000 in
theorem rm1 (l : Launch) (Z : State) (a0 : Array Value) (hw : ∀ d ∈ tables_1, d.before a0 Z = true) (ws : List Jvm.Cond) (p1 : Int32)  (h0 : Heap) (n0 : Nat) (Z0 : n0 ≤ h0.size) :
    MetFree l (⟨"com/example/xml_document_query/xmldocumentquery/value/XmlCharactersIsNCNameStartCharPinLaw", "agrees", "(I)Z"⟩ : MethodName) (head1 (Jvm.Cond.code (⟨"com/example/xml_document_query/xmldocumentquery/value/XmlCharactersIsNCNameStartCharPinLaw", "agrees", "(I)Z"⟩ : MethodName) method_3_code 1 (some .boolean) :: ws) ({ frames := 1, cells := 0, slots := 0, locals := 13 } : Room)) (fun a U => a = #[(.int p1)] ∧ Z.Warmed39 U.vm ∧ U.heap = h0) (fun _ _ _ _ _ => True) (fun _ U o U' => ∃ v L, o = .returned v ∧ Q1 Z p1 h0 n0 v U'.heap L ∧ FrameEnd U o U' L ({ frames := 1, cells := 0, slots := 0, locals := 13 } : Room).cells ({ frames := 1, cells := 0, slots := 0, locals := 13 } : Room).slots) := by
  refine MetFree.of_bodySF (plainFor_of_name pn_1) hisR ?_
  intro p e s m args below meth c s₁ Bd hml0 hP hK
  obtain ⟨rfl, hZ, hh⟩ := hP
  have hx := Bd.exec
  have hby := Bd.bytes
  have hlk := Bd.notSynchronized
  have hml : c.maxLocals = 1 := hml0
  have hown : s.vm.findClass "com/example/xml_document_query/xmldocumentquery/value/XmlCharactersIsNCNameStartCharPinLaw" = some m.cls := findClass_of_methodNamed Bd.named
  have hnm := (name_of_methodNamed Bd.named Bd.method).1
  have X0 : Stand p l e ({ frames := 1, cells := 0, slots := 0, locals := 13 } : Room) s m #[(.int p1)] below meth c s₁ [] 0 0 := Stand.of_body Bd
  have e0 : s₁.heap = h0 := by rw [← hh, Bd.state]; rfl
  have N0 := Fr.nil n0
  have K0 : Keep h0 h0 [] := Keep.refl h0 _
  show OutW p e below s ({ frames := 1, cells := 0, slots := 0, locals := 13 } : Room).cells ({ frames := 1, cells := 0, slots := 0, locals := 13 } : Room).slots (Q1 Z p1 h0 n0) _
  refine OutW.back (fun t k => castTop (ef_1 m p1) k) ?_
  show OutW _ _ _ _ _ _ _ (s₁.setTop (mkF m 0 #[.val (.int p1)] []))
  refine OutW.back (fun t k => XS.iloadN X0.here hx rfl (hb hby d1_0) rfl  k) ?_
  show OutW _ _ _ _ _ _ _ (s₁.setTop (mkF m 1 #[.val (.int p1)] [(.int p1)]))
  obtain ⟨_, _, ⟨T1, L1, k1, n1⟩, -, X1, ⟨Lc1, hQ1, l1, y1, z1⟩, st1⟩ := Jvm.LawKit.callS X0 hx (y := (⟨"com/example/xml_document_query/xmldocumentquery/value/XmlCharacters", "isNCNameStartChar", "(I)Z"⟩ : MethodName)) hown (mvT hZ (hw _ (List.mem_of_getElem? (i := 13) rfl))) (mvT hZ (hw _ (List.mem_of_getElem? (i := 14) rfl))) (mvT hZ (hw _ (List.mem_of_getElem? (i := 15) rfl))) (mvT hZ (hw _ (List.mem_of_getElem? (i := 16) rfl))) (by decide) (backOf (W := 0) (rm2 l Z a0 hw [] p1 h0 n0 Z0) hZ (hw _ (List.mem_of_getElem? (i := 16) rfl)) (hw _ (List.mem_of_getElem? (i := 15) rfl)) (by decide) (by decide)) (g := (mkF m 1 #[.val (.int p1)] [(.int p1)])) rfl (by rw [hml]; rfl) (argsL := [(.int p1)]) (rest := []) (lenOf pd_0 rfl) rfl (by show 2 * 0 + _ ≤ _; exact Nat.le_of_eq rfl) (hb hby d1_1) (fun _ _ => ⟨rfl, e0, (by decide : 0 + 0 ≤ _), (by decide : 0 + 0 ≤ _)⟩)
  dsimp only [Pt.U, Pt.locs, Pt.cells, Pt.slots] at X1 l1 y1 z1 st1 hQ1
  subst l1 y1 z1
  obtain ⟨rfl, Nq1, e1⟩ := hQ1
  have N1 := Fr.app N0 Nq1
  obtain ⟨lc1, X1, N1⟩ : ∃ lc, Stand p l e ({ frames := 1, cells := 0, slots := 0, locals := 13 } : Room) s m #[(.int p1)] below meth c T1 lc 0 0 ∧ Fr n0 lc := ⟨_, X1, N1⟩
  refine OutW.back st1 ?_
  show OutW _ _ _ _ _ _ _ (T1.setTop (mkF m 4 #[.val (.int p1)] [(.int (ncx_0 p1))]))
  refine OutW.back (fun t k => XS.iloadN X1.here hx rfl (hb hby d1_4) rfl  k) ?_
  show OutW _ _ _ _ _ _ _ (T1.setTop (mkF m 5 #[.val (.int p1)] [(.int p1), (.int (ncx_0 p1))]))
  obtain ⟨_, _, ⟨T2, L2, k2, n2⟩, -, X2, ⟨Lc2, hQ2, l2, y2, z2⟩, st2⟩ := Jvm.LawKit.callS X1 hx (y := (⟨"com/example/xml_document_query/xmldocumentquery/value/XmlCharactersIsNCNameStartCharPinLaw", "excluded", "(I)Z"⟩ : MethodName)) hown (mvT hZ (hw _ (List.mem_of_getElem? (i := 20) rfl))) (mvT hZ (hw _ (List.mem_of_getElem? (i := 21) rfl))) (mvT hZ (hw _ (List.mem_of_getElem? (i := 11) rfl))) (mvT hZ (hw _ (List.mem_of_getElem? (i := 22) rfl))) (by decide) (backOf (W := 1) (rm3 l Z a0 hw [] p1 h0 n0 Z0) hZ (hw _ (List.mem_of_getElem? (i := 22) rfl)) (hw _ (List.mem_of_getElem? (i := 11) rfl)) (by decide) (by decide)) (g := (mkF m 5 #[.val (.int p1)] [(.int p1), (.int (ncx_0 p1))])) rfl (by rw [hml]; rfl) (argsL := [(.int p1)]) (rest := [(.int (ncx_0 p1))]) (lenOf pd_0 rfl) rfl (by show 2 * 0 + _ ≤ _; exact Nat.le_of_eq rfl) (hb hby d1_5) (fun _ _ => ⟨rfl, e1, (by decide : 0 + 0 ≤ _), (by decide : 0 + 0 ≤ _)⟩)
  dsimp only [Pt.U, Pt.locs, Pt.cells, Pt.slots] at X2 l2 y2 z2 st2 hQ2
  subst l2 y2 z2
  obtain ⟨rfl, Nq2, e2⟩ := hQ2
  have N2 := Fr.app N1 Nq2
  obtain ⟨lc2, X2, N2⟩ : ∃ lc, Stand p l e ({ frames := 1, cells := 0, slots := 0, locals := 13 } : Room) s m #[(.int p1)] below meth c T2 lc 0 0 ∧ Fr n0 lc := ⟨_, X2, N2⟩
  refine OutW.back st2 ?_
  show OutW _ _ _ _ _ _ _ (T2.setTop (mkF m 8 #[.val (.int p1)] [(.int (exx_0 p1)), (.int (ncx_0 p1))]))
  by_cases c8_3 : (exx_0 p1) = (0 : Int32)
  · skip
    refine OutW.back (fun t k => XS.ifNo X2.here hx rfl (hb hby d1_8) rfl ((if0 _ _).trans (teq c8_3).2) k) ?_
    show OutW _ _ _ _ _ _ _ (T2.setTop (mkF m 11 #[.val (.int p1)] [(.int (ncx_0 p1))]))
    refine OutW.back (fun t k => XS.iconst X2.here hx rfl (hb hby d1_11) k) ?_
    show OutW _ _ _ _ _ _ _ (T2.setTop (mkF m 12 #[.val (.int p1)] [(.int (1 : Int32)), (.int (ncx_0 p1))]))
    refine OutW.back (fun t k => XS.goto X2.here hx rfl (pc0 := 12) (pc' := 16) rfl (hb hby d1_12) (by decide) (by decide) k) ?_
    show OutW _ _ _ _ _ _ _ (T2.setTop (mkF m 16 #[.val (.int p1)] [(.int (1 : Int32)), (.int (ncx_0 p1))]))
    by_cases c16_4 : (ncx_0 p1) = (1 : Int32)
    · skip
      refine OutW.back (fun t k => XS.icmpNo X2.here hx rfl (hb hby d1_16) rfl (teq c16_4).2 k) ?_
      show OutW _ _ _ _ _ _ _ (T2.setTop (mkF m 19 #[.val (.int p1)] []))
      refine OutW.back (fun t k => XS.iconst X2.here hx rfl (hb hby d1_19) k) ?_
      show OutW _ _ _ _ _ _ _ (T2.setTop (mkF m 20 #[.val (.int p1)] [(.int (1 : Int32))]))
      refine OutW.back (fun t k => XS.goto X2.here hx rfl (pc0 := 20) (pc' := 24) rfl (hb hby d1_20) (by decide) (by decide) k) ?_
      show OutW _ _ _ _ _ _ _ (T2.setTop (mkF m 24 #[.val (.int p1)] [(.int (1 : Int32))]))
      refine OutW.retN X2 hx (t := .boolean) (z' := 1) Bd.returns (by simp) hlk (hb hby d1_24) ?hz (by decide) (by decide) ?_
      case hz =>
        rfl
      show Q1 Z p1 h0 n0 _ T2.heap _
      rw [e2]
      exact ⟨rfl, N2, rfl⟩
    · skip
      refine OutW.back (fun t k => XS.icmpYes X2.here hx rfl (pc0 := 16) (pc' := 23) rfl (hb hby d1_16) rfl (feq c16_4).2 (by decide) (by decide) k) ?_
      show OutW _ _ _ _ _ _ _ (T2.setTop (mkF m 23 #[.val (.int p1)] []))
      refine OutW.back (fun t k => XS.iconst X2.here hx rfl (hb hby d1_23) k) ?_
      show OutW _ _ _ _ _ _ _ (T2.setTop (mkF m 24 #[.val (.int p1)] [(.int (0 : Int32))]))
      refine OutW.retN X2 hx (t := .boolean) (z' := 1) Bd.returns (by simp) hlk (hb hby d1_24) ?hz (by decide) (by decide) ?_
      case hz =>
        exfalso
        have o := own_opp p1
        rcases o with ⟨o1, o2⟩ | ⟨o1, o2⟩ <;> simp_all
      show Q1 Z p1 h0 n0 _ T2.heap _
      rw [e2]
      exact ⟨rfl, N2, rfl⟩
  · skip
    refine OutW.back (fun t k => XS.ifYes X2.here hx rfl (pc0 := 8) (pc' := 15) rfl (hb hby d1_8) rfl ((if0 _ _).trans (feq c8_3).2) (by decide) (by decide) k) ?_
    show OutW _ _ _ _ _ _ _ (T2.setTop (mkF m 15 #[.val (.int p1)] [(.int (ncx_0 p1))]))
    refine OutW.back (fun t k => XS.iconst X2.here hx rfl (hb hby d1_15) k) ?_
    show OutW _ _ _ _ _ _ _ (T2.setTop (mkF m 16 #[.val (.int p1)] [(.int (0 : Int32)), (.int (ncx_0 p1))]))
    by_cases c16_5 : (ncx_0 p1) = (0 : Int32)
    · skip
      refine OutW.back (fun t k => XS.icmpNo X2.here hx rfl (hb hby d1_16) rfl (teq c16_5).2 k) ?_
      show OutW _ _ _ _ _ _ _ (T2.setTop (mkF m 19 #[.val (.int p1)] []))
      refine OutW.back (fun t k => XS.iconst X2.here hx rfl (hb hby d1_19) k) ?_
      show OutW _ _ _ _ _ _ _ (T2.setTop (mkF m 20 #[.val (.int p1)] [(.int (1 : Int32))]))
      refine OutW.back (fun t k => XS.goto X2.here hx rfl (pc0 := 20) (pc' := 24) rfl (hb hby d1_20) (by decide) (by decide) k) ?_
      show OutW _ _ _ _ _ _ _ (T2.setTop (mkF m 24 #[.val (.int p1)] [(.int (1 : Int32))]))
      refine OutW.retN X2 hx (t := .boolean) (z' := 1) Bd.returns (by simp) hlk (hb hby d1_24) ?hz (by decide) (by decide) ?_
      case hz =>
        rfl
      show Q1 Z p1 h0 n0 _ T2.heap _
      rw [e2]
      exact ⟨rfl, N2, rfl⟩
    · skip
      refine OutW.back (fun t k => XS.icmpYes X2.here hx rfl (pc0 := 16) (pc' := 23) rfl (hb hby d1_16) rfl (feq c16_5).2 (by decide) (by decide) k) ?_
      show OutW _ _ _ _ _ _ _ (T2.setTop (mkF m 23 #[.val (.int p1)] []))
      refine OutW.back (fun t k => XS.iconst X2.here hx rfl (hb hby d1_23) k) ?_
      show OutW _ _ _ _ _ _ _ (T2.setTop (mkF m 24 #[.val (.int p1)] [(.int (0 : Int32))]))
      refine OutW.retN X2 hx (t := .boolean) (z' := 1) Bd.returns (by simp) hlk (hb hby d1_24) ?hz (by decide) (by decide) ?_
      case hz =>
        exfalso
        have o := own_opp p1
        rcases o with ⟨o1, o2⟩ | ⟨o1, o2⟩ <;> simp_all
      show Q1 Z p1 h0 n0 _ T2.heap _
      rw [e2]
      exact ⟨rfl, N2, rfl⟩
theorem pn_0 : plainName "com/example/xml_document_query/xmldocumentquery/value/XmlCharactersIsNCNameStartCharPinLaw" = true := by first | (simp [plainName, overriddenIn]; done) | decide +kernel
theorem ef_0 (m : MethodId) (x0 : Int32) (x1 : Int32) (x2 : Int32) : entryFrame m #[(.int x0), (.int x1), (.int x2)] maxLocals = mkF m 0 #[.val (.int x0), .val (.int x1), .val (.int x2), .unset, .unset] [] := by first | (simp [entryFrame, mkF, argsToLocals, Value.category, maxLocals]; done) | rfl
def Q0 (Z : State) (p1 : Int32) (p2 : Int32) (p3 : Int32)  (h0 : Heap) (n0 : Nat) (v : Option Value) (h : Heap) (L : List Loc) : Prop := v = some (.int 1) ∧ Fr n0 L
set_option maxRecDepth 65536 in
set_option maxHeartbeats 40000000 in
theorem rm0 (l : Launch) (Z : State) (a0 : Array Value) (hw : ∀ d ∈ tables_1, d.before a0 Z = true) (ws : List Jvm.Cond) (p1 : Int32) (p2 : Int32) (p3 : Int32)  (h0 : Heap) (n0 : Nat) (Z0 : n0 ≤ h0.size) :
    MetFree l x (head1 (Jvm.Cond.code x code maxLocals ret :: ws) room_1) (fun a U => a = #[(.int p1), (.int p2), (.int p3)] ∧ Z.Warmed39 U.vm ∧ U.heap = h0) (fun _ _ _ _ _ => True) (fun _ U o U' => ∃ v L, o = .returned v ∧ Q0 Z p1 p2 p3 h0 n0 v U'.heap L ∧ FrameEnd U o U' L room_1.cells room_1.slots) := by
  refine MetFree.of_bodySF (plainFor_of_name pn_0) hisR ?_
  intro p e s m args below meth c s₁ Bd hml0 hP hK
  obtain ⟨rfl, hZ, hh⟩ := hP
  have hx := Bd.exec
  have hby := Bd.bytes
  have hlk := Bd.notSynchronized
  have hml : c.maxLocals = 5 := hml0
  have hown : s.vm.findClass "com/example/xml_document_query/xmldocumentquery/value/XmlCharactersIsNCNameStartCharPinLaw" = some m.cls := findClass_of_methodNamed Bd.named
  have hnm := (name_of_methodNamed Bd.named Bd.method).1
  have X0 : Stand p l e room_1 s m #[(.int p1), (.int p2), (.int p3)] below meth c s₁ [] 0 0 := Stand.of_body Bd
  have e0 : s₁.heap = h0 := by rw [← hh, Bd.state]; rfl
  have N0 := Fr.nil n0
  have K0 : Keep h0 h0 [] := Keep.refl h0 _
  show OutW p e below s room_1.cells room_1.slots (Q0 Z p1 p2 p3 h0 n0) _
  refine OutW.back (fun t k => castTop (ef_0 m p1 p2 p3) k) ?_
  show OutW _ _ _ _ _ _ _ (s₁.setTop (mkF m 0 #[.val (.int p1), .val (.int p2), .val (.int p3), .unset, .unset] []))
  refine OutW.back (fun t k => XS.bipush X0.here hx rfl (hb hby at_0) k) ?_
  show OutW _ _ _ _ _ _ _ (s₁.setTop (mkF m 2 #[.val (.int p1), .val (.int p2), .val (.int p3), .unset, .unset] [(.int (30 : Int32))]))
  obtain ⟨T1, h1, k1, X1, e1, E1, A1, st1⟩ := newP X0 hx hZ (hw _ (List.mem_of_getElem? (i := 0) rfl)) e0 (g := (mkF m 2 #[.val (.int p1), .val (.int p2), .val (.int p3), .unset, .unset] [(.int (30 : Int32))])) rfl (hb hby at_2) rfl (by decide) (cap := 30) (by decide) (by decide) (by decide) (by decide)
  obtain ⟨b1, g1⟩ : ∃ z, z = h0.size := ⟨_, rfl⟩
  rw [← g1] at A1 st1
  have g_b1 : n0 ≤ b1 := Nat.le_trans Z0 (Nat.le_of_eq g1.symm)
  have sz_b1 : h0.size ≤ b1 := Nat.le_trans K0.1 (Nat.le_of_eq g1.symm)
  have Z1 : n0 ≤ h1.size := Nat.le_trans Z0 E1.1
  have K1 := K0.ext E1
  have V_b1 : Arv Z h1 b1 k1 .int (30 : Int32) [(.int (0 : Int32)), (.int (0 : Int32)), (.int (0 : Int32)), (.int (0 : Int32)), (.int (0 : Int32)), (.int (0 : Int32)), (.int (0 : Int32)), (.int (0 : Int32)), (.int (0 : Int32)), (.int (0 : Int32)), (.int (0 : Int32)), (.int (0 : Int32)), (.int (0 : Int32)), (.int (0 : Int32)), (.int (0 : Int32)), (.int (0 : Int32)), (.int (0 : Int32)), (.int (0 : Int32)), (.int (0 : Int32)), (.int (0 : Int32)), (.int (0 : Int32)), (.int (0 : Int32)), (.int (0 : Int32)), (.int (0 : Int32)), (.int (0 : Int32)), (.int (0 : Int32)), (.int (0 : Int32)), (.int (0 : Int32)), (.int (0 : Int32)), (.int (0 : Int32))] (.int (0 : Int32)) := (Arv.new A1 (by decide)).pad (pad_rep [] (.int (0 : Int32)) 30)
  refine OutW.back st1 ?_
  show OutW _ _ _ _ _ _ _ (T1.setTop (mkF m 4 #[.val (.int p1), .val (.int p2), .val (.int p3), .unset, .unset] [(.ref b1)]))
  refine OutW.back (fun t k => XS.dup X1.here hx rfl (hb hby at_4) rfl rfl k) ?_
  show OutW _ _ _ _ _ _ _ (T1.setTop (mkF m 5 #[.val (.int p1), .val (.int p2), .val (.int p3), .unset, .unset] [(.ref b1), (.ref b1)]))
  refine OutW.back (fun t k => XS.iconst X1.here hx rfl (hb hby at_5) k) ?_
  show OutW _ _ _ _ _ _ _ (T1.setTop (mkF m 6 #[.val (.int p1), .val (.int p2), .val (.int p3), .unset, .unset] [(.int (0 : Int32)), (.ref b1), (.ref b1)]))
  refine OutW.back (fun t k => XS.bipush X1.here hx rfl (hb hby at_6) k) ?_
  show OutW _ _ _ _ _ _ _ (T1.setTop (mkF m 8 #[.val (.int p1), .val (.int p2), .val (.int p3), .unset, .unset] [(.int (65 : Int32)), (.int (0 : Int32)), (.ref b1), (.ref b1)]))
  obtain ⟨cl2, Ar2, Qk2, Sz2, Nn2, Hh2, Gg2⟩ := id V_b1
  have hin2 : ¬ ((0 : Int32) < 0 ∨ cl2.slots.size ≤ ((0 : Int32)).toNatClampNeg) := inb_of Sz2 ⟨by decide, by decide⟩
  obtain ⟨T2, h2, X2, e2, W2, st2⟩ := stI X1 hx hZ e1 Ar2 (j := (0 : Int32)) hin2 (g := (mkF m 8 #[.val (.int p1), .val (.int p2), .val (.int p3), .unset, .unset] [(.int (65 : Int32)), (.int (0 : Int32)), (.ref b1), (.ref b1)])) rfl rfl (hb hby at_8)
  have V_b1_2 : Arv Z h2 b1 k1 .int (30 : Int32) [(.int (65 : Int32)), (.int (0 : Int32)), (.int (0 : Int32)), (.int (0 : Int32)), (.int (0 : Int32)), (.int (0 : Int32)), (.int (0 : Int32)), (.int (0 : Int32)), (.int (0 : Int32)), (.int (0 : Int32)), (.int (0 : Int32)), (.int (0 : Int32)), (.int (0 : Int32)), (.int (0 : Int32)), (.int (0 : Int32)), (.int (0 : Int32)), (.int (0 : Int32)), (.int (0 : Int32)), (.int (0 : Int32)), (.int (0 : Int32)), (.int (0 : Int32)), (.int (0 : Int32)), (.int (0 : Int32)), (.int (0 : Int32)), (.int (0 : Int32)), (.int (0 : Int32)), (.int (0 : Int32)), (.int (0 : Int32)), (.int (0 : Int32)), (.int (0 : Int32))] (.int (0 : Int32)) := Arv.set Ar2 Qk2 Sz2 Nn2 Hh2 Gg2 rfl W2 0 rfl (Nat.le_of_ble_eq_true rfl)
  have N2 := Fr.snoc X2 N0 g_b1
  have Z2 : n0 ≤ h2.size := Nat.le_trans Z1 (Keep.of_wr W2).1
  have K2 := K1.wr W2 (Or.inr sz_b1)
  obtain ⟨lc2, X2, N2⟩ : ∃ lc, Stand p l e room_1 s m #[(.int p1), (.int p2), (.int p3)] below meth c T2 lc 1 30 ∧ Fr n0 lc := ⟨_, X2, N2⟩
  refine OutW.back st2 ?_
  show OutW _ _ _ _ _ _ _ (T2.setTop (mkF m 9 #[.val (.int p1), .val (.int p2), .val (.int p3), .unset, .unset] [(.ref b1)]))
  refine OutW.back (fun t k => XS.dup X2.here hx rfl (hb hby at_9) rfl rfl k) ?_
  show OutW _ _ _ _ _ _ _ (T2.setTop (mkF m 10 #[.val (.int p1), .val (.int p2), .val (.int p3), .unset, .unset] [(.ref b1), (.ref b1)]))
  refine OutW.back (fun t k => XS.iconst X2.here hx rfl (hb hby at_10) k) ?_
  show OutW _ _ _ _ _ _ _ (T2.setTop (mkF m 11 #[.val (.int p1), .val (.int p2), .val (.int p3), .unset, .unset] [(.int (1 : Int32)), (.ref b1), (.ref b1)]))
  refine OutW.back (fun t k => XS.bipush X2.here hx rfl (hb hby at_11) k) ?_
  show OutW _ _ _ _ _ _ _ (T2.setTop (mkF m 13 #[.val (.int p1), .val (.int p2), .val (.int p3), .unset, .unset] [(.int (91 : Int32)), (.int (1 : Int32)), (.ref b1), (.ref b1)]))
  obtain ⟨cl3, Ar3, Qk3, Sz3, Nn3, Hh3, Gg3⟩ := id V_b1_2
  have hin3 : ¬ ((1 : Int32) < 0 ∨ cl3.slots.size ≤ ((1 : Int32)).toNatClampNeg) := inb_of Sz3 ⟨by decide, by decide⟩
  obtain ⟨T3, h3, X3, e3, W3, st3⟩ := stI X2 hx hZ e2 Ar3 (j := (1 : Int32)) hin3 (g := (mkF m 13 #[.val (.int p1), .val (.int p2), .val (.int p3), .unset, .unset] [(.int (91 : Int32)), (.int (1 : Int32)), (.ref b1), (.ref b1)])) rfl rfl (hb hby at_13)
  have V_b1_3 : Arv Z h3 b1 k1 .int (30 : Int32) [(.int (65 : Int32)), (.int (91 : Int32)), (.int (0 : Int32)), (.int (0 : Int32)), (.int (0 : Int32)), (.int (0 : Int32)), (.int (0 : Int32)), (.int (0 : Int32)), (.int (0 : Int32)), (.int (0 : Int32)), (.int (0 : Int32)), (.int (0 : Int32)), (.int (0 : Int32)), (.int (0 : Int32)), (.int (0 : Int32)), (.int (0 : Int32)), (.int (0 : Int32)), (.int (0 : Int32)), (.int (0 : Int32)), (.int (0 : Int32)), (.int (0 : Int32)), (.int (0 : Int32)), (.int (0 : Int32)), (.int (0 : Int32)), (.int (0 : Int32)), (.int (0 : Int32)), (.int (0 : Int32)), (.int (0 : Int32)), (.int (0 : Int32)), (.int (0 : Int32))] (.int (0 : Int32)) := Arv.set Ar3 Qk3 Sz3 Nn3 Hh3 Gg3 rfl W3 1 rfl (Nat.le_of_ble_eq_true rfl)
  have N3 := Fr.snoc X3 N2 g_b1
  have Z3 : n0 ≤ h3.size := Nat.le_trans Z2 (Keep.of_wr W3).1
  have K3 := K2.wr W3 (Or.inr sz_b1)
  obtain ⟨lc3, X3, N3⟩ : ∃ lc, Stand p l e room_1 s m #[(.int p1), (.int p2), (.int p3)] below meth c T3 lc 1 30 ∧ Fr n0 lc := ⟨_, X3, N3⟩
  refine OutW.back st3 ?_
  show OutW _ _ _ _ _ _ _ (T3.setTop (mkF m 14 #[.val (.int p1), .val (.int p2), .val (.int p3), .unset, .unset] [(.ref b1)]))
  refine OutW.back (fun t k => XS.dup X3.here hx rfl (hb hby at_14) rfl rfl k) ?_
  show OutW _ _ _ _ _ _ _ (T3.setTop (mkF m 15 #[.val (.int p1), .val (.int p2), .val (.int p3), .unset, .unset] [(.ref b1), (.ref b1)]))
  refine OutW.back (fun t k => XS.iconst X3.here hx rfl (hb hby at_15) k) ?_
  show OutW _ _ _ _ _ _ _ (T3.setTop (mkF m 16 #[.val (.int p1), .val (.int p2), .val (.int p3), .unset, .unset] [(.int (2 : Int32)), (.ref b1), (.ref b1)]))
  refine OutW.back (fun t k => XS.bipush X3.here hx rfl (hb hby at_16) k) ?_
  show OutW _ _ _ _ _ _ _ (T3.setTop (mkF m 18 #[.val (.int p1), .val (.int p2), .val (.int p3), .unset, .unset] [(.int (95 : Int32)), (.int (2 : Int32)), (.ref b1), (.ref b1)]))
  obtain ⟨cl4, Ar4, Qk4, Sz4, Nn4, Hh4, Gg4⟩ := id V_b1_3
  have hin4 : ¬ ((2 : Int32) < 0 ∨ cl4.slots.size ≤ ((2 : Int32)).toNatClampNeg) := inb_of Sz4 ⟨by decide, by decide⟩
  obtain ⟨T4, h4, X4, e4, W4, st4⟩ := stI X3 hx hZ e3 Ar4 (j := (2 : Int32)) hin4 (g := (mkF m 18 #[.val (.int p1), .val (.int p2), .val (.int p3), .unset, .unset] [(.int (95 : Int32)), (.int (2 : Int32)), (.ref b1), (.ref b1)])) rfl rfl (hb hby at_18)
  have V_b1_4 : Arv Z h4 b1 k1 .int (30 : Int32) [(.int (65 : Int32)), (.int (91 : Int32)), (.int (95 : Int32)), (.int (0 : Int32)), (.int (0 : Int32)), (.int (0 : Int32)), (.int (0 : Int32)), (.int (0 : Int32)), (.int (0 : Int32)), (.int (0 : Int32)), (.int (0 : Int32)), (.int (0 : Int32)), (.int (0 : Int32)), (.int (0 : Int32)), (.int (0 : Int32)), (.int (0 : Int32)), (.int (0 : Int32)), (.int (0 : Int32)), (.int (0 : Int32)), (.int (0 : Int32)), (.int (0 : Int32)), (.int (0 : Int32)), (.int (0 : Int32)), (.int (0 : Int32)), (.int (0 : Int32)), (.int (0 : Int32)), (.int (0 : Int32)), (.int (0 : Int32)), (.int (0 : Int32)), (.int (0 : Int32))] (.int (0 : Int32)) := Arv.set Ar4 Qk4 Sz4 Nn4 Hh4 Gg4 rfl W4 2 rfl (Nat.le_of_ble_eq_true rfl)
  have N4 := Fr.snoc X4 N3 g_b1
  have Z4 : n0 ≤ h4.size := Nat.le_trans Z3 (Keep.of_wr W4).1
  have K4 := K3.wr W4 (Or.inr sz_b1)
  obtain ⟨lc4, X4, N4⟩ : ∃ lc, Stand p l e room_1 s m #[(.int p1), (.int p2), (.int p3)] below meth c T4 lc 1 30 ∧ Fr n0 lc := ⟨_, X4, N4⟩
  refine OutW.back st4 ?_
  show OutW _ _ _ _ _ _ _ (T4.setTop (mkF m 19 #[.val (.int p1), .val (.int p2), .val (.int p3), .unset, .unset] [(.ref b1)]))
  refine OutW.back (fun t k => XS.dup X4.here hx rfl (hb hby at_19) rfl rfl k) ?_
  show OutW _ _ _ _ _ _ _ (T4.setTop (mkF m 20 #[.val (.int p1), .val (.int p2), .val (.int p3), .unset, .unset] [(.ref b1), (.ref b1)]))
  refine OutW.back (fun t k => XS.iconst X4.here hx rfl (hb hby at_20) k) ?_
  show OutW _ _ _ _ _ _ _ (T4.setTop (mkF m 21 #[.val (.int p1), .val (.int p2), .val (.int p3), .unset, .unset] [(.int (3 : Int32)), (.ref b1), (.ref b1)]))
  refine OutW.back (fun t k => XS.bipush X4.here hx rfl (hb hby at_21) k) ?_
  show OutW _ _ _ _ _ _ _ (T4.setTop (mkF m 23 #[.val (.int p1), .val (.int p2), .val (.int p3), .unset, .unset] [(.int (96 : Int32)), (.int (3 : Int32)), (.ref b1), (.ref b1)]))
  obtain ⟨cl5, Ar5, Qk5, Sz5, Nn5, Hh5, Gg5⟩ := id V_b1_4
  have hin5 : ¬ ((3 : Int32) < 0 ∨ cl5.slots.size ≤ ((3 : Int32)).toNatClampNeg) := inb_of Sz5 ⟨by decide, by decide⟩
  obtain ⟨T5, h5, X5, e5, W5, st5⟩ := stI X4 hx hZ e4 Ar5 (j := (3 : Int32)) hin5 (g := (mkF m 23 #[.val (.int p1), .val (.int p2), .val (.int p3), .unset, .unset] [(.int (96 : Int32)), (.int (3 : Int32)), (.ref b1), (.ref b1)])) rfl rfl (hb hby at_23)
  have V_b1_5 : Arv Z h5 b1 k1 .int (30 : Int32) [(.int (65 : Int32)), (.int (91 : Int32)), (.int (95 : Int32)), (.int (96 : Int32)), (.int (0 : Int32)), (.int (0 : Int32)), (.int (0 : Int32)), (.int (0 : Int32)), (.int (0 : Int32)), (.int (0 : Int32)), (.int (0 : Int32)), (.int (0 : Int32)), (.int (0 : Int32)), (.int (0 : Int32)), (.int (0 : Int32)), (.int (0 : Int32)), (.int (0 : Int32)), (.int (0 : Int32)), (.int (0 : Int32)), (.int (0 : Int32)), (.int (0 : Int32)), (.int (0 : Int32)), (.int (0 : Int32)), (.int (0 : Int32)), (.int (0 : Int32)), (.int (0 : Int32)), (.int (0 : Int32)), (.int (0 : Int32)), (.int (0 : Int32)), (.int (0 : Int32))] (.int (0 : Int32)) := Arv.set Ar5 Qk5 Sz5 Nn5 Hh5 Gg5 rfl W5 3 rfl (Nat.le_of_ble_eq_true rfl)
  have N5 := Fr.snoc X5 N4 g_b1
  have Z5 : n0 ≤ h5.size := Nat.le_trans Z4 (Keep.of_wr W5).1
  have K5 := K4.wr W5 (Or.inr sz_b1)
  obtain ⟨lc5, X5, N5⟩ : ∃ lc, Stand p l e room_1 s m #[(.int p1), (.int p2), (.int p3)] below meth c T5 lc 1 30 ∧ Fr n0 lc := ⟨_, X5, N5⟩
  refine OutW.back st5 ?_
  show OutW _ _ _ _ _ _ _ (T5.setTop (mkF m 24 #[.val (.int p1), .val (.int p2), .val (.int p3), .unset, .unset] [(.ref b1)]))
  refine OutW.back (fun t k => XS.dup X5.here hx rfl (hb hby at_24) rfl rfl k) ?_
  show OutW _ _ _ _ _ _ _ (T5.setTop (mkF m 25 #[.val (.int p1), .val (.int p2), .val (.int p3), .unset, .unset] [(.ref b1), (.ref b1)]))
  refine OutW.back (fun t k => XS.iconst X5.here hx rfl (hb hby at_25) k) ?_
  show OutW _ _ _ _ _ _ _ (T5.setTop (mkF m 26 #[.val (.int p1), .val (.int p2), .val (.int p3), .unset, .unset] [(.int (4 : Int32)), (.ref b1), (.ref b1)]))
  refine OutW.back (fun t k => XS.bipush X5.here hx rfl (hb hby at_26) k) ?_
  show OutW _ _ _ _ _ _ _ (T5.setTop (mkF m 28 #[.val (.int p1), .val (.int p2), .val (.int p3), .unset, .unset] [(.int (97 : Int32)), (.int (4 : Int32)), (.ref b1), (.ref b1)]))
  obtain ⟨cl6, Ar6, Qk6, Sz6, Nn6, Hh6, Gg6⟩ := id V_b1_5
  have hin6 : ¬ ((4 : Int32) < 0 ∨ cl6.slots.size ≤ ((4 : Int32)).toNatClampNeg) := inb_of Sz6 ⟨by decide, by decide⟩
  obtain ⟨T6, h6, X6, e6, W6, st6⟩ := stI X5 hx hZ e5 Ar6 (j := (4 : Int32)) hin6 (g := (mkF m 28 #[.val (.int p1), .val (.int p2), .val (.int p3), .unset, .unset] [(.int (97 : Int32)), (.int (4 : Int32)), (.ref b1), (.ref b1)])) rfl rfl (hb hby at_28)
  have V_b1_6 : Arv Z h6 b1 k1 .int (30 : Int32) [(.int (65 : Int32)), (.int (91 : Int32)), (.int (95 : Int32)), (.int (96 : Int32)), (.int (97 : Int32)), (.int (0 : Int32)), (.int (0 : Int32)), (.int (0 : Int32)), (.int (0 : Int32)), (.int (0 : Int32)), (.int (0 : Int32)), (.int (0 : Int32)), (.int (0 : Int32)), (.int (0 : Int32)), (.int (0 : Int32)), (.int (0 : Int32)), (.int (0 : Int32)), (.int (0 : Int32)), (.int (0 : Int32)), (.int (0 : Int32)), (.int (0 : Int32)), (.int (0 : Int32)), (.int (0 : Int32)), (.int (0 : Int32)), (.int (0 : Int32)), (.int (0 : Int32)), (.int (0 : Int32)), (.int (0 : Int32)), (.int (0 : Int32)), (.int (0 : Int32))] (.int (0 : Int32)) := Arv.set Ar6 Qk6 Sz6 Nn6 Hh6 Gg6 rfl W6 4 rfl (Nat.le_of_ble_eq_true rfl)
  have N6 := Fr.snoc X6 N5 g_b1
  have Z6 : n0 ≤ h6.size := Nat.le_trans Z5 (Keep.of_wr W6).1
  have K6 := K5.wr W6 (Or.inr sz_b1)
  obtain ⟨lc6, X6, N6⟩ : ∃ lc, Stand p l e room_1 s m #[(.int p1), (.int p2), (.int p3)] below meth c T6 lc 1 30 ∧ Fr n0 lc := ⟨_, X6, N6⟩
  refine OutW.back st6 ?_
  show OutW _ _ _ _ _ _ _ (T6.setTop (mkF m 29 #[.val (.int p1), .val (.int p2), .val (.int p3), .unset, .unset] [(.ref b1)]))
  refine OutW.back (fun t k => XS.dup X6.here hx rfl (hb hby at_29) rfl rfl k) ?_
  show OutW _ _ _ _ _ _ _ (T6.setTop (mkF m 30 #[.val (.int p1), .val (.int p2), .val (.int p3), .unset, .unset] [(.ref b1), (.ref b1)]))
  refine OutW.back (fun t k => XS.iconst X6.here hx rfl (hb hby at_30) k) ?_
  show OutW _ _ _ _ _ _ _ (T6.setTop (mkF m 31 #[.val (.int p1), .val (.int p2), .val (.int p3), .unset, .unset] [(.int (5 : Int32)), (.ref b1), (.ref b1)]))
  refine OutW.back (fun t k => XS.bipush X6.here hx rfl (hb hby at_31) k) ?_
  show OutW _ _ _ _ _ _ _ (T6.setTop (mkF m 33 #[.val (.int p1), .val (.int p2), .val (.int p3), .unset, .unset] [(.int (123 : Int32)), (.int (5 : Int32)), (.ref b1), (.ref b1)]))
  obtain ⟨cl7, Ar7, Qk7, Sz7, Nn7, Hh7, Gg7⟩ := id V_b1_6
  have hin7 : ¬ ((5 : Int32) < 0 ∨ cl7.slots.size ≤ ((5 : Int32)).toNatClampNeg) := inb_of Sz7 ⟨by decide, by decide⟩
  obtain ⟨T7, h7, X7, e7, W7, st7⟩ := stI X6 hx hZ e6 Ar7 (j := (5 : Int32)) hin7 (g := (mkF m 33 #[.val (.int p1), .val (.int p2), .val (.int p3), .unset, .unset] [(.int (123 : Int32)), (.int (5 : Int32)), (.ref b1), (.ref b1)])) rfl rfl (hb hby at_33)
  have V_b1_7 : Arv Z h7 b1 k1 .int (30 : Int32) [(.int (65 : Int32)), (.int (91 : Int32)), (.int (95 : Int32)), (.int (96 : Int32)), (.int (97 : Int32)), (.int (123 : Int32)), (.int (0 : Int32)), (.int (0 : Int32)), (.int (0 : Int32)), (.int (0 : Int32)), (.int (0 : Int32)), (.int (0 : Int32)), (.int (0 : Int32)), (.int (0 : Int32)), (.int (0 : Int32)), (.int (0 : Int32)), (.int (0 : Int32)), (.int (0 : Int32)), (.int (0 : Int32)), (.int (0 : Int32)), (.int (0 : Int32)), (.int (0 : Int32)), (.int (0 : Int32)), (.int (0 : Int32)), (.int (0 : Int32)), (.int (0 : Int32)), (.int (0 : Int32)), (.int (0 : Int32)), (.int (0 : Int32)), (.int (0 : Int32))] (.int (0 : Int32)) := Arv.set Ar7 Qk7 Sz7 Nn7 Hh7 Gg7 rfl W7 5 rfl (Nat.le_of_ble_eq_true rfl)
  have N7 := Fr.snoc X7 N6 g_b1
  have Z7 : n0 ≤ h7.size := Nat.le_trans Z6 (Keep.of_wr W7).1
  have K7 := K6.wr W7 (Or.inr sz_b1)
  obtain ⟨lc7, X7, N7⟩ : ∃ lc, Stand p l e room_1 s m #[(.int p1), (.int p2), (.int p3)] below meth c T7 lc 1 30 ∧ Fr n0 lc := ⟨_, X7, N7⟩
  refine OutW.back st7 ?_
  show OutW _ _ _ _ _ _ _ (T7.setTop (mkF m 34 #[.val (.int p1), .val (.int p2), .val (.int p3), .unset, .unset] [(.ref b1)]))
  refine OutW.back (fun t k => XS.dup X7.here hx rfl (hb hby at_34) rfl rfl k) ?_
  show OutW _ _ _ _ _ _ _ (T7.setTop (mkF m 35 #[.val (.int p1), .val (.int p2), .val (.int p3), .unset, .unset] [(.ref b1), (.ref b1)]))
  refine OutW.back (fun t k => XS.bipush X7.here hx rfl (hb hby at_35) k) ?_
  show OutW _ _ _ _ _ _ _ (T7.setTop (mkF m 37 #[.val (.int p1), .val (.int p2), .val (.int p3), .unset, .unset] [(.int (6 : Int32)), (.ref b1), (.ref b1)]))
  refine OutW.back (fun t k => XS.sipush X7.here hx rfl (hb hby at_37) k) ?_
  show OutW _ _ _ _ _ _ _ (T7.setTop (mkF m 40 #[.val (.int p1), .val (.int p2), .val (.int p3), .unset, .unset] [(.int (192 : Int32)), (.int (6 : Int32)), (.ref b1), (.ref b1)]))
  obtain ⟨cl8, Ar8, Qk8, Sz8, Nn8, Hh8, Gg8⟩ := id V_b1_7
  have hin8 : ¬ ((6 : Int32) < 0 ∨ cl8.slots.size ≤ ((6 : Int32)).toNatClampNeg) := inb_of Sz8 ⟨by decide, by decide⟩
  obtain ⟨T8, h8, X8, e8, W8, st8⟩ := stI X7 hx hZ e7 Ar8 (j := (6 : Int32)) hin8 (g := (mkF m 40 #[.val (.int p1), .val (.int p2), .val (.int p3), .unset, .unset] [(.int (192 : Int32)), (.int (6 : Int32)), (.ref b1), (.ref b1)])) rfl rfl (hb hby at_40)
  have V_b1_8 : Arv Z h8 b1 k1 .int (30 : Int32) [(.int (65 : Int32)), (.int (91 : Int32)), (.int (95 : Int32)), (.int (96 : Int32)), (.int (97 : Int32)), (.int (123 : Int32)), (.int (192 : Int32)), (.int (0 : Int32)), (.int (0 : Int32)), (.int (0 : Int32)), (.int (0 : Int32)), (.int (0 : Int32)), (.int (0 : Int32)), (.int (0 : Int32)), (.int (0 : Int32)), (.int (0 : Int32)), (.int (0 : Int32)), (.int (0 : Int32)), (.int (0 : Int32)), (.int (0 : Int32)), (.int (0 : Int32)), (.int (0 : Int32)), (.int (0 : Int32)), (.int (0 : Int32)), (.int (0 : Int32)), (.int (0 : Int32)), (.int (0 : Int32)), (.int (0 : Int32)), (.int (0 : Int32)), (.int (0 : Int32))] (.int (0 : Int32)) := Arv.set Ar8 Qk8 Sz8 Nn8 Hh8 Gg8 rfl W8 6 rfl (Nat.le_of_ble_eq_true rfl)
  have N8 := Fr.snoc X8 N7 g_b1
  have Z8 : n0 ≤ h8.size := Nat.le_trans Z7 (Keep.of_wr W8).1
  have K8 := K7.wr W8 (Or.inr sz_b1)
  obtain ⟨lc8, X8, N8⟩ : ∃ lc, Stand p l e room_1 s m #[(.int p1), (.int p2), (.int p3)] below meth c T8 lc 1 30 ∧ Fr n0 lc := ⟨_, X8, N8⟩
  refine OutW.back st8 ?_
  show OutW _ _ _ _ _ _ _ (T8.setTop (mkF m 41 #[.val (.int p1), .val (.int p2), .val (.int p3), .unset, .unset] [(.ref b1)]))
  refine OutW.back (fun t k => XS.dup X8.here hx rfl (hb hby at_41) rfl rfl k) ?_
  show OutW _ _ _ _ _ _ _ (T8.setTop (mkF m 42 #[.val (.int p1), .val (.int p2), .val (.int p3), .unset, .unset] [(.ref b1), (.ref b1)]))
  refine OutW.back (fun t k => XS.bipush X8.here hx rfl (hb hby at_42) k) ?_
  show OutW _ _ _ _ _ _ _ (T8.setTop (mkF m 44 #[.val (.int p1), .val (.int p2), .val (.int p3), .unset, .unset] [(.int (7 : Int32)), (.ref b1), (.ref b1)]))
  refine OutW.back (fun t k => XS.sipush X8.here hx rfl (hb hby at_44) k) ?_
  show OutW _ _ _ _ _ _ _ (T8.setTop (mkF m 47 #[.val (.int p1), .val (.int p2), .val (.int p3), .unset, .unset] [(.int (215 : Int32)), (.int (7 : Int32)), (.ref b1), (.ref b1)]))
  obtain ⟨cl9, Ar9, Qk9, Sz9, Nn9, Hh9, Gg9⟩ := id V_b1_8
  have hin9 : ¬ ((7 : Int32) < 0 ∨ cl9.slots.size ≤ ((7 : Int32)).toNatClampNeg) := inb_of Sz9 ⟨by decide, by decide⟩
  obtain ⟨T9, h9, X9, e9, W9, st9⟩ := stI X8 hx hZ e8 Ar9 (j := (7 : Int32)) hin9 (g := (mkF m 47 #[.val (.int p1), .val (.int p2), .val (.int p3), .unset, .unset] [(.int (215 : Int32)), (.int (7 : Int32)), (.ref b1), (.ref b1)])) rfl rfl (hb hby at_47)
  have V_b1_9 : Arv Z h9 b1 k1 .int (30 : Int32) [(.int (65 : Int32)), (.int (91 : Int32)), (.int (95 : Int32)), (.int (96 : Int32)), (.int (97 : Int32)), (.int (123 : Int32)), (.int (192 : Int32)), (.int (215 : Int32)), (.int (0 : Int32)), (.int (0 : Int32)), (.int (0 : Int32)), (.int (0 : Int32)), (.int (0 : Int32)), (.int (0 : Int32)), (.int (0 : Int32)), (.int (0 : Int32)), (.int (0 : Int32)), (.int (0 : Int32)), (.int (0 : Int32)), (.int (0 : Int32)), (.int (0 : Int32)), (.int (0 : Int32)), (.int (0 : Int32)), (.int (0 : Int32)), (.int (0 : Int32)), (.int (0 : Int32)), (.int (0 : Int32)), (.int (0 : Int32)), (.int (0 : Int32)), (.int (0 : Int32))] (.int (0 : Int32)) := Arv.set Ar9 Qk9 Sz9 Nn9 Hh9 Gg9 rfl W9 7 rfl (Nat.le_of_ble_eq_true rfl)
  have N9 := Fr.snoc X9 N8 g_b1
  have Z9 : n0 ≤ h9.size := Nat.le_trans Z8 (Keep.of_wr W9).1
  have K9 := K8.wr W9 (Or.inr sz_b1)
  obtain ⟨lc9, X9, N9⟩ : ∃ lc, Stand p l e room_1 s m #[(.int p1), (.int p2), (.int p3)] below meth c T9 lc 1 30 ∧ Fr n0 lc := ⟨_, X9, N9⟩
  refine OutW.back st9 ?_
  show OutW _ _ _ _ _ _ _ (T9.setTop (mkF m 48 #[.val (.int p1), .val (.int p2), .val (.int p3), .unset, .unset] [(.ref b1)]))
  refine OutW.back (fun t k => XS.dup X9.here hx rfl (hb hby at_48) rfl rfl k) ?_
  show OutW _ _ _ _ _ _ _ (T9.setTop (mkF m 49 #[.val (.int p1), .val (.int p2), .val (.int p3), .unset, .unset] [(.ref b1), (.ref b1)]))
  refine OutW.back (fun t k => XS.bipush X9.here hx rfl (hb hby at_49) k) ?_
  show OutW _ _ _ _ _ _ _ (T9.setTop (mkF m 51 #[.val (.int p1), .val (.int p2), .val (.int p3), .unset, .unset] [(.int (8 : Int32)), (.ref b1), (.ref b1)]))
  refine OutW.back (fun t k => XS.sipush X9.here hx rfl (hb hby at_51) k) ?_
  show OutW _ _ _ _ _ _ _ (T9.setTop (mkF m 54 #[.val (.int p1), .val (.int p2), .val (.int p3), .unset, .unset] [(.int (216 : Int32)), (.int (8 : Int32)), (.ref b1), (.ref b1)]))
  obtain ⟨cl10, Ar10, Qk10, Sz10, Nn10, Hh10, Gg10⟩ := id V_b1_9
  have hin10 : ¬ ((8 : Int32) < 0 ∨ cl10.slots.size ≤ ((8 : Int32)).toNatClampNeg) := inb_of Sz10 ⟨by decide, by decide⟩
  obtain ⟨T10, h10, X10, e10, W10, st10⟩ := stI X9 hx hZ e9 Ar10 (j := (8 : Int32)) hin10 (g := (mkF m 54 #[.val (.int p1), .val (.int p2), .val (.int p3), .unset, .unset] [(.int (216 : Int32)), (.int (8 : Int32)), (.ref b1), (.ref b1)])) rfl rfl (hb hby at_54)
  have V_b1_10 : Arv Z h10 b1 k1 .int (30 : Int32) [(.int (65 : Int32)), (.int (91 : Int32)), (.int (95 : Int32)), (.int (96 : Int32)), (.int (97 : Int32)), (.int (123 : Int32)), (.int (192 : Int32)), (.int (215 : Int32)), (.int (216 : Int32)), (.int (0 : Int32)), (.int (0 : Int32)), (.int (0 : Int32)), (.int (0 : Int32)), (.int (0 : Int32)), (.int (0 : Int32)), (.int (0 : Int32)), (.int (0 : Int32)), (.int (0 : Int32)), (.int (0 : Int32)), (.int (0 : Int32)), (.int (0 : Int32)), (.int (0 : Int32)), (.int (0 : Int32)), (.int (0 : Int32)), (.int (0 : Int32)), (.int (0 : Int32)), (.int (0 : Int32)), (.int (0 : Int32)), (.int (0 : Int32)), (.int (0 : Int32))] (.int (0 : Int32)) := Arv.set Ar10 Qk10 Sz10 Nn10 Hh10 Gg10 rfl W10 8 rfl (Nat.le_of_ble_eq_true rfl)
  have N10 := Fr.snoc X10 N9 g_b1
  have Z10 : n0 ≤ h10.size := Nat.le_trans Z9 (Keep.of_wr W10).1
  have K10 := K9.wr W10 (Or.inr sz_b1)
  obtain ⟨lc10, X10, N10⟩ : ∃ lc, Stand p l e room_1 s m #[(.int p1), (.int p2), (.int p3)] below meth c T10 lc 1 30 ∧ Fr n0 lc := ⟨_, X10, N10⟩
  refine OutW.back st10 ?_
  show OutW _ _ _ _ _ _ _ (T10.setTop (mkF m 55 #[.val (.int p1), .val (.int p2), .val (.int p3), .unset, .unset] [(.ref b1)]))
  refine OutW.back (fun t k => XS.dup X10.here hx rfl (hb hby at_55) rfl rfl k) ?_
  show OutW _ _ _ _ _ _ _ (T10.setTop (mkF m 56 #[.val (.int p1), .val (.int p2), .val (.int p3), .unset, .unset] [(.ref b1), (.ref b1)]))
  refine OutW.back (fun t k => XS.bipush X10.here hx rfl (hb hby at_56) k) ?_
  show OutW _ _ _ _ _ _ _ (T10.setTop (mkF m 58 #[.val (.int p1), .val (.int p2), .val (.int p3), .unset, .unset] [(.int (9 : Int32)), (.ref b1), (.ref b1)]))
  refine OutW.back (fun t k => XS.sipush X10.here hx rfl (hb hby at_58) k) ?_
  show OutW _ _ _ _ _ _ _ (T10.setTop (mkF m 61 #[.val (.int p1), .val (.int p2), .val (.int p3), .unset, .unset] [(.int (247 : Int32)), (.int (9 : Int32)), (.ref b1), (.ref b1)]))
  obtain ⟨cl11, Ar11, Qk11, Sz11, Nn11, Hh11, Gg11⟩ := id V_b1_10
  have hin11 : ¬ ((9 : Int32) < 0 ∨ cl11.slots.size ≤ ((9 : Int32)).toNatClampNeg) := inb_of Sz11 ⟨by decide, by decide⟩
  obtain ⟨T11, h11, X11, e11, W11, st11⟩ := stI X10 hx hZ e10 Ar11 (j := (9 : Int32)) hin11 (g := (mkF m 61 #[.val (.int p1), .val (.int p2), .val (.int p3), .unset, .unset] [(.int (247 : Int32)), (.int (9 : Int32)), (.ref b1), (.ref b1)])) rfl rfl (hb hby at_61)
  have V_b1_11 : Arv Z h11 b1 k1 .int (30 : Int32) [(.int (65 : Int32)), (.int (91 : Int32)), (.int (95 : Int32)), (.int (96 : Int32)), (.int (97 : Int32)), (.int (123 : Int32)), (.int (192 : Int32)), (.int (215 : Int32)), (.int (216 : Int32)), (.int (247 : Int32)), (.int (0 : Int32)), (.int (0 : Int32)), (.int (0 : Int32)), (.int (0 : Int32)), (.int (0 : Int32)), (.int (0 : Int32)), (.int (0 : Int32)), (.int (0 : Int32)), (.int (0 : Int32)), (.int (0 : Int32)), (.int (0 : Int32)), (.int (0 : Int32)), (.int (0 : Int32)), (.int (0 : Int32)), (.int (0 : Int32)), (.int (0 : Int32)), (.int (0 : Int32)), (.int (0 : Int32)), (.int (0 : Int32)), (.int (0 : Int32))] (.int (0 : Int32)) := Arv.set Ar11 Qk11 Sz11 Nn11 Hh11 Gg11 rfl W11 9 rfl (Nat.le_of_ble_eq_true rfl)
  have N11 := Fr.snoc X11 N10 g_b1
  have Z11 : n0 ≤ h11.size := Nat.le_trans Z10 (Keep.of_wr W11).1
  have K11 := K10.wr W11 (Or.inr sz_b1)
  obtain ⟨lc11, X11, N11⟩ : ∃ lc, Stand p l e room_1 s m #[(.int p1), (.int p2), (.int p3)] below meth c T11 lc 1 30 ∧ Fr n0 lc := ⟨_, X11, N11⟩
  refine OutW.back st11 ?_
  show OutW _ _ _ _ _ _ _ (T11.setTop (mkF m 62 #[.val (.int p1), .val (.int p2), .val (.int p3), .unset, .unset] [(.ref b1)]))
  refine OutW.back (fun t k => XS.dup X11.here hx rfl (hb hby at_62) rfl rfl k) ?_
  show OutW _ _ _ _ _ _ _ (T11.setTop (mkF m 63 #[.val (.int p1), .val (.int p2), .val (.int p3), .unset, .unset] [(.ref b1), (.ref b1)]))
  refine OutW.back (fun t k => XS.bipush X11.here hx rfl (hb hby at_63) k) ?_
  show OutW _ _ _ _ _ _ _ (T11.setTop (mkF m 65 #[.val (.int p1), .val (.int p2), .val (.int p3), .unset, .unset] [(.int (10 : Int32)), (.ref b1), (.ref b1)]))
  refine OutW.back (fun t k => XS.sipush X11.here hx rfl (hb hby at_65) k) ?_
  show OutW _ _ _ _ _ _ _ (T11.setTop (mkF m 68 #[.val (.int p1), .val (.int p2), .val (.int p3), .unset, .unset] [(.int (248 : Int32)), (.int (10 : Int32)), (.ref b1), (.ref b1)]))
  obtain ⟨cl12, Ar12, Qk12, Sz12, Nn12, Hh12, Gg12⟩ := id V_b1_11
  have hin12 : ¬ ((10 : Int32) < 0 ∨ cl12.slots.size ≤ ((10 : Int32)).toNatClampNeg) := inb_of Sz12 ⟨by decide, by decide⟩
  obtain ⟨T12, h12, X12, e12, W12, st12⟩ := stI X11 hx hZ e11 Ar12 (j := (10 : Int32)) hin12 (g := (mkF m 68 #[.val (.int p1), .val (.int p2), .val (.int p3), .unset, .unset] [(.int (248 : Int32)), (.int (10 : Int32)), (.ref b1), (.ref b1)])) rfl rfl (hb hby at_68)
  have V_b1_12 : Arv Z h12 b1 k1 .int (30 : Int32) [(.int (65 : Int32)), (.int (91 : Int32)), (.int (95 : Int32)), (.int (96 : Int32)), (.int (97 : Int32)), (.int (123 : Int32)), (.int (192 : Int32)), (.int (215 : Int32)), (.int (216 : Int32)), (.int (247 : Int32)), (.int (248 : Int32)), (.int (0 : Int32)), (.int (0 : Int32)), (.int (0 : Int32)), (.int (0 : Int32)), (.int (0 : Int32)), (.int (0 : Int32)), (.int (0 : Int32)), (.int (0 : Int32)), (.int (0 : Int32)), (.int (0 : Int32)), (.int (0 : Int32)), (.int (0 : Int32)), (.int (0 : Int32)), (.int (0 : Int32)), (.int (0 : Int32)), (.int (0 : Int32)), (.int (0 : Int32)), (.int (0 : Int32)), (.int (0 : Int32))] (.int (0 : Int32)) := Arv.set Ar12 Qk12 Sz12 Nn12 Hh12 Gg12 rfl W12 10 rfl (Nat.le_of_ble_eq_true rfl)
  have N12 := Fr.snoc X12 N11 g_b1
  have Z12 : n0 ≤ h12.size := Nat.le_trans Z11 (Keep.of_wr W12).1
  have K12 := K11.wr W12 (Or.inr sz_b1)
  obtain ⟨lc12, X12, N12⟩ : ∃ lc, Stand p l e room_1 s m #[(.int p1), (.int p2), (.int p3)] below meth c T12 lc 1 30 ∧ Fr n0 lc := ⟨_, X12, N12⟩
  refine OutW.back st12 ?_
  show OutW _ _ _ _ _ _ _ (T12.setTop (mkF m 69 #[.val (.int p1), .val (.int p2), .val (.int p3), .unset, .unset] [(.ref b1)]))
  refine OutW.back (fun t k => XS.dup X12.here hx rfl (hb hby at_69) rfl rfl k) ?_
  show OutW _ _ _ _ _ _ _ (T12.setTop (mkF m 70 #[.val (.int p1), .val (.int p2), .val (.int p3), .unset, .unset] [(.ref b1), (.ref b1)]))
  refine OutW.back (fun t k => XS.bipush X12.here hx rfl (hb hby at_70) k) ?_
  show OutW _ _ _ _ _ _ _ (T12.setTop (mkF m 72 #[.val (.int p1), .val (.int p2), .val (.int p3), .unset, .unset] [(.int (11 : Int32)), (.ref b1), (.ref b1)]))
  refine OutW.back (fun t k => XS.sipush X12.here hx rfl (hb hby at_72) k) ?_
  show OutW _ _ _ _ _ _ _ (T12.setTop (mkF m 75 #[.val (.int p1), .val (.int p2), .val (.int p3), .unset, .unset] [(.int (768 : Int32)), (.int (11 : Int32)), (.ref b1), (.ref b1)]))
  obtain ⟨cl13, Ar13, Qk13, Sz13, Nn13, Hh13, Gg13⟩ := id V_b1_12
  have hin13 : ¬ ((11 : Int32) < 0 ∨ cl13.slots.size ≤ ((11 : Int32)).toNatClampNeg) := inb_of Sz13 ⟨by decide, by decide⟩
  obtain ⟨T13, h13, X13, e13, W13, st13⟩ := stI X12 hx hZ e12 Ar13 (j := (11 : Int32)) hin13 (g := (mkF m 75 #[.val (.int p1), .val (.int p2), .val (.int p3), .unset, .unset] [(.int (768 : Int32)), (.int (11 : Int32)), (.ref b1), (.ref b1)])) rfl rfl (hb hby at_75)
  have V_b1_13 : Arv Z h13 b1 k1 .int (30 : Int32) [(.int (65 : Int32)), (.int (91 : Int32)), (.int (95 : Int32)), (.int (96 : Int32)), (.int (97 : Int32)), (.int (123 : Int32)), (.int (192 : Int32)), (.int (215 : Int32)), (.int (216 : Int32)), (.int (247 : Int32)), (.int (248 : Int32)), (.int (768 : Int32)), (.int (0 : Int32)), (.int (0 : Int32)), (.int (0 : Int32)), (.int (0 : Int32)), (.int (0 : Int32)), (.int (0 : Int32)), (.int (0 : Int32)), (.int (0 : Int32)), (.int (0 : Int32)), (.int (0 : Int32)), (.int (0 : Int32)), (.int (0 : Int32)), (.int (0 : Int32)), (.int (0 : Int32)), (.int (0 : Int32)), (.int (0 : Int32)), (.int (0 : Int32)), (.int (0 : Int32))] (.int (0 : Int32)) := Arv.set Ar13 Qk13 Sz13 Nn13 Hh13 Gg13 rfl W13 11 rfl (Nat.le_of_ble_eq_true rfl)
  have N13 := Fr.snoc X13 N12 g_b1
  have Z13 : n0 ≤ h13.size := Nat.le_trans Z12 (Keep.of_wr W13).1
  have K13 := K12.wr W13 (Or.inr sz_b1)
  obtain ⟨lc13, X13, N13⟩ : ∃ lc, Stand p l e room_1 s m #[(.int p1), (.int p2), (.int p3)] below meth c T13 lc 1 30 ∧ Fr n0 lc := ⟨_, X13, N13⟩
  refine OutW.back st13 ?_
  show OutW _ _ _ _ _ _ _ (T13.setTop (mkF m 76 #[.val (.int p1), .val (.int p2), .val (.int p3), .unset, .unset] [(.ref b1)]))
  refine OutW.back (fun t k => XS.dup X13.here hx rfl (hb hby at_76) rfl rfl k) ?_
  show OutW _ _ _ _ _ _ _ (T13.setTop (mkF m 77 #[.val (.int p1), .val (.int p2), .val (.int p3), .unset, .unset] [(.ref b1), (.ref b1)]))
  refine OutW.back (fun t k => XS.bipush X13.here hx rfl (hb hby at_77) k) ?_
  show OutW _ _ _ _ _ _ _ (T13.setTop (mkF m 79 #[.val (.int p1), .val (.int p2), .val (.int p3), .unset, .unset] [(.int (12 : Int32)), (.ref b1), (.ref b1)]))
  refine OutW.back (fun t k => XS.sipush X13.here hx rfl (hb hby at_79) k) ?_
  show OutW _ _ _ _ _ _ _ (T13.setTop (mkF m 82 #[.val (.int p1), .val (.int p2), .val (.int p3), .unset, .unset] [(.int (880 : Int32)), (.int (12 : Int32)), (.ref b1), (.ref b1)]))
  obtain ⟨cl14, Ar14, Qk14, Sz14, Nn14, Hh14, Gg14⟩ := id V_b1_13
  have hin14 : ¬ ((12 : Int32) < 0 ∨ cl14.slots.size ≤ ((12 : Int32)).toNatClampNeg) := inb_of Sz14 ⟨by decide, by decide⟩
  obtain ⟨T14, h14, X14, e14, W14, st14⟩ := stI X13 hx hZ e13 Ar14 (j := (12 : Int32)) hin14 (g := (mkF m 82 #[.val (.int p1), .val (.int p2), .val (.int p3), .unset, .unset] [(.int (880 : Int32)), (.int (12 : Int32)), (.ref b1), (.ref b1)])) rfl rfl (hb hby at_82)
  have V_b1_14 : Arv Z h14 b1 k1 .int (30 : Int32) [(.int (65 : Int32)), (.int (91 : Int32)), (.int (95 : Int32)), (.int (96 : Int32)), (.int (97 : Int32)), (.int (123 : Int32)), (.int (192 : Int32)), (.int (215 : Int32)), (.int (216 : Int32)), (.int (247 : Int32)), (.int (248 : Int32)), (.int (768 : Int32)), (.int (880 : Int32)), (.int (0 : Int32)), (.int (0 : Int32)), (.int (0 : Int32)), (.int (0 : Int32)), (.int (0 : Int32)), (.int (0 : Int32)), (.int (0 : Int32)), (.int (0 : Int32)), (.int (0 : Int32)), (.int (0 : Int32)), (.int (0 : Int32)), (.int (0 : Int32)), (.int (0 : Int32)), (.int (0 : Int32)), (.int (0 : Int32)), (.int (0 : Int32)), (.int (0 : Int32))] (.int (0 : Int32)) := Arv.set Ar14 Qk14 Sz14 Nn14 Hh14 Gg14 rfl W14 12 rfl (Nat.le_of_ble_eq_true rfl)
  have N14 := Fr.snoc X14 N13 g_b1
  have Z14 : n0 ≤ h14.size := Nat.le_trans Z13 (Keep.of_wr W14).1
  have K14 := K13.wr W14 (Or.inr sz_b1)
  obtain ⟨lc14, X14, N14⟩ : ∃ lc, Stand p l e room_1 s m #[(.int p1), (.int p2), (.int p3)] below meth c T14 lc 1 30 ∧ Fr n0 lc := ⟨_, X14, N14⟩
  refine OutW.back st14 ?_
  show OutW _ _ _ _ _ _ _ (T14.setTop (mkF m 83 #[.val (.int p1), .val (.int p2), .val (.int p3), .unset, .unset] [(.ref b1)]))
  refine OutW.back (fun t k => XS.dup X14.here hx rfl (hb hby at_83) rfl rfl k) ?_
  show OutW _ _ _ _ _ _ _ (T14.setTop (mkF m 84 #[.val (.int p1), .val (.int p2), .val (.int p3), .unset, .unset] [(.ref b1), (.ref b1)]))
  refine OutW.back (fun t k => XS.bipush X14.here hx rfl (hb hby at_84) k) ?_
  show OutW _ _ _ _ _ _ _ (T14.setTop (mkF m 86 #[.val (.int p1), .val (.int p2), .val (.int p3), .unset, .unset] [(.int (13 : Int32)), (.ref b1), (.ref b1)]))
  refine OutW.back (fun t k => XS.sipush X14.here hx rfl (hb hby at_86) k) ?_
  show OutW _ _ _ _ _ _ _ (T14.setTop (mkF m 89 #[.val (.int p1), .val (.int p2), .val (.int p3), .unset, .unset] [(.int (894 : Int32)), (.int (13 : Int32)), (.ref b1), (.ref b1)]))
  obtain ⟨cl15, Ar15, Qk15, Sz15, Nn15, Hh15, Gg15⟩ := id V_b1_14
  have hin15 : ¬ ((13 : Int32) < 0 ∨ cl15.slots.size ≤ ((13 : Int32)).toNatClampNeg) := inb_of Sz15 ⟨by decide, by decide⟩
  obtain ⟨T15, h15, X15, e15, W15, st15⟩ := stI X14 hx hZ e14 Ar15 (j := (13 : Int32)) hin15 (g := (mkF m 89 #[.val (.int p1), .val (.int p2), .val (.int p3), .unset, .unset] [(.int (894 : Int32)), (.int (13 : Int32)), (.ref b1), (.ref b1)])) rfl rfl (hb hby at_89)
  have V_b1_15 : Arv Z h15 b1 k1 .int (30 : Int32) [(.int (65 : Int32)), (.int (91 : Int32)), (.int (95 : Int32)), (.int (96 : Int32)), (.int (97 : Int32)), (.int (123 : Int32)), (.int (192 : Int32)), (.int (215 : Int32)), (.int (216 : Int32)), (.int (247 : Int32)), (.int (248 : Int32)), (.int (768 : Int32)), (.int (880 : Int32)), (.int (894 : Int32)), (.int (0 : Int32)), (.int (0 : Int32)), (.int (0 : Int32)), (.int (0 : Int32)), (.int (0 : Int32)), (.int (0 : Int32)), (.int (0 : Int32)), (.int (0 : Int32)), (.int (0 : Int32)), (.int (0 : Int32)), (.int (0 : Int32)), (.int (0 : Int32)), (.int (0 : Int32)), (.int (0 : Int32)), (.int (0 : Int32)), (.int (0 : Int32))] (.int (0 : Int32)) := Arv.set Ar15 Qk15 Sz15 Nn15 Hh15 Gg15 rfl W15 13 rfl (Nat.le_of_ble_eq_true rfl)
  have N15 := Fr.snoc X15 N14 g_b1
  have Z15 : n0 ≤ h15.size := Nat.le_trans Z14 (Keep.of_wr W15).1
  have K15 := K14.wr W15 (Or.inr sz_b1)
  obtain ⟨lc15, X15, N15⟩ : ∃ lc, Stand p l e room_1 s m #[(.int p1), (.int p2), (.int p3)] below meth c T15 lc 1 30 ∧ Fr n0 lc := ⟨_, X15, N15⟩
  refine OutW.back st15 ?_
  show OutW _ _ _ _ _ _ _ (T15.setTop (mkF m 90 #[.val (.int p1), .val (.int p2), .val (.int p3), .unset, .unset] [(.ref b1)]))
  refine OutW.back (fun t k => XS.dup X15.here hx rfl (hb hby at_90) rfl rfl k) ?_
  show OutW _ _ _ _ _ _ _ (T15.setTop (mkF m 91 #[.val (.int p1), .val (.int p2), .val (.int p3), .unset, .unset] [(.ref b1), (.ref b1)]))
  refine OutW.back (fun t k => XS.bipush X15.here hx rfl (hb hby at_91) k) ?_
  show OutW _ _ _ _ _ _ _ (T15.setTop (mkF m 93 #[.val (.int p1), .val (.int p2), .val (.int p3), .unset, .unset] [(.int (14 : Int32)), (.ref b1), (.ref b1)]))
  refine OutW.back (fun t k => XS.sipush X15.here hx rfl (hb hby at_93) k) ?_
  show OutW _ _ _ _ _ _ _ (T15.setTop (mkF m 96 #[.val (.int p1), .val (.int p2), .val (.int p3), .unset, .unset] [(.int (895 : Int32)), (.int (14 : Int32)), (.ref b1), (.ref b1)]))
  obtain ⟨cl16, Ar16, Qk16, Sz16, Nn16, Hh16, Gg16⟩ := id V_b1_15
  have hin16 : ¬ ((14 : Int32) < 0 ∨ cl16.slots.size ≤ ((14 : Int32)).toNatClampNeg) := inb_of Sz16 ⟨by decide, by decide⟩
  obtain ⟨T16, h16, X16, e16, W16, st16⟩ := stI X15 hx hZ e15 Ar16 (j := (14 : Int32)) hin16 (g := (mkF m 96 #[.val (.int p1), .val (.int p2), .val (.int p3), .unset, .unset] [(.int (895 : Int32)), (.int (14 : Int32)), (.ref b1), (.ref b1)])) rfl rfl (hb hby at_96)
  have V_b1_16 : Arv Z h16 b1 k1 .int (30 : Int32) [(.int (65 : Int32)), (.int (91 : Int32)), (.int (95 : Int32)), (.int (96 : Int32)), (.int (97 : Int32)), (.int (123 : Int32)), (.int (192 : Int32)), (.int (215 : Int32)), (.int (216 : Int32)), (.int (247 : Int32)), (.int (248 : Int32)), (.int (768 : Int32)), (.int (880 : Int32)), (.int (894 : Int32)), (.int (895 : Int32)), (.int (0 : Int32)), (.int (0 : Int32)), (.int (0 : Int32)), (.int (0 : Int32)), (.int (0 : Int32)), (.int (0 : Int32)), (.int (0 : Int32)), (.int (0 : Int32)), (.int (0 : Int32)), (.int (0 : Int32)), (.int (0 : Int32)), (.int (0 : Int32)), (.int (0 : Int32)), (.int (0 : Int32)), (.int (0 : Int32))] (.int (0 : Int32)) := Arv.set Ar16 Qk16 Sz16 Nn16 Hh16 Gg16 rfl W16 14 rfl (Nat.le_of_ble_eq_true rfl)
  have N16 := Fr.snoc X16 N15 g_b1
  have Z16 : n0 ≤ h16.size := Nat.le_trans Z15 (Keep.of_wr W16).1
  have K16 := K15.wr W16 (Or.inr sz_b1)
  obtain ⟨lc16, X16, N16⟩ : ∃ lc, Stand p l e room_1 s m #[(.int p1), (.int p2), (.int p3)] below meth c T16 lc 1 30 ∧ Fr n0 lc := ⟨_, X16, N16⟩
  refine OutW.back st16 ?_
  show OutW _ _ _ _ _ _ _ (T16.setTop (mkF m 97 #[.val (.int p1), .val (.int p2), .val (.int p3), .unset, .unset] [(.ref b1)]))
  refine OutW.back (fun t k => XS.dup X16.here hx rfl (hb hby at_97) rfl rfl k) ?_
  show OutW _ _ _ _ _ _ _ (T16.setTop (mkF m 98 #[.val (.int p1), .val (.int p2), .val (.int p3), .unset, .unset] [(.ref b1), (.ref b1)]))
  refine OutW.back (fun t k => XS.bipush X16.here hx rfl (hb hby at_98) k) ?_
  show OutW _ _ _ _ _ _ _ (T16.setTop (mkF m 100 #[.val (.int p1), .val (.int p2), .val (.int p3), .unset, .unset] [(.int (15 : Int32)), (.ref b1), (.ref b1)]))
  refine OutW.back (fun t k => XS.sipush X16.here hx rfl (hb hby at_100) k) ?_
  show OutW _ _ _ _ _ _ _ (T16.setTop (mkF m 103 #[.val (.int p1), .val (.int p2), .val (.int p3), .unset, .unset] [(.int (8192 : Int32)), (.int (15 : Int32)), (.ref b1), (.ref b1)]))
  obtain ⟨cl17, Ar17, Qk17, Sz17, Nn17, Hh17, Gg17⟩ := id V_b1_16
  have hin17 : ¬ ((15 : Int32) < 0 ∨ cl17.slots.size ≤ ((15 : Int32)).toNatClampNeg) := inb_of Sz17 ⟨by decide, by decide⟩
  obtain ⟨T17, h17, X17, e17, W17, st17⟩ := stI X16 hx hZ e16 Ar17 (j := (15 : Int32)) hin17 (g := (mkF m 103 #[.val (.int p1), .val (.int p2), .val (.int p3), .unset, .unset] [(.int (8192 : Int32)), (.int (15 : Int32)), (.ref b1), (.ref b1)])) rfl rfl (hb hby at_103)
  have V_b1_17 : Arv Z h17 b1 k1 .int (30 : Int32) [(.int (65 : Int32)), (.int (91 : Int32)), (.int (95 : Int32)), (.int (96 : Int32)), (.int (97 : Int32)), (.int (123 : Int32)), (.int (192 : Int32)), (.int (215 : Int32)), (.int (216 : Int32)), (.int (247 : Int32)), (.int (248 : Int32)), (.int (768 : Int32)), (.int (880 : Int32)), (.int (894 : Int32)), (.int (895 : Int32)), (.int (8192 : Int32)), (.int (0 : Int32)), (.int (0 : Int32)), (.int (0 : Int32)), (.int (0 : Int32)), (.int (0 : Int32)), (.int (0 : Int32)), (.int (0 : Int32)), (.int (0 : Int32)), (.int (0 : Int32)), (.int (0 : Int32)), (.int (0 : Int32)), (.int (0 : Int32)), (.int (0 : Int32)), (.int (0 : Int32))] (.int (0 : Int32)) := Arv.set Ar17 Qk17 Sz17 Nn17 Hh17 Gg17 rfl W17 15 rfl (Nat.le_of_ble_eq_true rfl)
  have N17 := Fr.snoc X17 N16 g_b1
  have Z17 : n0 ≤ h17.size := Nat.le_trans Z16 (Keep.of_wr W17).1
  have K17 := K16.wr W17 (Or.inr sz_b1)
  obtain ⟨lc17, X17, N17⟩ : ∃ lc, Stand p l e room_1 s m #[(.int p1), (.int p2), (.int p3)] below meth c T17 lc 1 30 ∧ Fr n0 lc := ⟨_, X17, N17⟩
  refine OutW.back st17 ?_
  show OutW _ _ _ _ _ _ _ (T17.setTop (mkF m 104 #[.val (.int p1), .val (.int p2), .val (.int p3), .unset, .unset] [(.ref b1)]))
  refine OutW.back (fun t k => XS.dup X17.here hx rfl (hb hby at_104) rfl rfl k) ?_
  show OutW _ _ _ _ _ _ _ (T17.setTop (mkF m 105 #[.val (.int p1), .val (.int p2), .val (.int p3), .unset, .unset] [(.ref b1), (.ref b1)]))
  refine OutW.back (fun t k => XS.bipush X17.here hx rfl (hb hby at_105) k) ?_
  show OutW _ _ _ _ _ _ _ (T17.setTop (mkF m 107 #[.val (.int p1), .val (.int p2), .val (.int p3), .unset, .unset] [(.int (16 : Int32)), (.ref b1), (.ref b1)]))
  refine OutW.back (fun t k => XS.sipush X17.here hx rfl (hb hby at_107) k) ?_
  show OutW _ _ _ _ _ _ _ (T17.setTop (mkF m 110 #[.val (.int p1), .val (.int p2), .val (.int p3), .unset, .unset] [(.int (8204 : Int32)), (.int (16 : Int32)), (.ref b1), (.ref b1)]))
  obtain ⟨cl18, Ar18, Qk18, Sz18, Nn18, Hh18, Gg18⟩ := id V_b1_17
  have hin18 : ¬ ((16 : Int32) < 0 ∨ cl18.slots.size ≤ ((16 : Int32)).toNatClampNeg) := inb_of Sz18 ⟨by decide, by decide⟩
  obtain ⟨T18, h18, X18, e18, W18, st18⟩ := stI X17 hx hZ e17 Ar18 (j := (16 : Int32)) hin18 (g := (mkF m 110 #[.val (.int p1), .val (.int p2), .val (.int p3), .unset, .unset] [(.int (8204 : Int32)), (.int (16 : Int32)), (.ref b1), (.ref b1)])) rfl rfl (hb hby at_110)
  have V_b1_18 : Arv Z h18 b1 k1 .int (30 : Int32) [(.int (65 : Int32)), (.int (91 : Int32)), (.int (95 : Int32)), (.int (96 : Int32)), (.int (97 : Int32)), (.int (123 : Int32)), (.int (192 : Int32)), (.int (215 : Int32)), (.int (216 : Int32)), (.int (247 : Int32)), (.int (248 : Int32)), (.int (768 : Int32)), (.int (880 : Int32)), (.int (894 : Int32)), (.int (895 : Int32)), (.int (8192 : Int32)), (.int (8204 : Int32)), (.int (0 : Int32)), (.int (0 : Int32)), (.int (0 : Int32)), (.int (0 : Int32)), (.int (0 : Int32)), (.int (0 : Int32)), (.int (0 : Int32)), (.int (0 : Int32)), (.int (0 : Int32)), (.int (0 : Int32)), (.int (0 : Int32)), (.int (0 : Int32)), (.int (0 : Int32))] (.int (0 : Int32)) := Arv.set Ar18 Qk18 Sz18 Nn18 Hh18 Gg18 rfl W18 16 rfl (Nat.le_of_ble_eq_true rfl)
  have N18 := Fr.snoc X18 N17 g_b1
  have Z18 : n0 ≤ h18.size := Nat.le_trans Z17 (Keep.of_wr W18).1
  have K18 := K17.wr W18 (Or.inr sz_b1)
  obtain ⟨lc18, X18, N18⟩ : ∃ lc, Stand p l e room_1 s m #[(.int p1), (.int p2), (.int p3)] below meth c T18 lc 1 30 ∧ Fr n0 lc := ⟨_, X18, N18⟩
  refine OutW.back st18 ?_
  show OutW _ _ _ _ _ _ _ (T18.setTop (mkF m 111 #[.val (.int p1), .val (.int p2), .val (.int p3), .unset, .unset] [(.ref b1)]))
  refine OutW.back (fun t k => XS.dup X18.here hx rfl (hb hby at_111) rfl rfl k) ?_
  show OutW _ _ _ _ _ _ _ (T18.setTop (mkF m 112 #[.val (.int p1), .val (.int p2), .val (.int p3), .unset, .unset] [(.ref b1), (.ref b1)]))
  refine OutW.back (fun t k => XS.bipush X18.here hx rfl (hb hby at_112) k) ?_
  show OutW _ _ _ _ _ _ _ (T18.setTop (mkF m 114 #[.val (.int p1), .val (.int p2), .val (.int p3), .unset, .unset] [(.int (17 : Int32)), (.ref b1), (.ref b1)]))
  refine OutW.back (fun t k => XS.sipush X18.here hx rfl (hb hby at_114) k) ?_
  show OutW _ _ _ _ _ _ _ (T18.setTop (mkF m 117 #[.val (.int p1), .val (.int p2), .val (.int p3), .unset, .unset] [(.int (8206 : Int32)), (.int (17 : Int32)), (.ref b1), (.ref b1)]))
  obtain ⟨cl19, Ar19, Qk19, Sz19, Nn19, Hh19, Gg19⟩ := id V_b1_18
  have hin19 : ¬ ((17 : Int32) < 0 ∨ cl19.slots.size ≤ ((17 : Int32)).toNatClampNeg) := inb_of Sz19 ⟨by decide, by decide⟩
  obtain ⟨T19, h19, X19, e19, W19, st19⟩ := stI X18 hx hZ e18 Ar19 (j := (17 : Int32)) hin19 (g := (mkF m 117 #[.val (.int p1), .val (.int p2), .val (.int p3), .unset, .unset] [(.int (8206 : Int32)), (.int (17 : Int32)), (.ref b1), (.ref b1)])) rfl rfl (hb hby at_117)
  have V_b1_19 : Arv Z h19 b1 k1 .int (30 : Int32) [(.int (65 : Int32)), (.int (91 : Int32)), (.int (95 : Int32)), (.int (96 : Int32)), (.int (97 : Int32)), (.int (123 : Int32)), (.int (192 : Int32)), (.int (215 : Int32)), (.int (216 : Int32)), (.int (247 : Int32)), (.int (248 : Int32)), (.int (768 : Int32)), (.int (880 : Int32)), (.int (894 : Int32)), (.int (895 : Int32)), (.int (8192 : Int32)), (.int (8204 : Int32)), (.int (8206 : Int32)), (.int (0 : Int32)), (.int (0 : Int32)), (.int (0 : Int32)), (.int (0 : Int32)), (.int (0 : Int32)), (.int (0 : Int32)), (.int (0 : Int32)), (.int (0 : Int32)), (.int (0 : Int32)), (.int (0 : Int32)), (.int (0 : Int32)), (.int (0 : Int32))] (.int (0 : Int32)) := Arv.set Ar19 Qk19 Sz19 Nn19 Hh19 Gg19 rfl W19 17 rfl (Nat.le_of_ble_eq_true rfl)
  have N19 := Fr.snoc X19 N18 g_b1
  have Z19 : n0 ≤ h19.size := Nat.le_trans Z18 (Keep.of_wr W19).1
  have K19 := K18.wr W19 (Or.inr sz_b1)
  obtain ⟨lc19, X19, N19⟩ : ∃ lc, Stand p l e room_1 s m #[(.int p1), (.int p2), (.int p3)] below meth c T19 lc 1 30 ∧ Fr n0 lc := ⟨_, X19, N19⟩
  refine OutW.back st19 ?_
  show OutW _ _ _ _ _ _ _ (T19.setTop (mkF m 118 #[.val (.int p1), .val (.int p2), .val (.int p3), .unset, .unset] [(.ref b1)]))
  refine OutW.back (fun t k => XS.dup X19.here hx rfl (hb hby at_118) rfl rfl k) ?_
  show OutW _ _ _ _ _ _ _ (T19.setTop (mkF m 119 #[.val (.int p1), .val (.int p2), .val (.int p3), .unset, .unset] [(.ref b1), (.ref b1)]))
  refine OutW.back (fun t k => XS.bipush X19.here hx rfl (hb hby at_119) k) ?_
  show OutW _ _ _ _ _ _ _ (T19.setTop (mkF m 121 #[.val (.int p1), .val (.int p2), .val (.int p3), .unset, .unset] [(.int (18 : Int32)), (.ref b1), (.ref b1)]))
  refine OutW.back (fun t k => XS.sipush X19.here hx rfl (hb hby at_121) k) ?_
  show OutW _ _ _ _ _ _ _ (T19.setTop (mkF m 124 #[.val (.int p1), .val (.int p2), .val (.int p3), .unset, .unset] [(.int (8304 : Int32)), (.int (18 : Int32)), (.ref b1), (.ref b1)]))
  obtain ⟨cl20, Ar20, Qk20, Sz20, Nn20, Hh20, Gg20⟩ := id V_b1_19
  have hin20 : ¬ ((18 : Int32) < 0 ∨ cl20.slots.size ≤ ((18 : Int32)).toNatClampNeg) := inb_of Sz20 ⟨by decide, by decide⟩
  obtain ⟨T20, h20, X20, e20, W20, st20⟩ := stI X19 hx hZ e19 Ar20 (j := (18 : Int32)) hin20 (g := (mkF m 124 #[.val (.int p1), .val (.int p2), .val (.int p3), .unset, .unset] [(.int (8304 : Int32)), (.int (18 : Int32)), (.ref b1), (.ref b1)])) rfl rfl (hb hby at_124)
  have V_b1_20 : Arv Z h20 b1 k1 .int (30 : Int32) [(.int (65 : Int32)), (.int (91 : Int32)), (.int (95 : Int32)), (.int (96 : Int32)), (.int (97 : Int32)), (.int (123 : Int32)), (.int (192 : Int32)), (.int (215 : Int32)), (.int (216 : Int32)), (.int (247 : Int32)), (.int (248 : Int32)), (.int (768 : Int32)), (.int (880 : Int32)), (.int (894 : Int32)), (.int (895 : Int32)), (.int (8192 : Int32)), (.int (8204 : Int32)), (.int (8206 : Int32)), (.int (8304 : Int32)), (.int (0 : Int32)), (.int (0 : Int32)), (.int (0 : Int32)), (.int (0 : Int32)), (.int (0 : Int32)), (.int (0 : Int32)), (.int (0 : Int32)), (.int (0 : Int32)), (.int (0 : Int32)), (.int (0 : Int32)), (.int (0 : Int32))] (.int (0 : Int32)) := Arv.set Ar20 Qk20 Sz20 Nn20 Hh20 Gg20 rfl W20 18 rfl (Nat.le_of_ble_eq_true rfl)
  have N20 := Fr.snoc X20 N19 g_b1
  have Z20 : n0 ≤ h20.size := Nat.le_trans Z19 (Keep.of_wr W20).1
  have K20 := K19.wr W20 (Or.inr sz_b1)
  obtain ⟨lc20, X20, N20⟩ : ∃ lc, Stand p l e room_1 s m #[(.int p1), (.int p2), (.int p3)] below meth c T20 lc 1 30 ∧ Fr n0 lc := ⟨_, X20, N20⟩
  refine OutW.back st20 ?_
  show OutW _ _ _ _ _ _ _ (T20.setTop (mkF m 125 #[.val (.int p1), .val (.int p2), .val (.int p3), .unset, .unset] [(.ref b1)]))
  refine OutW.back (fun t k => XS.dup X20.here hx rfl (hb hby at_125) rfl rfl k) ?_
  show OutW _ _ _ _ _ _ _ (T20.setTop (mkF m 126 #[.val (.int p1), .val (.int p2), .val (.int p3), .unset, .unset] [(.ref b1), (.ref b1)]))
  refine OutW.back (fun t k => XS.bipush X20.here hx rfl (hb hby at_126) k) ?_
  show OutW _ _ _ _ _ _ _ (T20.setTop (mkF m 128 #[.val (.int p1), .val (.int p2), .val (.int p3), .unset, .unset] [(.int (19 : Int32)), (.ref b1), (.ref b1)]))
  refine OutW.back (fun t k => XS.sipush X20.here hx rfl (hb hby at_128) k) ?_
  show OutW _ _ _ _ _ _ _ (T20.setTop (mkF m 131 #[.val (.int p1), .val (.int p2), .val (.int p3), .unset, .unset] [(.int (8592 : Int32)), (.int (19 : Int32)), (.ref b1), (.ref b1)]))
  obtain ⟨cl21, Ar21, Qk21, Sz21, Nn21, Hh21, Gg21⟩ := id V_b1_20
  have hin21 : ¬ ((19 : Int32) < 0 ∨ cl21.slots.size ≤ ((19 : Int32)).toNatClampNeg) := inb_of Sz21 ⟨by decide, by decide⟩
  obtain ⟨T21, h21, X21, e21, W21, st21⟩ := stI X20 hx hZ e20 Ar21 (j := (19 : Int32)) hin21 (g := (mkF m 131 #[.val (.int p1), .val (.int p2), .val (.int p3), .unset, .unset] [(.int (8592 : Int32)), (.int (19 : Int32)), (.ref b1), (.ref b1)])) rfl rfl (hb hby at_131)
  have V_b1_21 : Arv Z h21 b1 k1 .int (30 : Int32) [(.int (65 : Int32)), (.int (91 : Int32)), (.int (95 : Int32)), (.int (96 : Int32)), (.int (97 : Int32)), (.int (123 : Int32)), (.int (192 : Int32)), (.int (215 : Int32)), (.int (216 : Int32)), (.int (247 : Int32)), (.int (248 : Int32)), (.int (768 : Int32)), (.int (880 : Int32)), (.int (894 : Int32)), (.int (895 : Int32)), (.int (8192 : Int32)), (.int (8204 : Int32)), (.int (8206 : Int32)), (.int (8304 : Int32)), (.int (8592 : Int32)), (.int (0 : Int32)), (.int (0 : Int32)), (.int (0 : Int32)), (.int (0 : Int32)), (.int (0 : Int32)), (.int (0 : Int32)), (.int (0 : Int32)), (.int (0 : Int32)), (.int (0 : Int32)), (.int (0 : Int32))] (.int (0 : Int32)) := Arv.set Ar21 Qk21 Sz21 Nn21 Hh21 Gg21 rfl W21 19 rfl (Nat.le_of_ble_eq_true rfl)
  have N21 := Fr.snoc X21 N20 g_b1
  have Z21 : n0 ≤ h21.size := Nat.le_trans Z20 (Keep.of_wr W21).1
  have K21 := K20.wr W21 (Or.inr sz_b1)
  obtain ⟨lc21, X21, N21⟩ : ∃ lc, Stand p l e room_1 s m #[(.int p1), (.int p2), (.int p3)] below meth c T21 lc 1 30 ∧ Fr n0 lc := ⟨_, X21, N21⟩
  refine OutW.back st21 ?_
  show OutW _ _ _ _ _ _ _ (T21.setTop (mkF m 132 #[.val (.int p1), .val (.int p2), .val (.int p3), .unset, .unset] [(.ref b1)]))
  refine OutW.back (fun t k => XS.dup X21.here hx rfl (hb hby at_132) rfl rfl k) ?_
  show OutW _ _ _ _ _ _ _ (T21.setTop (mkF m 133 #[.val (.int p1), .val (.int p2), .val (.int p3), .unset, .unset] [(.ref b1), (.ref b1)]))
  refine OutW.back (fun t k => XS.bipush X21.here hx rfl (hb hby at_133) k) ?_
  show OutW _ _ _ _ _ _ _ (T21.setTop (mkF m 135 #[.val (.int p1), .val (.int p2), .val (.int p3), .unset, .unset] [(.int (20 : Int32)), (.ref b1), (.ref b1)]))
  refine OutW.back (fun t k => XS.sipush X21.here hx rfl (hb hby at_135) k) ?_
  show OutW _ _ _ _ _ _ _ (T21.setTop (mkF m 138 #[.val (.int p1), .val (.int p2), .val (.int p3), .unset, .unset] [(.int (11264 : Int32)), (.int (20 : Int32)), (.ref b1), (.ref b1)]))
  obtain ⟨cl22, Ar22, Qk22, Sz22, Nn22, Hh22, Gg22⟩ := id V_b1_21
  have hin22 : ¬ ((20 : Int32) < 0 ∨ cl22.slots.size ≤ ((20 : Int32)).toNatClampNeg) := inb_of Sz22 ⟨by decide, by decide⟩
  obtain ⟨T22, h22, X22, e22, W22, st22⟩ := stI X21 hx hZ e21 Ar22 (j := (20 : Int32)) hin22 (g := (mkF m 138 #[.val (.int p1), .val (.int p2), .val (.int p3), .unset, .unset] [(.int (11264 : Int32)), (.int (20 : Int32)), (.ref b1), (.ref b1)])) rfl rfl (hb hby at_138)
  have V_b1_22 : Arv Z h22 b1 k1 .int (30 : Int32) [(.int (65 : Int32)), (.int (91 : Int32)), (.int (95 : Int32)), (.int (96 : Int32)), (.int (97 : Int32)), (.int (123 : Int32)), (.int (192 : Int32)), (.int (215 : Int32)), (.int (216 : Int32)), (.int (247 : Int32)), (.int (248 : Int32)), (.int (768 : Int32)), (.int (880 : Int32)), (.int (894 : Int32)), (.int (895 : Int32)), (.int (8192 : Int32)), (.int (8204 : Int32)), (.int (8206 : Int32)), (.int (8304 : Int32)), (.int (8592 : Int32)), (.int (11264 : Int32)), (.int (0 : Int32)), (.int (0 : Int32)), (.int (0 : Int32)), (.int (0 : Int32)), (.int (0 : Int32)), (.int (0 : Int32)), (.int (0 : Int32)), (.int (0 : Int32)), (.int (0 : Int32))] (.int (0 : Int32)) := Arv.set Ar22 Qk22 Sz22 Nn22 Hh22 Gg22 rfl W22 20 rfl (Nat.le_of_ble_eq_true rfl)
  have N22 := Fr.snoc X22 N21 g_b1
  have Z22 : n0 ≤ h22.size := Nat.le_trans Z21 (Keep.of_wr W22).1
  have K22 := K21.wr W22 (Or.inr sz_b1)
  obtain ⟨lc22, X22, N22⟩ : ∃ lc, Stand p l e room_1 s m #[(.int p1), (.int p2), (.int p3)] below meth c T22 lc 1 30 ∧ Fr n0 lc := ⟨_, X22, N22⟩
  refine OutW.back st22 ?_
  show OutW _ _ _ _ _ _ _ (T22.setTop (mkF m 139 #[.val (.int p1), .val (.int p2), .val (.int p3), .unset, .unset] [(.ref b1)]))
  refine OutW.back (fun t k => XS.dup X22.here hx rfl (hb hby at_139) rfl rfl k) ?_
  show OutW _ _ _ _ _ _ _ (T22.setTop (mkF m 140 #[.val (.int p1), .val (.int p2), .val (.int p3), .unset, .unset] [(.ref b1), (.ref b1)]))
  refine OutW.back (fun t k => XS.bipush X22.here hx rfl (hb hby at_140) k) ?_
  show OutW _ _ _ _ _ _ _ (T22.setTop (mkF m 142 #[.val (.int p1), .val (.int p2), .val (.int p3), .unset, .unset] [(.int (21 : Int32)), (.ref b1), (.ref b1)]))
  refine OutW.back (fun t k => XS.sipush X22.here hx rfl (hb hby at_142) k) ?_
  show OutW _ _ _ _ _ _ _ (T22.setTop (mkF m 145 #[.val (.int p1), .val (.int p2), .val (.int p3), .unset, .unset] [(.int (12272 : Int32)), (.int (21 : Int32)), (.ref b1), (.ref b1)]))
  obtain ⟨cl23, Ar23, Qk23, Sz23, Nn23, Hh23, Gg23⟩ := id V_b1_22
  have hin23 : ¬ ((21 : Int32) < 0 ∨ cl23.slots.size ≤ ((21 : Int32)).toNatClampNeg) := inb_of Sz23 ⟨by decide, by decide⟩
  obtain ⟨T23, h23, X23, e23, W23, st23⟩ := stI X22 hx hZ e22 Ar23 (j := (21 : Int32)) hin23 (g := (mkF m 145 #[.val (.int p1), .val (.int p2), .val (.int p3), .unset, .unset] [(.int (12272 : Int32)), (.int (21 : Int32)), (.ref b1), (.ref b1)])) rfl rfl (hb hby at_145)
  have V_b1_23 : Arv Z h23 b1 k1 .int (30 : Int32) [(.int (65 : Int32)), (.int (91 : Int32)), (.int (95 : Int32)), (.int (96 : Int32)), (.int (97 : Int32)), (.int (123 : Int32)), (.int (192 : Int32)), (.int (215 : Int32)), (.int (216 : Int32)), (.int (247 : Int32)), (.int (248 : Int32)), (.int (768 : Int32)), (.int (880 : Int32)), (.int (894 : Int32)), (.int (895 : Int32)), (.int (8192 : Int32)), (.int (8204 : Int32)), (.int (8206 : Int32)), (.int (8304 : Int32)), (.int (8592 : Int32)), (.int (11264 : Int32)), (.int (12272 : Int32)), (.int (0 : Int32)), (.int (0 : Int32)), (.int (0 : Int32)), (.int (0 : Int32)), (.int (0 : Int32)), (.int (0 : Int32)), (.int (0 : Int32)), (.int (0 : Int32))] (.int (0 : Int32)) := Arv.set Ar23 Qk23 Sz23 Nn23 Hh23 Gg23 rfl W23 21 rfl (Nat.le_of_ble_eq_true rfl)
  have N23 := Fr.snoc X23 N22 g_b1
  have Z23 : n0 ≤ h23.size := Nat.le_trans Z22 (Keep.of_wr W23).1
  have K23 := K22.wr W23 (Or.inr sz_b1)
  obtain ⟨lc23, X23, N23⟩ : ∃ lc, Stand p l e room_1 s m #[(.int p1), (.int p2), (.int p3)] below meth c T23 lc 1 30 ∧ Fr n0 lc := ⟨_, X23, N23⟩
  refine OutW.back st23 ?_
  show OutW _ _ _ _ _ _ _ (T23.setTop (mkF m 146 #[.val (.int p1), .val (.int p2), .val (.int p3), .unset, .unset] [(.ref b1)]))
  refine OutW.back (fun t k => XS.dup X23.here hx rfl (hb hby at_146) rfl rfl k) ?_
  show OutW _ _ _ _ _ _ _ (T23.setTop (mkF m 147 #[.val (.int p1), .val (.int p2), .val (.int p3), .unset, .unset] [(.ref b1), (.ref b1)]))
  refine OutW.back (fun t k => XS.bipush X23.here hx rfl (hb hby at_147) k) ?_
  show OutW _ _ _ _ _ _ _ (T23.setTop (mkF m 149 #[.val (.int p1), .val (.int p2), .val (.int p3), .unset, .unset] [(.int (22 : Int32)), (.ref b1), (.ref b1)]))
  refine OutW.back (fun t k => XS.sipush X23.here hx rfl (hb hby at_149) k) ?_
  show OutW _ _ _ _ _ _ _ (T23.setTop (mkF m 152 #[.val (.int p1), .val (.int p2), .val (.int p3), .unset, .unset] [(.int (12289 : Int32)), (.int (22 : Int32)), (.ref b1), (.ref b1)]))
  obtain ⟨cl24, Ar24, Qk24, Sz24, Nn24, Hh24, Gg24⟩ := id V_b1_23
  have hin24 : ¬ ((22 : Int32) < 0 ∨ cl24.slots.size ≤ ((22 : Int32)).toNatClampNeg) := inb_of Sz24 ⟨by decide, by decide⟩
  obtain ⟨T24, h24, X24, e24, W24, st24⟩ := stI X23 hx hZ e23 Ar24 (j := (22 : Int32)) hin24 (g := (mkF m 152 #[.val (.int p1), .val (.int p2), .val (.int p3), .unset, .unset] [(.int (12289 : Int32)), (.int (22 : Int32)), (.ref b1), (.ref b1)])) rfl rfl (hb hby at_152)
  have V_b1_24 : Arv Z h24 b1 k1 .int (30 : Int32) [(.int (65 : Int32)), (.int (91 : Int32)), (.int (95 : Int32)), (.int (96 : Int32)), (.int (97 : Int32)), (.int (123 : Int32)), (.int (192 : Int32)), (.int (215 : Int32)), (.int (216 : Int32)), (.int (247 : Int32)), (.int (248 : Int32)), (.int (768 : Int32)), (.int (880 : Int32)), (.int (894 : Int32)), (.int (895 : Int32)), (.int (8192 : Int32)), (.int (8204 : Int32)), (.int (8206 : Int32)), (.int (8304 : Int32)), (.int (8592 : Int32)), (.int (11264 : Int32)), (.int (12272 : Int32)), (.int (12289 : Int32)), (.int (0 : Int32)), (.int (0 : Int32)), (.int (0 : Int32)), (.int (0 : Int32)), (.int (0 : Int32)), (.int (0 : Int32)), (.int (0 : Int32))] (.int (0 : Int32)) := Arv.set Ar24 Qk24 Sz24 Nn24 Hh24 Gg24 rfl W24 22 rfl (Nat.le_of_ble_eq_true rfl)
  have N24 := Fr.snoc X24 N23 g_b1
  have Z24 : n0 ≤ h24.size := Nat.le_trans Z23 (Keep.of_wr W24).1
  have K24 := K23.wr W24 (Or.inr sz_b1)
  obtain ⟨lc24, X24, N24⟩ : ∃ lc, Stand p l e room_1 s m #[(.int p1), (.int p2), (.int p3)] below meth c T24 lc 1 30 ∧ Fr n0 lc := ⟨_, X24, N24⟩
  refine OutW.back st24 ?_
  show OutW _ _ _ _ _ _ _ (T24.setTop (mkF m 153 #[.val (.int p1), .val (.int p2), .val (.int p3), .unset, .unset] [(.ref b1)]))
  refine OutW.back (fun t k => XS.dup X24.here hx rfl (hb hby at_153) rfl rfl k) ?_
  show OutW _ _ _ _ _ _ _ (T24.setTop (mkF m 154 #[.val (.int p1), .val (.int p2), .val (.int p3), .unset, .unset] [(.ref b1), (.ref b1)]))
  refine OutW.back (fun t k => XS.bipush X24.here hx rfl (hb hby at_154) k) ?_
  show OutW _ _ _ _ _ _ _ (T24.setTop (mkF m 156 #[.val (.int p1), .val (.int p2), .val (.int p3), .unset, .unset] [(.int (23 : Int32)), (.ref b1), (.ref b1)]))
  refine OutW.back (X24.ldcInt hx hown (mvT hZ (hw _ (List.mem_of_getElem? (i := 1) rfl))) (g := (mkF m 156 #[.val (.int p1), .val (.int p2), .val (.int p3), .unset, .unset] [(.int (23 : Int32)), (.ref b1), (.ref b1)])) rfl (hb hby at_156)) ?_
  show OutW _ _ _ _ _ _ _ (T24.setTop (mkF m 158 #[.val (.int p1), .val (.int p2), .val (.int p3), .unset, .unset] [(.int (55296 : Int32)), (.int (23 : Int32)), (.ref b1), (.ref b1)]))
  obtain ⟨cl25, Ar25, Qk25, Sz25, Nn25, Hh25, Gg25⟩ := id V_b1_24
  have hin25 : ¬ ((23 : Int32) < 0 ∨ cl25.slots.size ≤ ((23 : Int32)).toNatClampNeg) := inb_of Sz25 ⟨by decide, by decide⟩
  obtain ⟨T25, h25, X25, e25, W25, st25⟩ := stI X24 hx hZ e24 Ar25 (j := (23 : Int32)) hin25 (g := (mkF m 158 #[.val (.int p1), .val (.int p2), .val (.int p3), .unset, .unset] [(.int (55296 : Int32)), (.int (23 : Int32)), (.ref b1), (.ref b1)])) rfl rfl (hb hby at_158)
  have V_b1_25 : Arv Z h25 b1 k1 .int (30 : Int32) [(.int (65 : Int32)), (.int (91 : Int32)), (.int (95 : Int32)), (.int (96 : Int32)), (.int (97 : Int32)), (.int (123 : Int32)), (.int (192 : Int32)), (.int (215 : Int32)), (.int (216 : Int32)), (.int (247 : Int32)), (.int (248 : Int32)), (.int (768 : Int32)), (.int (880 : Int32)), (.int (894 : Int32)), (.int (895 : Int32)), (.int (8192 : Int32)), (.int (8204 : Int32)), (.int (8206 : Int32)), (.int (8304 : Int32)), (.int (8592 : Int32)), (.int (11264 : Int32)), (.int (12272 : Int32)), (.int (12289 : Int32)), (.int (55296 : Int32)), (.int (0 : Int32)), (.int (0 : Int32)), (.int (0 : Int32)), (.int (0 : Int32)), (.int (0 : Int32)), (.int (0 : Int32))] (.int (0 : Int32)) := Arv.set Ar25 Qk25 Sz25 Nn25 Hh25 Gg25 rfl W25 23 rfl (Nat.le_of_ble_eq_true rfl)
  have N25 := Fr.snoc X25 N24 g_b1
  have Z25 : n0 ≤ h25.size := Nat.le_trans Z24 (Keep.of_wr W25).1
  have K25 := K24.wr W25 (Or.inr sz_b1)
  obtain ⟨lc25, X25, N25⟩ : ∃ lc, Stand p l e room_1 s m #[(.int p1), (.int p2), (.int p3)] below meth c T25 lc 1 30 ∧ Fr n0 lc := ⟨_, X25, N25⟩
  refine OutW.back st25 ?_
  show OutW _ _ _ _ _ _ _ (T25.setTop (mkF m 159 #[.val (.int p1), .val (.int p2), .val (.int p3), .unset, .unset] [(.ref b1)]))
  refine OutW.back (fun t k => XS.dup X25.here hx rfl (hb hby at_159) rfl rfl k) ?_
  show OutW _ _ _ _ _ _ _ (T25.setTop (mkF m 160 #[.val (.int p1), .val (.int p2), .val (.int p3), .unset, .unset] [(.ref b1), (.ref b1)]))
  refine OutW.back (fun t k => XS.bipush X25.here hx rfl (hb hby at_160) k) ?_
  show OutW _ _ _ _ _ _ _ (T25.setTop (mkF m 162 #[.val (.int p1), .val (.int p2), .val (.int p3), .unset, .unset] [(.int (24 : Int32)), (.ref b1), (.ref b1)]))
  refine OutW.back (X25.ldcInt hx hown (mvT hZ (hw _ (List.mem_of_getElem? (i := 2) rfl))) (g := (mkF m 162 #[.val (.int p1), .val (.int p2), .val (.int p3), .unset, .unset] [(.int (24 : Int32)), (.ref b1), (.ref b1)])) rfl (hb hby at_162)) ?_
  show OutW _ _ _ _ _ _ _ (T25.setTop (mkF m 164 #[.val (.int p1), .val (.int p2), .val (.int p3), .unset, .unset] [(.int (63744 : Int32)), (.int (24 : Int32)), (.ref b1), (.ref b1)]))
  obtain ⟨cl26, Ar26, Qk26, Sz26, Nn26, Hh26, Gg26⟩ := id V_b1_25
  have hin26 : ¬ ((24 : Int32) < 0 ∨ cl26.slots.size ≤ ((24 : Int32)).toNatClampNeg) := inb_of Sz26 ⟨by decide, by decide⟩
  obtain ⟨T26, h26, X26, e26, W26, st26⟩ := stI X25 hx hZ e25 Ar26 (j := (24 : Int32)) hin26 (g := (mkF m 164 #[.val (.int p1), .val (.int p2), .val (.int p3), .unset, .unset] [(.int (63744 : Int32)), (.int (24 : Int32)), (.ref b1), (.ref b1)])) rfl rfl (hb hby at_164)
  have V_b1_26 : Arv Z h26 b1 k1 .int (30 : Int32) [(.int (65 : Int32)), (.int (91 : Int32)), (.int (95 : Int32)), (.int (96 : Int32)), (.int (97 : Int32)), (.int (123 : Int32)), (.int (192 : Int32)), (.int (215 : Int32)), (.int (216 : Int32)), (.int (247 : Int32)), (.int (248 : Int32)), (.int (768 : Int32)), (.int (880 : Int32)), (.int (894 : Int32)), (.int (895 : Int32)), (.int (8192 : Int32)), (.int (8204 : Int32)), (.int (8206 : Int32)), (.int (8304 : Int32)), (.int (8592 : Int32)), (.int (11264 : Int32)), (.int (12272 : Int32)), (.int (12289 : Int32)), (.int (55296 : Int32)), (.int (63744 : Int32)), (.int (0 : Int32)), (.int (0 : Int32)), (.int (0 : Int32)), (.int (0 : Int32)), (.int (0 : Int32))] (.int (0 : Int32)) := Arv.set Ar26 Qk26 Sz26 Nn26 Hh26 Gg26 rfl W26 24 rfl (Nat.le_of_ble_eq_true rfl)
  have N26 := Fr.snoc X26 N25 g_b1
  have Z26 : n0 ≤ h26.size := Nat.le_trans Z25 (Keep.of_wr W26).1
  have K26 := K25.wr W26 (Or.inr sz_b1)
  obtain ⟨lc26, X26, N26⟩ : ∃ lc, Stand p l e room_1 s m #[(.int p1), (.int p2), (.int p3)] below meth c T26 lc 1 30 ∧ Fr n0 lc := ⟨_, X26, N26⟩
  refine OutW.back st26 ?_
  show OutW _ _ _ _ _ _ _ (T26.setTop (mkF m 165 #[.val (.int p1), .val (.int p2), .val (.int p3), .unset, .unset] [(.ref b1)]))
  refine OutW.back (fun t k => XS.dup X26.here hx rfl (hb hby at_165) rfl rfl k) ?_
  show OutW _ _ _ _ _ _ _ (T26.setTop (mkF m 166 #[.val (.int p1), .val (.int p2), .val (.int p3), .unset, .unset] [(.ref b1), (.ref b1)]))
  refine OutW.back (fun t k => XS.bipush X26.here hx rfl (hb hby at_166) k) ?_
  show OutW _ _ _ _ _ _ _ (T26.setTop (mkF m 168 #[.val (.int p1), .val (.int p2), .val (.int p3), .unset, .unset] [(.int (25 : Int32)), (.ref b1), (.ref b1)]))
  refine OutW.back (X26.ldcInt hx hown (mvT hZ (hw _ (List.mem_of_getElem? (i := 3) rfl))) (g := (mkF m 168 #[.val (.int p1), .val (.int p2), .val (.int p3), .unset, .unset] [(.int (25 : Int32)), (.ref b1), (.ref b1)])) rfl (hb hby at_168)) ?_
  show OutW _ _ _ _ _ _ _ (T26.setTop (mkF m 170 #[.val (.int p1), .val (.int p2), .val (.int p3), .unset, .unset] [(.int (64976 : Int32)), (.int (25 : Int32)), (.ref b1), (.ref b1)]))
  obtain ⟨cl27, Ar27, Qk27, Sz27, Nn27, Hh27, Gg27⟩ := id V_b1_26
  have hin27 : ¬ ((25 : Int32) < 0 ∨ cl27.slots.size ≤ ((25 : Int32)).toNatClampNeg) := inb_of Sz27 ⟨by decide, by decide⟩
  obtain ⟨T27, h27, X27, e27, W27, st27⟩ := stI X26 hx hZ e26 Ar27 (j := (25 : Int32)) hin27 (g := (mkF m 170 #[.val (.int p1), .val (.int p2), .val (.int p3), .unset, .unset] [(.int (64976 : Int32)), (.int (25 : Int32)), (.ref b1), (.ref b1)])) rfl rfl (hb hby at_170)
  have V_b1_27 : Arv Z h27 b1 k1 .int (30 : Int32) [(.int (65 : Int32)), (.int (91 : Int32)), (.int (95 : Int32)), (.int (96 : Int32)), (.int (97 : Int32)), (.int (123 : Int32)), (.int (192 : Int32)), (.int (215 : Int32)), (.int (216 : Int32)), (.int (247 : Int32)), (.int (248 : Int32)), (.int (768 : Int32)), (.int (880 : Int32)), (.int (894 : Int32)), (.int (895 : Int32)), (.int (8192 : Int32)), (.int (8204 : Int32)), (.int (8206 : Int32)), (.int (8304 : Int32)), (.int (8592 : Int32)), (.int (11264 : Int32)), (.int (12272 : Int32)), (.int (12289 : Int32)), (.int (55296 : Int32)), (.int (63744 : Int32)), (.int (64976 : Int32)), (.int (0 : Int32)), (.int (0 : Int32)), (.int (0 : Int32)), (.int (0 : Int32))] (.int (0 : Int32)) := Arv.set Ar27 Qk27 Sz27 Nn27 Hh27 Gg27 rfl W27 25 rfl (Nat.le_of_ble_eq_true rfl)
  have N27 := Fr.snoc X27 N26 g_b1
  have Z27 : n0 ≤ h27.size := Nat.le_trans Z26 (Keep.of_wr W27).1
  have K27 := K26.wr W27 (Or.inr sz_b1)
  obtain ⟨lc27, X27, N27⟩ : ∃ lc, Stand p l e room_1 s m #[(.int p1), (.int p2), (.int p3)] below meth c T27 lc 1 30 ∧ Fr n0 lc := ⟨_, X27, N27⟩
  refine OutW.back st27 ?_
  show OutW _ _ _ _ _ _ _ (T27.setTop (mkF m 171 #[.val (.int p1), .val (.int p2), .val (.int p3), .unset, .unset] [(.ref b1)]))
  refine OutW.back (fun t k => XS.dup X27.here hx rfl (hb hby at_171) rfl rfl k) ?_
  show OutW _ _ _ _ _ _ _ (T27.setTop (mkF m 172 #[.val (.int p1), .val (.int p2), .val (.int p3), .unset, .unset] [(.ref b1), (.ref b1)]))
  refine OutW.back (fun t k => XS.bipush X27.here hx rfl (hb hby at_172) k) ?_
  show OutW _ _ _ _ _ _ _ (T27.setTop (mkF m 174 #[.val (.int p1), .val (.int p2), .val (.int p3), .unset, .unset] [(.int (26 : Int32)), (.ref b1), (.ref b1)]))
  refine OutW.back (X27.ldcInt hx hown (mvT hZ (hw _ (List.mem_of_getElem? (i := 4) rfl))) (g := (mkF m 174 #[.val (.int p1), .val (.int p2), .val (.int p3), .unset, .unset] [(.int (26 : Int32)), (.ref b1), (.ref b1)])) rfl (hb hby at_174)) ?_
  show OutW _ _ _ _ _ _ _ (T27.setTop (mkF m 176 #[.val (.int p1), .val (.int p2), .val (.int p3), .unset, .unset] [(.int (65008 : Int32)), (.int (26 : Int32)), (.ref b1), (.ref b1)]))
  obtain ⟨cl28, Ar28, Qk28, Sz28, Nn28, Hh28, Gg28⟩ := id V_b1_27
  have hin28 : ¬ ((26 : Int32) < 0 ∨ cl28.slots.size ≤ ((26 : Int32)).toNatClampNeg) := inb_of Sz28 ⟨by decide, by decide⟩
  obtain ⟨T28, h28, X28, e28, W28, st28⟩ := stI X27 hx hZ e27 Ar28 (j := (26 : Int32)) hin28 (g := (mkF m 176 #[.val (.int p1), .val (.int p2), .val (.int p3), .unset, .unset] [(.int (65008 : Int32)), (.int (26 : Int32)), (.ref b1), (.ref b1)])) rfl rfl (hb hby at_176)
  have V_b1_28 : Arv Z h28 b1 k1 .int (30 : Int32) [(.int (65 : Int32)), (.int (91 : Int32)), (.int (95 : Int32)), (.int (96 : Int32)), (.int (97 : Int32)), (.int (123 : Int32)), (.int (192 : Int32)), (.int (215 : Int32)), (.int (216 : Int32)), (.int (247 : Int32)), (.int (248 : Int32)), (.int (768 : Int32)), (.int (880 : Int32)), (.int (894 : Int32)), (.int (895 : Int32)), (.int (8192 : Int32)), (.int (8204 : Int32)), (.int (8206 : Int32)), (.int (8304 : Int32)), (.int (8592 : Int32)), (.int (11264 : Int32)), (.int (12272 : Int32)), (.int (12289 : Int32)), (.int (55296 : Int32)), (.int (63744 : Int32)), (.int (64976 : Int32)), (.int (65008 : Int32)), (.int (0 : Int32)), (.int (0 : Int32)), (.int (0 : Int32))] (.int (0 : Int32)) := Arv.set Ar28 Qk28 Sz28 Nn28 Hh28 Gg28 rfl W28 26 rfl (Nat.le_of_ble_eq_true rfl)
  have N28 := Fr.snoc X28 N27 g_b1
  have Z28 : n0 ≤ h28.size := Nat.le_trans Z27 (Keep.of_wr W28).1
  have K28 := K27.wr W28 (Or.inr sz_b1)
  obtain ⟨lc28, X28, N28⟩ : ∃ lc, Stand p l e room_1 s m #[(.int p1), (.int p2), (.int p3)] below meth c T28 lc 1 30 ∧ Fr n0 lc := ⟨_, X28, N28⟩
  refine OutW.back st28 ?_
  show OutW _ _ _ _ _ _ _ (T28.setTop (mkF m 177 #[.val (.int p1), .val (.int p2), .val (.int p3), .unset, .unset] [(.ref b1)]))
  refine OutW.back (fun t k => XS.dup X28.here hx rfl (hb hby at_177) rfl rfl k) ?_
  show OutW _ _ _ _ _ _ _ (T28.setTop (mkF m 178 #[.val (.int p1), .val (.int p2), .val (.int p3), .unset, .unset] [(.ref b1), (.ref b1)]))
  refine OutW.back (fun t k => XS.bipush X28.here hx rfl (hb hby at_178) k) ?_
  show OutW _ _ _ _ _ _ _ (T28.setTop (mkF m 180 #[.val (.int p1), .val (.int p2), .val (.int p3), .unset, .unset] [(.int (27 : Int32)), (.ref b1), (.ref b1)]))
  refine OutW.back (X28.ldcInt hx hown (mvT hZ (hw _ (List.mem_of_getElem? (i := 5) rfl))) (g := (mkF m 180 #[.val (.int p1), .val (.int p2), .val (.int p3), .unset, .unset] [(.int (27 : Int32)), (.ref b1), (.ref b1)])) rfl (hb hby at_180)) ?_
  show OutW _ _ _ _ _ _ _ (T28.setTop (mkF m 182 #[.val (.int p1), .val (.int p2), .val (.int p3), .unset, .unset] [(.int (65534 : Int32)), (.int (27 : Int32)), (.ref b1), (.ref b1)]))
  obtain ⟨cl29, Ar29, Qk29, Sz29, Nn29, Hh29, Gg29⟩ := id V_b1_28
  have hin29 : ¬ ((27 : Int32) < 0 ∨ cl29.slots.size ≤ ((27 : Int32)).toNatClampNeg) := inb_of Sz29 ⟨by decide, by decide⟩
  obtain ⟨T29, h29, X29, e29, W29, st29⟩ := stI X28 hx hZ e28 Ar29 (j := (27 : Int32)) hin29 (g := (mkF m 182 #[.val (.int p1), .val (.int p2), .val (.int p3), .unset, .unset] [(.int (65534 : Int32)), (.int (27 : Int32)), (.ref b1), (.ref b1)])) rfl rfl (hb hby at_182)
  have V_b1_29 : Arv Z h29 b1 k1 .int (30 : Int32) [(.int (65 : Int32)), (.int (91 : Int32)), (.int (95 : Int32)), (.int (96 : Int32)), (.int (97 : Int32)), (.int (123 : Int32)), (.int (192 : Int32)), (.int (215 : Int32)), (.int (216 : Int32)), (.int (247 : Int32)), (.int (248 : Int32)), (.int (768 : Int32)), (.int (880 : Int32)), (.int (894 : Int32)), (.int (895 : Int32)), (.int (8192 : Int32)), (.int (8204 : Int32)), (.int (8206 : Int32)), (.int (8304 : Int32)), (.int (8592 : Int32)), (.int (11264 : Int32)), (.int (12272 : Int32)), (.int (12289 : Int32)), (.int (55296 : Int32)), (.int (63744 : Int32)), (.int (64976 : Int32)), (.int (65008 : Int32)), (.int (65534 : Int32)), (.int (0 : Int32)), (.int (0 : Int32))] (.int (0 : Int32)) := Arv.set Ar29 Qk29 Sz29 Nn29 Hh29 Gg29 rfl W29 27 rfl (Nat.le_of_ble_eq_true rfl)
  have N29 := Fr.snoc X29 N28 g_b1
  have Z29 : n0 ≤ h29.size := Nat.le_trans Z28 (Keep.of_wr W29).1
  have K29 := K28.wr W29 (Or.inr sz_b1)
  obtain ⟨lc29, X29, N29⟩ : ∃ lc, Stand p l e room_1 s m #[(.int p1), (.int p2), (.int p3)] below meth c T29 lc 1 30 ∧ Fr n0 lc := ⟨_, X29, N29⟩
  refine OutW.back st29 ?_
  show OutW _ _ _ _ _ _ _ (T29.setTop (mkF m 183 #[.val (.int p1), .val (.int p2), .val (.int p3), .unset, .unset] [(.ref b1)]))
  refine OutW.back (fun t k => XS.dup X29.here hx rfl (hb hby at_183) rfl rfl k) ?_
  show OutW _ _ _ _ _ _ _ (T29.setTop (mkF m 184 #[.val (.int p1), .val (.int p2), .val (.int p3), .unset, .unset] [(.ref b1), (.ref b1)]))
  refine OutW.back (fun t k => XS.bipush X29.here hx rfl (hb hby at_184) k) ?_
  show OutW _ _ _ _ _ _ _ (T29.setTop (mkF m 186 #[.val (.int p1), .val (.int p2), .val (.int p3), .unset, .unset] [(.int (28 : Int32)), (.ref b1), (.ref b1)]))
  refine OutW.back (X29.ldcInt hx hown (mvT hZ (hw _ (List.mem_of_getElem? (i := 6) rfl))) (g := (mkF m 186 #[.val (.int p1), .val (.int p2), .val (.int p3), .unset, .unset] [(.int (28 : Int32)), (.ref b1), (.ref b1)])) rfl (hb hby at_186)) ?_
  show OutW _ _ _ _ _ _ _ (T29.setTop (mkF m 188 #[.val (.int p1), .val (.int p2), .val (.int p3), .unset, .unset] [(.int (65536 : Int32)), (.int (28 : Int32)), (.ref b1), (.ref b1)]))
  obtain ⟨cl30, Ar30, Qk30, Sz30, Nn30, Hh30, Gg30⟩ := id V_b1_29
  have hin30 : ¬ ((28 : Int32) < 0 ∨ cl30.slots.size ≤ ((28 : Int32)).toNatClampNeg) := inb_of Sz30 ⟨by decide, by decide⟩
  obtain ⟨T30, h30, X30, e30, W30, st30⟩ := stI X29 hx hZ e29 Ar30 (j := (28 : Int32)) hin30 (g := (mkF m 188 #[.val (.int p1), .val (.int p2), .val (.int p3), .unset, .unset] [(.int (65536 : Int32)), (.int (28 : Int32)), (.ref b1), (.ref b1)])) rfl rfl (hb hby at_188)
  have V_b1_30 : Arv Z h30 b1 k1 .int (30 : Int32) [(.int (65 : Int32)), (.int (91 : Int32)), (.int (95 : Int32)), (.int (96 : Int32)), (.int (97 : Int32)), (.int (123 : Int32)), (.int (192 : Int32)), (.int (215 : Int32)), (.int (216 : Int32)), (.int (247 : Int32)), (.int (248 : Int32)), (.int (768 : Int32)), (.int (880 : Int32)), (.int (894 : Int32)), (.int (895 : Int32)), (.int (8192 : Int32)), (.int (8204 : Int32)), (.int (8206 : Int32)), (.int (8304 : Int32)), (.int (8592 : Int32)), (.int (11264 : Int32)), (.int (12272 : Int32)), (.int (12289 : Int32)), (.int (55296 : Int32)), (.int (63744 : Int32)), (.int (64976 : Int32)), (.int (65008 : Int32)), (.int (65534 : Int32)), (.int (65536 : Int32)), (.int (0 : Int32))] (.int (0 : Int32)) := Arv.set Ar30 Qk30 Sz30 Nn30 Hh30 Gg30 rfl W30 28 rfl (Nat.le_of_ble_eq_true rfl)
  have N30 := Fr.snoc X30 N29 g_b1
  have Z30 : n0 ≤ h30.size := Nat.le_trans Z29 (Keep.of_wr W30).1
  have K30 := K29.wr W30 (Or.inr sz_b1)
  obtain ⟨lc30, X30, N30⟩ : ∃ lc, Stand p l e room_1 s m #[(.int p1), (.int p2), (.int p3)] below meth c T30 lc 1 30 ∧ Fr n0 lc := ⟨_, X30, N30⟩
  refine OutW.back st30 ?_
  show OutW _ _ _ _ _ _ _ (T30.setTop (mkF m 189 #[.val (.int p1), .val (.int p2), .val (.int p3), .unset, .unset] [(.ref b1)]))
  refine OutW.back (fun t k => XS.dup X30.here hx rfl (hb hby at_189) rfl rfl k) ?_
  show OutW _ _ _ _ _ _ _ (T30.setTop (mkF m 190 #[.val (.int p1), .val (.int p2), .val (.int p3), .unset, .unset] [(.ref b1), (.ref b1)]))
  refine OutW.back (fun t k => XS.bipush X30.here hx rfl (hb hby at_190) k) ?_
  show OutW _ _ _ _ _ _ _ (T30.setTop (mkF m 192 #[.val (.int p1), .val (.int p2), .val (.int p3), .unset, .unset] [(.int (29 : Int32)), (.ref b1), (.ref b1)]))
  refine OutW.back (X30.ldcInt hx hown (mvT hZ (hw _ (List.mem_of_getElem? (i := 7) rfl))) (g := (mkF m 192 #[.val (.int p1), .val (.int p2), .val (.int p3), .unset, .unset] [(.int (29 : Int32)), (.ref b1), (.ref b1)])) rfl (hb hby at_192)) ?_
  show OutW _ _ _ _ _ _ _ (T30.setTop (mkF m 194 #[.val (.int p1), .val (.int p2), .val (.int p3), .unset, .unset] [(.int (983040 : Int32)), (.int (29 : Int32)), (.ref b1), (.ref b1)]))
  obtain ⟨cl31, Ar31, Qk31, Sz31, Nn31, Hh31, Gg31⟩ := id V_b1_30
  have hin31 : ¬ ((29 : Int32) < 0 ∨ cl31.slots.size ≤ ((29 : Int32)).toNatClampNeg) := inb_of Sz31 ⟨by decide, by decide⟩
  obtain ⟨T31, h31, X31, e31, W31, st31⟩ := stI X30 hx hZ e30 Ar31 (j := (29 : Int32)) hin31 (g := (mkF m 194 #[.val (.int p1), .val (.int p2), .val (.int p3), .unset, .unset] [(.int (983040 : Int32)), (.int (29 : Int32)), (.ref b1), (.ref b1)])) rfl rfl (hb hby at_194)
  have V_b1_31 : Arv Z h31 b1 k1 .int (30 : Int32) [(.int (65 : Int32)), (.int (91 : Int32)), (.int (95 : Int32)), (.int (96 : Int32)), (.int (97 : Int32)), (.int (123 : Int32)), (.int (192 : Int32)), (.int (215 : Int32)), (.int (216 : Int32)), (.int (247 : Int32)), (.int (248 : Int32)), (.int (768 : Int32)), (.int (880 : Int32)), (.int (894 : Int32)), (.int (895 : Int32)), (.int (8192 : Int32)), (.int (8204 : Int32)), (.int (8206 : Int32)), (.int (8304 : Int32)), (.int (8592 : Int32)), (.int (11264 : Int32)), (.int (12272 : Int32)), (.int (12289 : Int32)), (.int (55296 : Int32)), (.int (63744 : Int32)), (.int (64976 : Int32)), (.int (65008 : Int32)), (.int (65534 : Int32)), (.int (65536 : Int32)), (.int (983040 : Int32))] (.int (0 : Int32)) := Arv.set Ar31 Qk31 Sz31 Nn31 Hh31 Gg31 rfl W31 29 rfl (Nat.le_of_ble_eq_true rfl)
  have N31 := Fr.snoc X31 N30 g_b1
  have Z31 : n0 ≤ h31.size := Nat.le_trans Z30 (Keep.of_wr W31).1
  have K31 := K30.wr W31 (Or.inr sz_b1)
  obtain ⟨lc31, X31, N31⟩ : ∃ lc, Stand p l e room_1 s m #[(.int p1), (.int p2), (.int p3)] below meth c T31 lc 1 30 ∧ Fr n0 lc := ⟨_, X31, N31⟩
  refine OutW.back st31 ?_
  show OutW _ _ _ _ _ _ _ (T31.setTop (mkF m 195 #[.val (.int p1), .val (.int p2), .val (.int p3), .unset, .unset] [(.ref b1)]))
  refine OutW.back (fun t k => XS.astoreN X31.here hx rfl (hb hby at_195) rfl rfl (l' := #[.val (.int p1), .val (.int p2), .val (.int p3), .val (.ref b1), .unset]) rfl k) ?_
  show OutW _ _ _ _ _ _ _ (T31.setTop (mkF m 196 #[.val (.int p1), .val (.int p2), .val (.int p3), .val (.ref b1), .unset] []))
  refine OutW.back (fun t k => XS.aloadN X31.here hx rfl (hb hby at_196) rfl rfl  k) ?_
  show OutW _ _ _ _ _ _ _ (T31.setTop (mkF m 197 #[.val (.int p1), .val (.int p2), .val (.int p3), .val (.ref b1), .unset] [(.ref b1)]))
  refine OutW.back (fun t k => XS.iloadN X31.here hx rfl (hb hby at_197) rfl  k) ?_
  show OutW _ _ _ _ _ _ _ (T31.setTop (mkF m 198 #[.val (.int p1), .val (.int p2), .val (.int p3), .val (.ref b1), .unset] [(.int p2), (.ref b1)]))
  refine OutW.back (X31.ldcInt hx hown (mvT hZ (hw _ (List.mem_of_getElem? (i := 8) rfl))) (g := (mkF m 198 #[.val (.int p1), .val (.int p2), .val (.int p3), .val (.ref b1), .unset] [(.int p2), (.ref b1)])) rfl (hb hby at_198)) ?_
  show OutW _ _ _ _ _ _ _ (T31.setTop (mkF m 200 #[.val (.int p1), .val (.int p2), .val (.int p3), .val (.ref b1), .unset] [(.int (2147483647 : Int32)), (.int p2), (.ref b1)]))
  refine OutW.back (fun t k => XS.iand X31.here hx rfl (hb hby at_200) rfl k) ?_
  show OutW _ _ _ _ _ _ _ (T31.setTop (mkF m 201 #[.val (.int p1), .val (.int p2), .val (.int p3), .val (.ref b1), .unset] [(.int (p2 &&& (2147483647 : Int32))), (.ref b1)]))
  refine OutW.back (fun t k => XS.bipush X31.here hx rfl (hb hby at_201) k) ?_
  show OutW _ _ _ _ _ _ _ (T31.setTop (mkF m 203 #[.val (.int p1), .val (.int p2), .val (.int p3), .val (.ref b1), .unset] [(.int (30 : Int32)), (.int (p2 &&& (2147483647 : Int32))), (.ref b1)]))
  refine OutW.back (fun t k => iremM X31 hx rfl (hb hby at_203) rfl (by decide) k) ?_
  show OutW _ _ _ _ _ _ _ (T31.setTop (mkF m 204 #[.val (.int p1), .val (.int p2), .val (.int p3), .val (.ref b1), .unset] [(.int ((p2 &&& (2147483647 : Int32)) % (30 : Int32))), (.ref b1)]))
  have hin_204 : ¬ ((p2 &&& (2147483647 : Int32)) % (30 : Int32)) < 0 ∧ ((p2 &&& (2147483647 : Int32)) % (30 : Int32)) < (30 : Int32) := own_idx _
  obtain ⟨cl32, Ar32, Qk32, Sz32, Nn32, Hh32, Gg32⟩ := id V_b1_31
  have hin32 : ¬ (((p2 &&& (2147483647 : Int32)) % (30 : Int32)) < 0 ∨ cl32.slots.size ≤ (((p2 &&& (2147483647 : Int32)) % (30 : Int32))).toNatClampNeg) := inb_of Sz32 hin_204
  obtain ⟨wtab, hat_204⟩ : ∃ z : Int32, ([(.int (65 : Int32)), (.int (91 : Int32)), (.int (95 : Int32)), (.int (96 : Int32)), (.int (97 : Int32)), (.int (123 : Int32)), (.int (192 : Int32)), (.int (215 : Int32)), (.int (216 : Int32)), (.int (247 : Int32)), (.int (248 : Int32)), (.int (768 : Int32)), (.int (880 : Int32)), (.int (894 : Int32)), (.int (895 : Int32)), (.int (8192 : Int32)), (.int (8204 : Int32)), (.int (8206 : Int32)), (.int (8304 : Int32)), (.int (8592 : Int32)), (.int (11264 : Int32)), (.int (12272 : Int32)), (.int (12289 : Int32)), (.int (55296 : Int32)), (.int (63744 : Int32)), (.int (64976 : Int32)), (.int (65008 : Int32)), (.int (65534 : Int32)), (.int (65536 : Int32)), (.int (983040 : Int32))] : List Value).getD (((p2 &&& (2147483647 : Int32)) % (30 : Int32))).toNatClampNeg (.int (0 : Int32)) = .int z := ⟨_, own_getD [(65 : Int32), (91 : Int32), (95 : Int32), (96 : Int32), (97 : Int32), (123 : Int32), (192 : Int32), (215 : Int32), (216 : Int32), (247 : Int32), (248 : Int32), (768 : Int32), (880 : Int32), (894 : Int32), (895 : Int32), (8192 : Int32), (8204 : Int32), (8206 : Int32), (8304 : Int32), (8592 : Int32), (11264 : Int32), (12272 : Int32), (12289 : Int32), (55296 : Int32), (63744 : Int32), (64976 : Int32), (65008 : Int32), (65534 : Int32), (65536 : Int32), (983040 : Int32)] _ 0⟩
  refine OutW.back (X31.iaload hx (j := ((p2 &&& (2147483647 : Int32)) % (30 : Int32))) (v := (.int wtab)) (by rw [e31]; exact Ar32.1) (State.isArrayOf_alike hZ.alike Ar32.2.1) Ar32.2.2 hin32 (Hh32.at hin32 hat_204) (g := (mkF m 204 #[.val (.int p1), .val (.int p2), .val (.int p3), .val (.ref b1), .unset] [(.int ((p2 &&& (2147483647 : Int32)) % (30 : Int32))), (.ref b1)])) rfl rfl (hb hby at_204)) ?_
  show OutW _ _ _ _ _ _ _ (T31.setTop (mkF m 205 #[.val (.int p1), .val (.int p2), .val (.int p3), .val (.ref b1), .unset] [(.int wtab)]))
  refine OutW.back (fun t k => XS.iloadN X31.here hx rfl (hb hby at_205) rfl  k) ?_
  show OutW _ _ _ _ _ _ _ (T31.setTop (mkF m 206 #[.val (.int p1), .val (.int p2), .val (.int p3), .val (.ref b1), .unset] [(.int p3), (.int wtab)]))
  refine OutW.back (fun t k => XS.iconst X31.here hx rfl (hb hby at_206) k) ?_
  show OutW _ _ _ _ _ _ _ (T31.setTop (mkF m 207 #[.val (.int p1), .val (.int p2), .val (.int p3), .val (.ref b1), .unset] [(.int (3 : Int32)), (.int p3), (.int wtab)]))
  refine OutW.back (fun t k => XS.iand X31.here hx rfl (hb hby at_207) rfl k) ?_
  show OutW _ _ _ _ _ _ _ (T31.setTop (mkF m 208 #[.val (.int p1), .val (.int p2), .val (.int p3), .val (.ref b1), .unset] [(.int (p3 &&& (3 : Int32))), (.int wtab)]))
  refine OutW.back (fun t k => XS.iconst X31.here hx rfl (hb hby at_208) k) ?_
  show OutW _ _ _ _ _ _ _ (T31.setTop (mkF m 209 #[.val (.int p1), .val (.int p2), .val (.int p3), .val (.ref b1), .unset] [(.int (2 : Int32)), (.int (p3 &&& (3 : Int32))), (.int wtab)]))
  refine OutW.back (fun t k => XS.isub X31.here hx rfl (hb hby at_209) rfl k) ?_
  show OutW _ _ _ _ _ _ _ (T31.setTop (mkF m 210 #[.val (.int p1), .val (.int p2), .val (.int p3), .val (.ref b1), .unset] [(.int ((p3 &&& (3 : Int32)) - (2 : Int32))), (.int wtab)]))
  refine OutW.back (fun t k => XS.iadd X31.here hx rfl (hb hby at_210) rfl k) ?_
  show OutW _ _ _ _ _ _ _ (T31.setTop (mkF m 211 #[.val (.int p1), .val (.int p2), .val (.int p3), .val (.ref b1), .unset] [(.int (wtab + ((p3 &&& (3 : Int32)) - (2 : Int32))))]))
  generalize hv_v33 : (wtab + ((p3 &&& (3 : Int32)) - (2 : Int32))) = v33
  refine OutW.back (fun t k => XS.istore X31.here hx rfl (hb hby at_211) rfl (l' := #[.val (.int p1), .val (.int p2), .val (.int p3), .val (.ref b1), .val (.int v33)]) rfl k) ?_
  show OutW _ _ _ _ _ _ _ (T31.setTop (mkF m 213 #[.val (.int p1), .val (.int p2), .val (.int p3), .val (.ref b1), .val (.int v33)] []))
  refine OutW.back (fun t k => XS.iloadN X31.here hx rfl (hb hby at_213) rfl  k) ?_
  show OutW _ _ _ _ _ _ _ (T31.setTop (mkF m 214 #[.val (.int p1), .val (.int p2), .val (.int p3), .val (.ref b1), .val (.int v33)] [(.int p1)]))
  obtain ⟨_, _, ⟨T34, L34, k34, n34⟩, -, X34, ⟨Lc34, hQ34, l34, y34, z34⟩, st34⟩ := Jvm.LawKit.callS X31 hx (y := (⟨"com/example/xml_document_query/xmldocumentquery/value/XmlCharactersIsNCNameStartCharPinLaw", "agrees", "(I)Z"⟩ : MethodName)) hown (mvT hZ (hw _ (List.mem_of_getElem? (i := 9) rfl))) (mvT hZ (hw _ (List.mem_of_getElem? (i := 10) rfl))) (mvT hZ (hw _ (List.mem_of_getElem? (i := 11) rfl))) (mvT hZ (hw _ (List.mem_of_getElem? (i := 12) rfl))) (by decide) (backOf (W := 0) (rm1 l Z a0 hw [] p1 h31 n0 Z31) hZ (hw _ (List.mem_of_getElem? (i := 12) rfl)) (hw _ (List.mem_of_getElem? (i := 11) rfl)) (by decide) (by decide)) (g := (mkF m 214 #[.val (.int p1), .val (.int p2), .val (.int p3), .val (.ref b1), .val (.int v33)] [(.int p1)])) rfl (by rw [hml]; rfl) (argsL := [(.int p1)]) (rest := []) (lenOf pd_0 rfl) rfl (by show 2 * 0 + _ ≤ _; exact Nat.le_of_eq rfl) (hb hby at_214) (fun _ _ => ⟨rfl, e31, (by decide : 1 + 0 ≤ _), (by decide : 30 + 0 ≤ _)⟩)
  dsimp only [Pt.U, Pt.locs, Pt.cells, Pt.slots] at X34 l34 y34 z34 st34 hQ34
  subst l34 y34 z34
  obtain ⟨rfl, Nq34, e34⟩ := hQ34
  have N34 := Fr.app N31 Nq34
  obtain ⟨lc34, X34, N34⟩ : ∃ lc, Stand p l e room_1 s m #[(.int p1), (.int p2), (.int p3)] below meth c T34 lc 1 30 ∧ Fr n0 lc := ⟨_, X34, N34⟩
  refine OutW.back st34 ?_
  show OutW _ _ _ _ _ _ _ (T34.setTop (mkF m 217 #[.val (.int p1), .val (.int p2), .val (.int p3), .val (.ref b1), .val (.int v33)] [(.int (1 : Int32))]))
  refine OutW.back (fun t k => XS.ifNo X34.here hx rfl (hb hby at_217) rfl ((if0 _ _).trans (feq (by decide : ¬ ((1 : Int32) = (0 : Int32)))).1) k) ?_
  show OutW _ _ _ _ _ _ _ (T34.setTop (mkF m 220 #[.val (.int p1), .val (.int p2), .val (.int p3), .val (.ref b1), .val (.int v33)] []))
  refine OutW.back (fun t k => XS.iload X34.here hx rfl (hb hby at_220) rfl  k) ?_
  show OutW _ _ _ _ _ _ _ (T34.setTop (mkF m 222 #[.val (.int p1), .val (.int p2), .val (.int p3), .val (.ref b1), .val (.int v33)] [(.int v33)]))
  obtain ⟨_, _, ⟨T35, L35, k35, n35⟩, -, X35, ⟨Lc35, hQ35, l35, y35, z35⟩, st35⟩ := Jvm.LawKit.callS X34 hx (y := (⟨"com/example/xml_document_query/xmldocumentquery/value/XmlCharactersIsNCNameStartCharPinLaw", "agrees", "(I)Z"⟩ : MethodName)) hown (mvT hZ (hw _ (List.mem_of_getElem? (i := 9) rfl))) (mvT hZ (hw _ (List.mem_of_getElem? (i := 10) rfl))) (mvT hZ (hw _ (List.mem_of_getElem? (i := 11) rfl))) (mvT hZ (hw _ (List.mem_of_getElem? (i := 12) rfl))) (by decide) (backOf (W := 0) (rm1 l Z a0 hw [] v33 h31 n0 Z31) hZ (hw _ (List.mem_of_getElem? (i := 12) rfl)) (hw _ (List.mem_of_getElem? (i := 11) rfl)) (by decide) (by decide)) (g := (mkF m 222 #[.val (.int p1), .val (.int p2), .val (.int p3), .val (.ref b1), .val (.int v33)] [(.int v33)])) rfl (by rw [hml]; rfl) (argsL := [(.int v33)]) (rest := []) (lenOf pd_0 rfl) rfl (by show 2 * 0 + _ ≤ _; exact Nat.le_of_eq rfl) (hb hby at_222) (fun _ _ => ⟨rfl, e34, (by decide : 1 + 0 ≤ _), (by decide : 30 + 0 ≤ _)⟩)
  dsimp only [Pt.U, Pt.locs, Pt.cells, Pt.slots] at X35 l35 y35 z35 st35 hQ35
  subst l35 y35 z35
  obtain ⟨rfl, Nq35, e35⟩ := hQ35
  have N35 := Fr.app N34 Nq35
  obtain ⟨lc35, X35, N35⟩ : ∃ lc, Stand p l e room_1 s m #[(.int p1), (.int p2), (.int p3)] below meth c T35 lc 1 30 ∧ Fr n0 lc := ⟨_, X35, N35⟩
  refine OutW.back st35 ?_
  show OutW _ _ _ _ _ _ _ (T35.setTop (mkF m 225 #[.val (.int p1), .val (.int p2), .val (.int p3), .val (.ref b1), .val (.int v33)] [(.int (1 : Int32))]))
  refine OutW.back (fun t k => XS.ifNo X35.here hx rfl (hb hby at_225) rfl ((if0 _ _).trans (feq (by decide : ¬ ((1 : Int32) = (0 : Int32)))).1) k) ?_
  show OutW _ _ _ _ _ _ _ (T35.setTop (mkF m 228 #[.val (.int p1), .val (.int p2), .val (.int p3), .val (.ref b1), .val (.int v33)] []))
  refine OutW.back (fun t k => XS.iconst X35.here hx rfl (hb hby at_228) k) ?_
  show OutW _ _ _ _ _ _ _ (T35.setTop (mkF m 229 #[.val (.int p1), .val (.int p2), .val (.int p3), .val (.ref b1), .val (.int v33)] [(.int (1 : Int32))]))
  refine OutW.back (fun t k => XS.goto X35.here hx rfl (pc0 := 229) (pc' := 233) rfl (hb hby at_229) (by decide) (by decide) k) ?_
  show OutW _ _ _ _ _ _ _ (T35.setTop (mkF m 233 #[.val (.int p1), .val (.int p2), .val (.int p3), .val (.ref b1), .val (.int v33)] [(.int (1 : Int32))]))
  refine OutW.retN X35 hx (t := .boolean) (z' := 1) Bd.returns (by simp) hlk (hb hby at_233) ?hz (by decide) (by decide) ?_
  case hz =>
    rfl
  show Q0 Z p1 p2 p3 h0 n0 _ T35.heap _
  rw [e35]
  exact ⟨rfl, N35⟩
set_option maxRecDepth 65536 in
set_option maxHeartbeats 40000000 in
theorem comes_1 {Post : Tables → Env → Array Value → State → Outcome → State → Prop} (hpost : ∀ tb e args s v u, (limb_1_1.after args s (.returned v) u = true ∧ limb_1_2.after args s (.returned v) u = true ∧ True) → FrameEnd s (.returned v) u (Jvm.fieldLocs frame_1_writes args s ++ Jvm.arrayLocs frame_1_arrays args s ++ Jvm.staticLocs frame_1_statics s) 16 128 → Post tb e args s (.returned v) u) :
    ArmFor flags0 classFile x code maxLocals ret World_1 tables_1 room_1 Calls_1 rest_1 Pre_1 Post := by
  intro l hfl _ _ p e ha hc hk s m args below hf hA hF happ hP
  obtain ⟨hcalls, hrest, hpre⟩ := hP
  obtain ⟨-, -, -, hnamed, -, -, -, hat⟩ := (Spec.applies_iff hf).mp happ
  obtain ⟨hg, hn⟩ := and_e (Cond.before_iff.mp (show (Jvm.Cond.and given_1 narrow_1).before args s = true from hpre))
  obtain ⟨hcount, hg0⟩ := and_e hg
  obtain ⟨ga0, hg1⟩ := and_e hg0
  obtain ⟨ga1, hg2⟩ := and_e hg1
  have ga2 := hg2
  obtain ⟨w0, w1, w2, rfl⟩ : ∃ w0 w1 w2 : Value, args = #[w0, w1, w2] := by
    have hs : args.size = 3 := by simpa [Cond.value, given_1] using hcount
    obtain ⟨L⟩ := args
    match L, hs with
    | [w0, w1, w2], _ => exact ⟨w0, w1, w2, rfl⟩
  have hw := fun d (hd : d ∈ tables_1) => atoms_spec (ws := Jvm.Cond.code x code maxLocals ret :: tables_1) hat d (List.mem_cons_of_mem _ hd)
  obtain ⟨i0, ei0⟩ := is_v ga0
  obtain rfl : w0 = (.int i0) := Option.some.inj ei0
  obtain ⟨i1, ei1⟩ := is_v ga1
  obtain rfl : w1 = (.int i1) := Option.some.inj ei1
  obtain ⟨i2, ei2⟩ := is_v ga2
  obtain rfl : w2 = (.int i2) := Option.some.inj ei2
  obtain ⟨n, o, h1, h2, h3, _, L, rfl, ⟨rfl, N⟩, hq⟩ := rm0 l s _ hw tables_1 i0 i1 i2  s.heap s.heap.size (Nat.le_refl _)  p e ha hc hk s m _ below hf ((Spec.applies_iff_loose hf).mp happ).1 ⟨rfl, State.Warmed39.refl s, rfl⟩ trivial
  refine ⟨n, _, h1, h2, h3, hpost _ _ _ _ _ _ ⟨Cond.after_iff.mpr rfl, Cond.after_iff.mpr (eq_i res_at (Term.int_eval (1)) rfl), trivial⟩ ⟨hq.1, hq.2.1, (hq.2.2.sift fun y hy => Or.inr (N y hy)).mono (by decide) (by decide)⟩⟩
theorem main_1_1 : Claimed_1_1 := comes_1 fun _ _ _ _ _ _ h hF => ⟨h.1, hF⟩
theorem main_1_2 : Claimed_1_2 := comes_1 fun _ _ _ _ _ _ h hF => ⟨h.2.1, hF⟩
end Jvm.Pilot.@@N@@
namespace Jvm.Pilot.@@N@@
open Jvm Jvm.ClassFile Sem Op Lib Jvm.Free Jvm.Stand Jvm.Pilot.@@N@@.Jvm.D
/-! MADE BY PROGRAM (witnessworld.py) out of the Statement's table words and the real class files: 9 classes; the members and pool entries that the words name. The judged class is class 1, her method 3. -/
namespace start1
open Jvm.ClassFile
def u (s : String) : CpInfo := .utf8 (stringToUtf16 s)
/-- a pool by its gaps: so many unusable entries, then the entry; so many at the end -/
def gap : Nat → List CpInfo → List CpInfo
  | 0, r => r
  | n + 1, r => .unusable :: gap n r
def poolList (es : List (Nat × CpInfo)) (last : Nat) : List CpInfo := es.foldr (fun e r => gap e.1 (e.2 :: r)) (gap last [])
def pool (es : List (Nat × CpInfo)) (last : Nat) : Array CpInfo := ⟨poolList es last⟩
def fileOf (pool : Array CpInfo) (this : Nat) (attrs : Array Attribute := #[]) (ms : Array MethodInfo := #[]) (fl : Nat := 33) (sup : Nat := 0) (ifs : Array Nat := #[]) (fds : Array FieldInfo := #[]) : ClassFile where
  minorVersion := 0
  majorVersion := 65
  constantPool := pool
  accessFlags := fl
  thisClass := this
  superClass := sup
  interfaces := ifs
  fields := fds
  methods := ms
  attributes := attrs
def plain (name : String) (sup : Option ClassId) : Class where
  name := name
  kind := .ordinary
  loader := none
  accessFlags := 33
  super := sup
  interfaces := #[]
  cf := none
  fields := #[]
  methods := #[]
  instanceTypes := #[]
  staticTypes := #[]
  resolved := #[]
  callSites := []
  init := .initialized
  statics := none
  mirror := none

def pool0 : Array CpInfo := pool [(5, u "<init>"), (0, u "()V"), (1, .class_ 10), (1, u "java/lang/Object")] 113

def k0m0 : Method := { name := "<init>", desc := "()V", sig := { parameters := [], returnType := none }, accessFlags := 1, code := none }
/-- java/lang/Object -/
def k0 : Class := { plain "java/lang/Object" none with
  accessFlags := 33
  interfaces := #[]
  cf := some (fileOf pool0 8 #[] #[{ accessFlags := 1, nameIndex := 5, descriptorIndex := 6, attributes := #[] }] 33 0 #[] #[])
  fields := #[]
  methods := #[k0m0]
  instanceTypes := #[]
  staticTypes := #[]
  resolved := Array.replicate 124 none
  statics := none }

def pool1 : Array CpInfo := pool [(2, .class_ 4), (1, u "java/lang/Object"), (0, u "<init>"), (0, u "()V"), (0, .integer 983040), (0, .integer 55296), (0, .integer 63743), (0, .integer 64976), (0, .integer 65007), (0, .integer 65534), (0, .integer 65535), (0, .methodref 15 16), (0, .class_ 17), (0, .nameAndType 18 19), (0, u "com/example/xml_document_query/xmldocumentquery/value/XmlCharacters"), (0, u "isNCNameStartChar"), (0, u "(I)Z"), (0, .methodref 21 22), (0, .class_ 23), (0, .nameAndType 24 19), (0, u "com/example/xml_document_query/xmldocumentquery/value/XmlCharactersIsNCNameStartCharPinLaw"), (0, u "excluded"), (0, .integer 63744), (0, .integer 65008), (0, .integer 65536), (0, .integer 2147483647), (0, .methodref 21 30), (0, .nameAndType 31 19), (0, u "agrees"), (3, u "law"), (0, u "(III)Z")] 4

def k1m0 : Method := { name := "<init>", desc := "()V", sig := { parameters := [], returnType := none }, accessFlags := 1, code := none }
def k1c1 : Code := { maxStack := 2, maxLocals := 1, code := method_2_code, exceptionTable := #[], attributes := #[] }
def k1m1 : Method := { name := "excluded", desc := "(I)Z", sig := { parameters := [.int], returnType := some .boolean }, accessFlags := 10, code := some k1c1 }
def k1c2 : Code := { maxStack := 2, maxLocals := 1, code := method_3_code, exceptionTable := #[], attributes := #[] }
def k1m2 : Method := { name := "agrees", desc := "(I)Z", sig := { parameters := [.int], returnType := some .boolean }, accessFlags := 10, code := some k1c2 }
def k1c3 : Code := { maxStack := 4, maxLocals := 5, code := code, exceptionTable := #[], attributes := #[] }
def k1m3 : Method := { name := "law", desc := "(III)Z", sig := { parameters := [.int, .int, .int], returnType := some .boolean }, accessFlags := 9, code := some k1c3 }
/-- com/example/xml_document_query/xmldocumentquery/value/XmlCharactersIsNCNameStartCharPinLaw -/
def k1 : Class := { plain "com/example/xml_document_query/xmldocumentquery/value/XmlCharactersIsNCNameStartCharPinLaw" (some 0) with
  accessFlags := 49
  interfaces := #[]
  cf := some (fileOf pool1 21 #[] #[{ accessFlags := 1, nameIndex := 5, descriptorIndex := 6, attributes := #[] }, { accessFlags := 10, nameIndex := 24, descriptorIndex := 19, attributes := #[] }, { accessFlags := 10, nameIndex := 31, descriptorIndex := 19, attributes := #[] }, { accessFlags := 9, nameIndex := 35, descriptorIndex := 36, attributes := #[] }] 49 2 #[] #[])
  fields := #[]
  methods := #[k1m0, k1m1, k1m2, k1m3]
  instanceTypes := #[]
  staticTypes := #[]
  resolved := Array.replicate 41 none
  statics := none }

def pool2 : Array CpInfo := pool [(2, .class_ 4), (1, u "java/lang/Object"), (0, u "<init>"), (0, u "()V"), (0, .integer 55295), (0, .integer 63744), (0, .integer 64975), (0, .integer 65008), (0, .integer 65533), (0, .integer 65536), (0, .integer 983039), (1, .class_ 17), (1, u "com/example/xml_document_query/xmldocumentquery/value/XmlCharacters"), (0, u "isNCNameStartChar"), (0, u "(I)Z")] 63

def k2m0 : Method := { name := "<init>", desc := "()V", sig := { parameters := [], returnType := none }, accessFlags := 2, code := none }
def k2c1 : Code := { maxStack := 2, maxLocals := 1, code := prog_233_method_3_code, exceptionTable := #[], attributes := #[] }
def k2m1 : Method := { name := "isNCNameStartChar", desc := "(I)Z", sig := { parameters := [.int], returnType := some .boolean }, accessFlags := 9, code := some k2c1 }
/-- com/example/xml_document_query/xmldocumentquery/value/XmlCharacters -/
def k2 : Class := { plain "com/example/xml_document_query/xmldocumentquery/value/XmlCharacters" (some 0) with
  accessFlags := 49
  interfaces := #[]
  cf := some (fileOf pool2 15 #[] #[{ accessFlags := 2, nameIndex := 5, descriptorIndex := 6, attributes := #[] }, { accessFlags := 9, nameIndex := 18, descriptorIndex := 19, attributes := #[] }] 49 2 #[] #[])
  fields := #[]
  methods := #[k2m0, k2m1]
  instanceTypes := #[]
  staticTypes := #[]
  resolved := Array.replicate 83 none
  statics := none }

def pool3 : Array CpInfo := pool [(1, u "java/lang/Cloneable"), (0, .class_ 1), (0, u "java/lang/Object"), (0, .class_ 3)] 3

/-- java/lang/Cloneable -/
def k3 : Class := { plain "java/lang/Cloneable" (some 0) with
  accessFlags := 1537
  interfaces := #[]
  cf := some (fileOf pool3 2 #[] #[] 1537 4 #[] #[])
  fields := #[]
  methods := #[]
  instanceTypes := #[]
  staticTypes := #[]
  resolved := Array.replicate 8 none
  statics := none }

def pool4 : Array CpInfo := pool [(1, u "java/io/Serializable"), (0, .class_ 1), (0, u "java/lang/Object"), (0, .class_ 3)] 3

/-- java/io/Serializable -/
def k4 : Class := { plain "java/io/Serializable" (some 0) with
  accessFlags := 1537
  interfaces := #[]
  cf := some (fileOf pool4 2 #[] #[] 1537 4 #[] #[])
  fields := #[]
  methods := #[]
  instanceTypes := #[]
  staticTypes := #[]
  resolved := Array.replicate 8 none
  statics := none }

/-- the primitive byte -/
def k5 : Class := { plain "byte" none with kind := .primitive 'B', accessFlags := 0x411 }
/-- [B -/
def k6 : Class := { plain "[B" (some 0) with kind := .array 5 .byte, interfaces := #[3, 4], accessFlags := 1041 }

/-- the primitive int -/
def k7 : Class := { plain "int" none with kind := .primitive 'I', accessFlags := 0x411 }
/-- [I -/
def k8 : Class := { plain "[I" (some 0) with kind := .array 7 .int, interfaces := #[3, 4], accessFlags := 1041 }

def heap : Heap := #[]
def classes : Array Class := #[k0, k1, k2, k3, k4, k5, k6, k7, k8]
def interned : List (Array UInt16 × Addr) := []
def slotsUsed : Nat := 0
def theMethod : MethodId := ⟨1, 3⟩
def args0 : Array Value := #[.int 5, .int 6, .int 7]
def aboutOver (below : List Frame) : State where
  vm := { classes := classes, interned := interned.toArray }
  heap := heap
  slotsUsed := slotsUsed
  threads := #[{ frames := .invoking theMethod args0 :: below }]
def below0 : List Frame := [.native { method := ⟨0, 0⟩, args := #[] }]
def about1 : State := aboutOver below0
def p0 : Program := .bare "" "" ""
def e0 : Env := launch0.env 0 0 0
theorem w_frames : about1.frames = Frame.invoking theMethod args0 :: below0 := rfl
set_option maxRecDepth 65536 in
theorem w_args : argsFit about1.vm theMethod args0 = true := by decide +kernel
set_option maxRecDepth 65536 in
theorem w_heap : heapFits about1 = true := by decide +kernel
set_option maxRecDepth 65536 in
theorem w_runnable : about1.curStatus? = some .runnable := by decide +kernel
set_option maxRecDepth 65536 in
theorem w_alone : about1.alone = true := by decide +kernel
set_option maxRecDepth 65536 in
theorem w_named : about1.methodNamed? x = some theMethod := by decide +kernel
set_option maxRecDepth 65536 in
theorem w_hears : about1.hears theMethod below0 = true := by decide +kernel
set_option maxRecDepth 65536 in
theorem w_ripe : about1.ripe theMethod args0 below0 = true := by decide +kernel
theorem w_running : about1.status = .running := rfl
set_option maxRecDepth 65536 in
theorem w_room : about1.hasRoom e0.platform room_1 = true :=
  launch0.hasRoom_least _ room_1 (by decide +kernel) (by decide +kernel) (by decide +kernel) (by decide +kernel) (by decide +kernel) (by decide +kernel)
theorem allAtoms_all (ts : List Jvm.Cond) (a : Array Jvm.Value) (st : Jvm.State) : (allAtoms ts).before a st = ts.all (fun c => c.before a st) := by
  induction ts with
  | nil => rfl
  | cons c t ih =>
    show (Jvm.Cond.and c (allAtoms t)).before a st = _
    rw [Jvm.Cond.before_and, ih, List.all_cons]
def words1 : List Jvm.Cond := Jvm.Cond.code x code maxLocals ret :: tables_1
/-- a 'code' word, met by the world's own term for the bytes: nothing is compared byte by byte -/
theorem code_word {y : MethodName} {bytes : ByteArray} {mx : Nat} {rt : Option FieldType} {a : Array Value} {s : State} {m : MethodId} {meth : Method} {c : Code} (h1 : s.methodNamed? y = some m) (h2 : s.vm.method? m = some meth) (h3 : meth.code = some c) (h4 : c.code = bytes)
    (h5 : (c.maxLocals == mx && c.exceptionTable.isEmpty && decide (c.maxStack ≤ mostOperands) && decide (meth.sig.returnType = rt) && !meth.locks && decide (parseMethodDescriptor y.desc = some meth.sig)) = true) : (Jvm.Cond.code y bytes mx rt).before a s = true := by
  simp only [Bool.and_eq_true, beq_iff_eq, Bool.not_eq_true', decide_eq_true_eq] at h5
  obtain ⟨⟨⟨⟨⟨g1, g2⟩, g3⟩, g4⟩, g5⟩, g6⟩ := h5
  simp [Cond.before, Cond.holds, Cond.value, h1, h2, h3, h4, g1, g2, g3, g4, g5, g6]
def isCode : Jvm.Cond → Bool
  | .code _ _ _ _ => true
  | _ => false
theorem all_split {L : List Jvm.Cond} {P : Jvm.Cond → Bool} (h1 : L.all (fun c => isCode c || P c) = true) (h2 : ∀ c ∈ L.filter isCode, P c = true) : L.all P = true := by
  refine List.all_eq_true.mpr fun c hc => ?_
  have h := List.all_eq_true.mp h1 c hc
  rcases Bool.eq_false_or_eq_true (isCode c) with hi | hi
  · exact h2 c (List.mem_filter.mpr ⟨hc, hi⟩)
  · simpa [hi] using h
set_option maxRecDepth 65536 in
theorem w_c0 : (Jvm.Cond.code x code maxLocals ret).before args0 about1 = true := code_word (m := ⟨1, 3⟩) (meth := k1m3) (c := k1c3) (by decide +kernel) rfl rfl rfl (by decide +kernel)
set_option maxRecDepth 65536 in
theorem w_c1 : (Jvm.Cond.code ({ cls := "com/example/xml_document_query/xmldocumentquery/value/XmlCharactersIsNCNameStartCharPinLaw", name := "agrees", desc := "(I)Z" } : Jvm.MethodName) method_3_code (1 : Nat) (Option.some Jvm.ClassFile.FieldType.boolean)).before args0 about1 = true := code_word (m := ⟨1, 2⟩) (meth := k1m2) (c := k1c2) (by decide +kernel) rfl rfl rfl (by decide +kernel)
set_option maxRecDepth 65536 in
theorem w_c2 : (Jvm.Cond.code ({ cls := "com/example/xml_document_query/xmldocumentquery/value/XmlCharacters", name := "isNCNameStartChar", desc := "(I)Z" } : Jvm.MethodName) prog_233_method_3_code (1 : Nat) (Option.some Jvm.ClassFile.FieldType.boolean)).before args0 about1 = true := code_word (m := ⟨2, 1⟩) (meth := k2m1) (c := k2c1) (by decide +kernel) rfl rfl rfl (by decide +kernel)
set_option maxRecDepth 65536 in
theorem w_c3 : (Jvm.Cond.code ({ cls := "com/example/xml_document_query/xmldocumentquery/value/XmlCharactersIsNCNameStartCharPinLaw", name := "excluded", desc := "(I)Z" } : Jvm.MethodName) method_2_code (1 : Nat) (Option.some Jvm.ClassFile.FieldType.boolean)).before args0 about1 = true := code_word (m := ⟨1, 1⟩) (meth := k1m1) (c := k1c1) (by decide +kernel) rfl rfl rfl (by decide +kernel)
def codes1 : List Jvm.Cond := [Jvm.Cond.code x code maxLocals ret, Jvm.Cond.code ({ cls := "com/example/xml_document_query/xmldocumentquery/value/XmlCharactersIsNCNameStartCharPinLaw", name := "agrees", desc := "(I)Z" } : Jvm.MethodName) method_3_code (1 : Nat) (Option.some Jvm.ClassFile.FieldType.boolean), Jvm.Cond.code ({ cls := "com/example/xml_document_query/xmldocumentquery/value/XmlCharacters", name := "isNCNameStartChar", desc := "(I)Z" } : Jvm.MethodName) prog_233_method_3_code (1 : Nat) (Option.some Jvm.ClassFile.FieldType.boolean), Jvm.Cond.code ({ cls := "com/example/xml_document_query/xmldocumentquery/value/XmlCharactersIsNCNameStartCharPinLaw", name := "excluded", desc := "(I)Z" } : Jvm.MethodName) method_2_code (1 : Nat) (Option.some Jvm.ClassFile.FieldType.boolean)]
set_option maxRecDepth 65536 in
theorem codes_eq : words1.filter isCode = codes1 := rfl
theorem w_codes : ∀ c ∈ words1.filter isCode, c.before args0 about1 = true := by
  rw [codes_eq]
  intro c hc
  simp only [codes1, List.mem_cons, List.not_mem_nil, or_false] at hc
  rcases hc with rfl | rfl | rfl | rfl
  · exact w_c0
  · exact w_c1
  · exact w_c2
  · exact w_c3
set_option maxRecDepth 65536 in
theorem w_t1 : (words1.take 24).all (fun c => isCode c || c.before args0 about1) = true := by decide +kernel
set_option maxRecDepth 65536 in
theorem w_t2 : (words1.drop 24).all (fun c => isCode c || c.before args0 about1) = true := by decide +kernel
theorem w_tables : (allAtoms (Jvm.Cond.code x code maxLocals ret :: tables_1)).before args0 about1 = true := by
  rw [allAtoms_all]
  show words1.all (fun c => c.before args0 about1) = true
  refine all_split ?_ w_codes
  rw [← List.take_append_drop 24 words1, List.all_append, w_t1, w_t2]
  rfl
set_option maxRecDepth 65536 in
theorem w_case : (Jvm.Cond.and given_1 narrow_1).before args0 about1 = true := by decide +kernel
theorem w_applies : (headSpec (Jvm.Cond.code x code maxLocals ret :: tables_1) room_1).applies x e0.platform about1 = true :=
  (Spec.applies_iff w_frames).mpr ⟨w_running, w_runnable, w_alone, w_named, w_hears, w_ripe, w_room, w_tables⟩
theorem atStart : AtStart classFile x code maxLocals ret World_1 tables_1 room_1 Calls_1 rest_1 Pre_1 launch0 p0 e0 about1 theMethod args0 below0 :=
  ⟨lists_1, trivial, launch0.admits_env _ _ _, launch0.least_env, fairChoices_fair.cas, fairChoices_fair.clock, w_frames, w_args, w_heap, w_applies, trivial, trivial, w_case⟩
end start1
theorem witness_1 : WitnessClaimed_1 := ⟨start1.p0, start1.e0, start1.about1, start1.theMethod, start1.args0, start1.below0, start1.atStart⟩
end Jvm.Pilot.@@N@@
