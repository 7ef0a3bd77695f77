import JvmDerived
import JvmDerived.Pilot.@@N@@Statement
import JvmDerived.Pilot.@@N@@Code
set_option linter.unusedVariables false
set_option linter.unusedSimpArgs false
@@BLOCK:NumsL.lean.txt@@
namespace Jvm.Pilot.@@N@@
open Jvm Jvm.ClassFile Sem Op Lib Jvm.Free Jvm.Stand Jvm.LawKit Jvm.RoadKit Bundle Jvm.Pilot.@@N@@.Jvm.D
section OwnKit
variable {p : Program} {l : Launch} {e : Env} {R : Room} {s : State} {m : MethodId} {args : Array Value} {below : List Frame} {meth : Method} {c : Code} {T : State} {locs : List Loc} {cells slots : Nat} {n0 cc nn : Nat} {K : Option Value → Heap → Prop} {P : Heap → Prop} {A B : State}
/-- what a contract says of the value, the heap and the places written -/
def QK (n0 : Nat) (K : Option Value → Heap → Prop) (v : Option Value) (h : Heap) (L : List Loc) : Prop := K v h ∧ Fr n0 L
def Kv (w : Option Value) (P : Heap → Prop) (v : Option Value) (h : Heap) : Prop := v = w ∧ P h
/-- from A the run comes to this body's end, and K holds there -/
def Gl (p : Program) (e : Env) (below : List Frame) (s : State) (n0 cc nn : Nat) (K : Option Value → Heap → Prop) (A : State) : Prop :=
  ∃ t o, Steps p.tables e below A t ∧ t.status = .running ∧ Ended t below o ∧ ∃ v L, o = .returned v ∧ QK n0 K v t.heap L ∧ FrameEnd s o t L cc nn
theorem go (st : ∀ t, Steps p.tables e below B t → Steps p.tables e below A t) (h : Gl p e below s n0 cc nn K B) : Gl p e below s n0 cc nn K A := by
  obtain ⟨t, o, h1, h2⟩ := h; exact ⟨t, o, st t h1, h2⟩
theorem gl_start {g g' : JFrame} (q : g = g') (h : Gl p e below s n0 cc nn K (T.setTop g')) :
    ∃ t o, Steps p.tables e below (T.setTop g) t ∧ t.status = .running ∧ Ended t below o ∧ ∃ v L, o = .returned v ∧ QK n0 K v t.heap L ∧ FrameEnd s o t L cc nn := by
  subst q; exact h
theorem gI {c : Prop} [Decidable c] {a b : Int32} (h1 : c → Gl p e below s n0 cc nn (Kv (some (.int a)) P) A) (h2 : ¬ c → Gl p e below s n0 cc nn (Kv (some (.int b)) P) A) : Gl p e below s n0 cc nn (Kv (some (.int (if c then a else b))) P) A := by
  by_cases h : c
  · rw [if_pos h]; exact h1 h
  · rw [if_neg h]; exact h2 h
theorem gJ {c : Prop} [Decidable c] {a b : Int64} (h1 : c → Gl p e below s n0 cc nn (Kv (some (.long a)) P) A) (h2 : ¬ c → Gl p e below s n0 cc nn (Kv (some (.long b)) P) A) : Gl p e below s n0 cc nn (Kv (some (.long (if c then a else b))) P) A := by
  by_cases h : c
  · rw [if_pos h]; exact h1 h
  · rw [if_neg h]; exact h2 h
theorem gR {c : Prop} [Decidable c] {a b : Addr} (h1 : c → Gl p e below s n0 cc nn (Kv (some (.ref a)) P) A) (h2 : ¬ c → Gl p e below s n0 cc nn (Kv (some (.ref b)) P) A) : Gl p e below s n0 cc nn (Kv (some (.ref (if c then a else b))) P) A := by
  by_cases h : c
  · rw [if_pos h]; exact h1 h
  · rw [if_neg h]; exact h2 h
theorem gV {c : Prop} [Decidable c] (h1 : c → Gl p e below s n0 cc nn K A) (h2 : ¬ c → Gl p e below s n0 cc nn K A) : Gl p e below s n0 cc nn K A := by
  by_cases h : c
  · exact h1 h
  · exact h2 h
variable {x : MethodName} {S : Spec} {code' : ByteArray} {ml : Nat} {s₁ : State} {pc : Nat} {Ls : Array Slot} {rest : List Value}
theorem endN (X : Stand p l e R s m args below meth c T locs cells slots) (hx : p.tables.exec = Jvm.exec) {t : FieldType} (Bd : BodyLoose p l x S code' ml (some t) e s m args below meth c s₁) (ht : t = .boolean ∨ t = .byte ∨ t = .char ∨ t = .short) {z : Int32}
    (hd : decode c.code pc = .ok (.ireturn, 1)) (hK : K (some (.int (nar t z))) T.heap) (N : Fr n0 locs) (hc : cells ≤ cc) (hs : slots ≤ nn) : Gl p e below s n0 cc nn K (T.setTop (mkF m pc Ls (.int z :: rest))) := by
  obtain ⟨fs, hr, hrun, hended, hW, hsame⟩ := X.leave (v := some (.int (nar t z))) (fun h => by rw [Bd.returns] at h; cases h)
  exact ⟨_, _, retN X hx Bd.returns ht hd hr, hrun, hended, _, _, rfl, ⟨hK, N⟩, ⟨_, rfl⟩, hW, hsame.mono hc hs⟩
theorem endO (X : Stand p l e R s m args below meth c T locs cells slots) (hx : p.tables.exec = Jvm.exec) {t : FieldType} (Bd : BodyLoose p l x S code' ml (some t) e s m args below meth c s₁) {w : Value} {i : Instr} (hn : narrow t w = w)
    (hi : (i = .ireturn ∧ (t = .int ∨ t = .boolean ∨ t = .byte ∨ t = .char ∨ t = .short) ∧ ∃ z, w = .int z) ∨ (i = .lreturn ∧ t = .long ∧ ∃ z, w = .long z) ∨ (i = .dreturn ∧ t = .double ∧ ∃ z, w = .double z) ∨ (i = .freturn ∧ t = .float ∧ ∃ z, w = .float z) ∨ (i = .areturn ∧ t.isReference = true ∧ w.isRef = true))
    (hd : decode c.code pc = .ok (i, 1)) (hK : K (some w) T.heap) (N : Fr n0 locs) (hc : cells ≤ cc) (hs : slots ≤ nn) : Gl p e below s n0 cc nn K (T.setTop (mkF m pc Ls (w :: rest))) := by
  obtain ⟨fs, hr, hrun, hended, hW, hsame⟩ := X.leave (v := some w) (fun h => by rw [Bd.returns] at h; cases h)
  exact ⟨_, _, retOut X hx Bd.returns hn hi hd hr, hrun, hended, _, _, rfl, ⟨hK, N⟩, ⟨_, rfl⟩, hW, hsame.mono hc hs⟩
theorem endI (X : Stand p l e R s m args below meth c T locs cells slots) (hx : p.tables.exec = Jvm.exec) (Bd : BodyLoose p l x S code' ml (some .int) e s m args below meth c s₁) {z : Int32}
    (hd : decode c.code pc = .ok (.ireturn, 1)) (hK : K (some (.int z)) T.heap) (N : Fr n0 locs) (hc : cells ≤ cc) (hs : slots ≤ nn) : Gl p e below s n0 cc nn K (T.setTop (mkF m pc Ls (.int z :: rest))) :=
  endO X hx Bd rfl (Or.inl ⟨rfl, Or.inl rfl, z, rfl⟩) hd hK N hc hs
theorem endJ (X : Stand p l e R s m args below meth c T locs cells slots) (hx : p.tables.exec = Jvm.exec) (Bd : BodyLoose p l x S code' ml (some .long) e s m args below meth c s₁) {z : Int64}
    (hd : decode c.code pc = .ok (.lreturn, 1)) (hK : K (some (.long z)) T.heap) (N : Fr n0 locs) (hc : cells ≤ cc) (hs : slots ≤ nn) : Gl p e below s n0 cc nn K (T.setTop (mkF m pc Ls (.long z :: rest))) :=
  endO X hx Bd rfl (Or.inr (Or.inl ⟨rfl, rfl, z, rfl⟩)) hd hK N hc hs
theorem endR (X : Stand p l e R s m args below meth c T locs cells slots) (hx : p.tables.exec = Jvm.exec) {t : FieldType} (Bd : BodyLoose p l x S code' ml (some t) e s m args below meth c s₁) (ht : t.isReference = true) {a : Addr}
    (hd : decode c.code pc = .ok (.areturn, 1)) (hK : K (some (.ref a)) T.heap) (N : Fr n0 locs) (hc : cells ≤ cc) (hs : slots ≤ nn) : Gl p e below s n0 cc nn K (T.setTop (mkF m pc Ls (.ref a :: rest))) :=
  endO X hx Bd (by cases t <;> first | rfl | cases ht) (Or.inr (Or.inr (Or.inr (Or.inr ⟨rfl, ht, rfl⟩)))) hd hK N hc hs
theorem endV (X : Stand p l e R s m args below meth c T locs cells slots) (hx : p.tables.exec = Jvm.exec) (Bd : BodyLoose p l x S code' ml none e s m args below meth c s₁)
    (hd : decode c.code pc = .ok (.return_, 1)) (hK : K none T.heap) (N : Fr n0 locs) (hc : cells ≤ cc) (hs : slots ≤ nn) : Gl p e below s n0 cc nn K (T.setTop (mkF m pc Ls [])) := by
  obtain ⟨fs, hr, hrun, hended, hW, hsame⟩ := X.leave (v := none) (fun _ => rfl)
  exact ⟨_, _, X.returnOut hx Bd.returns hd hr, hrun, hended, _, _, rfl, ⟨hK, N⟩, ⟨_, rfl⟩, hW, hsame.mono hc hs⟩
theorem lremM {g : JFrame} {target : State} (X : Stand p l e R s m args below meth c T locs cells slots) (hx : p.tables.exec = Jvm.exec) (hg : g.method = m) {x y : Int64} {rest : List Value} (hd : decode c.code g.pc = .ok (.lrem, 1)) (hs : g.stack = .long y :: .long x :: rest) (hy : y ≠ 0)
    (hr : Steps p.tables e below (T.setTop { g with pc := g.pc + 1, stack := .long (x % y) :: rest }) target) : Steps p.tables e below (T.setTop g) target := by
  have q := lrem_mod x y
  exact XS.lrem X.here hx hg hd hs hy (by rw [q]; exact hr)
theorem sta_keep {Z : State} {h h' : Heap} {a : Addr} {C n d D : String} {w : Value} (F : Sta Z h C n d w) (Kp : Keep h h' [a]) (E : Exa Z h a D) : Sta Z h' C n d w := by
  obtain ⟨cf, i, k, f, st, cell, h1, h2, h3, h4, h5, h6, h7⟩ := F
  obtain ⟨cell', k', e1, -, -, e4, -⟩ := E
  refine ⟨cf, i, k, f, st, cell, h1, h2, h3, h4, Kp.2.1 st cell h5 (ninS (fun q => ?_) nin0), h6, h7⟩
  subst q; cases h5.symm.trans e1; rw [h6] at e4; cases e4
theorem sta_keepN {Z : State} {h h' : Heap} {ws : List Addr} {C n d : String} {w : Value} (F : Sta Z h C n d w) (Kp : Keep h h' ws) (hn : ∀ x ∈ ws, ∀ cell : Cell, h[x]? = some cell → cell.vm.isStatics = false) : Sta Z h' C n d w := by
  obtain ⟨cf, i, k, f, st, cell, h1, h2, h3, h4, h5, h6, h7⟩ := F
  refine ⟨cf, i, k, f, st, cell, h1, h2, h3, h4, Kp.2.1 st cell h5 (fun q => ?_), h6, h7⟩
  have := hn st q cell h5
  rw [h6] at this; cases this
theorem sta_keep0 {Z : State} {h h' : Heap} {C n d : String} {w : Value} (F : Sta Z h C n d w) (Kp : Keep h h' []) : Sta Z h' C n d w := by
  obtain ⟨cf, i, k, f, st, cell, h1, h2, h3, h4, h5, h6, h7⟩ := F
  exact ⟨cf, i, k, f, st, cell, h1, h2, h3, h4, Kp.2.1 st cell h5 nin0, h6, h7⟩
theorem sel_priv {Z s : State} {a0 args : Array Value} {y : MethodName} {n : Nat} (hZ : Z.Warmed39 s.vm) (wi : (Cond.instantiable y.cls n).before a0 Z = true) (wp : (Cond.privateMethod y).before a0 Z = true) (wm : (Cond.instanceMethod y).before a0 Z = true) (hy : y.cls ≠ "java/lang/invoke/MethodHandle" ∧ y.cls ≠ "java/lang/invoke/VarHandle") : (Cond.selects y.cls y y).before args s = true := by
  obtain ⟨c, k, h1, h2, -, h4, -⟩ := Cond.instantiable_spec (show (Cond.instantiable y.cls n).before args s = true from mvT hZ wi)
  exact Jvm.Stand.selects_self_of_private h1 h2 (by simp only [Bool.or_eq_false_iff] at h4; exact h4.1) (Cond.privateMethod_at (mvP hZ wp (args := args))) (mvT hZ wm) hy
theorem eqL_v {t : Term} {k : Int64} {a0 : Array Value} {first u : State} {o : Option Outcome} {idx : List Nat} (h : (Cond.eq t (.long k)).value a0 first o u idx = some true) : t.eval a0 first o idx u = some (.long k) := by
  simp only [Cond.value, Term.eval] at h
  cases ht : t.eval a0 first o idx u with
  | none => simp [ht] at h
  | some x => cases x <;> simp [ht] at h ⊢; exact h
theorem eqI_v {t : Term} {k : Int32} {a0 : Array Value} {first u : State} {o : Option Outcome} {idx : List Nat} (h : (Cond.eq t (.int k)).value a0 first o u idx = some true) : t.eval a0 first o idx u = some (.int k) := by
  simp only [Cond.value, Term.eval] at h
  cases ht : t.eval a0 first o idx u with
  | none => simp [ht] at h
  | some x => cases x <;> simp [ht] at h ⊢; exact h
end OwnKit
theorem d1_0 : decode prog_21_method_2_code 0 = .ok (.iload_n 0, 1) := by decide +kernel
theorem d1_1 : decode prog_21_method_2_code 1 = .ok (.bipush 97, 2) := by decide +kernel
theorem d1_3 : decode prog_21_method_2_code 3 = .ok (.if_icmp .lt 9, 3) := by decide +kernel
theorem d1_6 : decode prog_21_method_2_code 6 = .ok (.iload_n 0, 1) := by decide +kernel
theorem d1_7 : decode prog_21_method_2_code 7 = .ok (.bipush 122, 2) := by decide +kernel
theorem d1_9 : decode prog_21_method_2_code 9 = .ok (.if_icmp .le 176, 3) := by decide +kernel
theorem d1_12 : decode prog_21_method_2_code 12 = .ok (.iload_n 0, 1) := by decide +kernel
theorem d1_13 : decode prog_21_method_2_code 13 = .ok (.bipush 65, 2) := by decide +kernel
theorem d1_15 : decode prog_21_method_2_code 15 = .ok (.if_icmp .lt 9, 3) := by decide +kernel
theorem d1_18 : decode prog_21_method_2_code 18 = .ok (.iload_n 0, 1) := by decide +kernel
theorem d1_19 : decode prog_21_method_2_code 19 = .ok (.bipush 90, 2) := by decide +kernel
theorem d1_21 : decode prog_21_method_2_code 21 = .ok (.if_icmp .le 164, 3) := by decide +kernel
theorem d1_24 : decode prog_21_method_2_code 24 = .ok (.iload_n 0, 1) := by decide +kernel
theorem d1_25 : decode prog_21_method_2_code 25 = .ok (.sipush 192, 3) := by decide +kernel
theorem d1_28 : decode prog_21_method_2_code 28 = .ok (.if_icmp .lt 10, 3) := by decide +kernel
theorem d1_31 : decode prog_21_method_2_code 31 = .ok (.iload_n 0, 1) := by decide +kernel
theorem d1_32 : decode prog_21_method_2_code 32 = .ok (.sipush 214, 3) := by decide +kernel
theorem d1_35 : decode prog_21_method_2_code 35 = .ok (.if_icmp .le 150, 3) := by decide +kernel
theorem d1_38 : decode prog_21_method_2_code 38 = .ok (.iload_n 0, 1) := by decide +kernel
theorem d1_39 : decode prog_21_method_2_code 39 = .ok (.sipush 216, 3) := by decide +kernel
theorem d1_42 : decode prog_21_method_2_code 42 = .ok (.if_icmp .lt 10, 3) := by decide +kernel
theorem d1_45 : decode prog_21_method_2_code 45 = .ok (.iload_n 0, 1) := by decide +kernel
theorem d1_46 : decode prog_21_method_2_code 46 = .ok (.sipush 246, 3) := by decide +kernel
theorem d1_49 : decode prog_21_method_2_code 49 = .ok (.if_icmp .le 136, 3) := by decide +kernel
theorem d1_52 : decode prog_21_method_2_code 52 = .ok (.iload_n 0, 1) := by decide +kernel
theorem d1_53 : decode prog_21_method_2_code 53 = .ok (.sipush 248, 3) := by decide +kernel
theorem d1_56 : decode prog_21_method_2_code 56 = .ok (.if_icmp .lt 10, 3) := by decide +kernel
theorem d1_59 : decode prog_21_method_2_code 59 = .ok (.iload_n 0, 1) := by decide +kernel
theorem d1_60 : decode prog_21_method_2_code 60 = .ok (.sipush 767, 3) := by decide +kernel
theorem d1_63 : decode prog_21_method_2_code 63 = .ok (.if_icmp .le 122, 3) := by decide +kernel
theorem d1_66 : decode prog_21_method_2_code 66 = .ok (.iload_n 0, 1) := by decide +kernel
theorem d1_67 : decode prog_21_method_2_code 67 = .ok (.sipush 880, 3) := by decide +kernel
theorem d1_70 : decode prog_21_method_2_code 70 = .ok (.if_icmp .lt 10, 3) := by decide +kernel
theorem d1_73 : decode prog_21_method_2_code 73 = .ok (.iload_n 0, 1) := by decide +kernel
theorem d1_74 : decode prog_21_method_2_code 74 = .ok (.sipush 893, 3) := by decide +kernel
theorem d1_77 : decode prog_21_method_2_code 77 = .ok (.if_icmp .le 108, 3) := by decide +kernel
theorem d1_80 : decode prog_21_method_2_code 80 = .ok (.iload_n 0, 1) := by decide +kernel
theorem d1_81 : decode prog_21_method_2_code 81 = .ok (.sipush 895, 3) := by decide +kernel
theorem d1_84 : decode prog_21_method_2_code 84 = .ok (.if_icmp .lt 10, 3) := by decide +kernel
theorem d1_87 : decode prog_21_method_2_code 87 = .ok (.iload_n 0, 1) := by decide +kernel
theorem d1_88 : decode prog_21_method_2_code 88 = .ok (.sipush 8191, 3) := by decide +kernel
theorem d1_91 : decode prog_21_method_2_code 91 = .ok (.if_icmp .le 94, 3) := by decide +kernel
theorem d1_94 : decode prog_21_method_2_code 94 = .ok (.iload_n 0, 1) := by decide +kernel
theorem d1_95 : decode prog_21_method_2_code 95 = .ok (.sipush 8204, 3) := by decide +kernel
theorem d1_98 : decode prog_21_method_2_code 98 = .ok (.if_icmp .lt 10, 3) := by decide +kernel
theorem d1_101 : decode prog_21_method_2_code 101 = .ok (.iload_n 0, 1) := by decide +kernel
theorem d1_102 : decode prog_21_method_2_code 102 = .ok (.sipush 8205, 3) := by decide +kernel
theorem d1_105 : decode prog_21_method_2_code 105 = .ok (.if_icmp .le 80, 3) := by decide +kernel
theorem d1_108 : decode prog_21_method_2_code 108 = .ok (.iload_n 0, 1) := by decide +kernel
theorem d1_109 : decode prog_21_method_2_code 109 = .ok (.sipush 8304, 3) := by decide +kernel
theorem d1_112 : decode prog_21_method_2_code 112 = .ok (.if_icmp .lt 10, 3) := by decide +kernel
theorem d1_115 : decode prog_21_method_2_code 115 = .ok (.iload_n 0, 1) := by decide +kernel
theorem d1_116 : decode prog_21_method_2_code 116 = .ok (.sipush 8591, 3) := by decide +kernel
theorem d1_119 : decode prog_21_method_2_code 119 = .ok (.if_icmp .le 66, 3) := by decide +kernel
theorem d1_122 : decode prog_21_method_2_code 122 = .ok (.iload_n 0, 1) := by decide +kernel
theorem d1_123 : decode prog_21_method_2_code 123 = .ok (.sipush 11264, 3) := by decide +kernel
theorem d1_126 : decode prog_21_method_2_code 126 = .ok (.if_icmp .lt 10, 3) := by decide +kernel
theorem d1_129 : decode prog_21_method_2_code 129 = .ok (.iload_n 0, 1) := by decide +kernel
theorem d1_130 : decode prog_21_method_2_code 130 = .ok (.sipush 12271, 3) := by decide +kernel
theorem d1_133 : decode prog_21_method_2_code 133 = .ok (.if_icmp .le 52, 3) := by decide +kernel
theorem d1_136 : decode prog_21_method_2_code 136 = .ok (.iload_n 0, 1) := by decide +kernel
theorem d1_137 : decode prog_21_method_2_code 137 = .ok (.sipush 12289, 3) := by decide +kernel
theorem d1_140 : decode prog_21_method_2_code 140 = .ok (.if_icmp .lt 9, 3) := by decide +kernel
theorem d1_143 : decode prog_21_method_2_code 143 = .ok (.iload_n 0, 1) := by decide +kernel
theorem d1_144 : decode prog_21_method_2_code 144 = .ok (.ldc 7, 2) := by decide +kernel
theorem d1_146 : decode prog_21_method_2_code 146 = .ok (.if_icmp .le 39, 3) := by decide +kernel
theorem d1_149 : decode prog_21_method_2_code 149 = .ok (.iload_n 0, 1) := by decide +kernel
theorem d1_150 : decode prog_21_method_2_code 150 = .ok (.ldc 8, 2) := by decide +kernel
theorem d1_152 : decode prog_21_method_2_code 152 = .ok (.if_icmp .lt 9, 3) := by decide +kernel
theorem d1_155 : decode prog_21_method_2_code 155 = .ok (.iload_n 0, 1) := by decide +kernel
theorem d1_156 : decode prog_21_method_2_code 156 = .ok (.ldc 9, 2) := by decide +kernel
theorem d1_158 : decode prog_21_method_2_code 158 = .ok (.if_icmp .le 27, 3) := by decide +kernel
theorem d1_161 : decode prog_21_method_2_code 161 = .ok (.iload_n 0, 1) := by decide +kernel
theorem d1_162 : decode prog_21_method_2_code 162 = .ok (.ldc 10, 2) := by decide +kernel
theorem d1_164 : decode prog_21_method_2_code 164 = .ok (.if_icmp .lt 9, 3) := by decide +kernel
theorem d1_167 : decode prog_21_method_2_code 167 = .ok (.iload_n 0, 1) := by decide +kernel
theorem d1_168 : decode prog_21_method_2_code 168 = .ok (.ldc 11, 2) := by decide +kernel
theorem d1_170 : decode prog_21_method_2_code 170 = .ok (.if_icmp .le 15, 3) := by decide +kernel
theorem d1_173 : decode prog_21_method_2_code 173 = .ok (.iload_n 0, 1) := by decide +kernel
theorem d1_174 : decode prog_21_method_2_code 174 = .ok (.ldc 12, 2) := by decide +kernel
theorem d1_176 : decode prog_21_method_2_code 176 = .ok (.if_icmp .lt 13, 3) := by decide +kernel
theorem d1_179 : decode prog_21_method_2_code 179 = .ok (.iload_n 0, 1) := by decide +kernel
theorem d1_180 : decode prog_21_method_2_code 180 = .ok (.ldc 13, 2) := by decide +kernel
theorem d1_182 : decode prog_21_method_2_code 182 = .ok (.if_icmp .gt 7, 3) := by decide +kernel
theorem d1_185 : decode prog_21_method_2_code 185 = .ok (.iconst 1, 1) := by decide +kernel
theorem d1_186 : decode prog_21_method_2_code 186 = .ok (.goto 4, 3) := by decide +kernel
theorem d1_189 : decode prog_21_method_2_code 189 = .ok (.iconst 0, 1) := by decide +kernel
theorem d1_190 : decode prog_21_method_2_code 190 = .ok (.ireturn, 1) := by decide +kernel
theorem pn_0 : plainName "com/example/tercet/tercet/XmlNameCharacters" = true := by first | (simp [plainName, overriddenIn]; done) | decide +kernel
theorem ef_1 (m : MethodId) (p1 : Int32) : entryFrame m #[(.int p1)] 1 = mkF m 0 #[.val (.int p1)] [] := by first | (simp [entryFrame, mkF, argsToLocals, Value.category]; done) | rfl
def b1_190 (s0_190 : Int32) : Int32 := (nar .boolean s0_190)
def b1_185  : Int32 := (b1_190 (1 : Int32))
def b1_189  : Int32 := (b1_190 (0 : Int32))
def b1_173 (p1 : Int32) : Int32 := (if p1 < (65536 : Int32) then b1_189 else (if (983039 : Int32) < p1 then b1_189 else b1_185))
def b1_161 (p1 : Int32) : Int32 := (if p1 < (65008 : Int32) then (b1_173 p1) else (if (65533 : Int32) < p1 then (b1_173 p1) else b1_185))
def b1_149 (p1 : Int32) : Int32 := (if p1 < (63744 : Int32) then (b1_161 p1) else (if (64975 : Int32) < p1 then (b1_161 p1) else b1_185))
def b1_136 (p1 : Int32) : Int32 := (if p1 < (12289 : Int32) then (b1_149 p1) else (if (55295 : Int32) < p1 then (b1_149 p1) else b1_185))
def b1_122 (p1 : Int32) : Int32 := (if p1 < (11264 : Int32) then (b1_136 p1) else (if (12271 : Int32) < p1 then (b1_136 p1) else b1_185))
def b1_108 (p1 : Int32) : Int32 := (if p1 < (8304 : Int32) then (b1_122 p1) else (if (8591 : Int32) < p1 then (b1_122 p1) else b1_185))
def b1_94 (p1 : Int32) : Int32 := (if p1 < (8204 : Int32) then (b1_108 p1) else (if (8205 : Int32) < p1 then (b1_108 p1) else b1_185))
def b1_80 (p1 : Int32) : Int32 := (if p1 < (895 : Int32) then (b1_94 p1) else (if (8191 : Int32) < p1 then (b1_94 p1) else b1_185))
def b1_66 (p1 : Int32) : Int32 := (if p1 < (880 : Int32) then (b1_80 p1) else (if (893 : Int32) < p1 then (b1_80 p1) else b1_185))
def b1_52 (p1 : Int32) : Int32 := (if p1 < (248 : Int32) then (b1_66 p1) else (if (767 : Int32) < p1 then (b1_66 p1) else b1_185))
def b1_38 (p1 : Int32) : Int32 := (if p1 < (216 : Int32) then (b1_52 p1) else (if (246 : Int32) < p1 then (b1_52 p1) else b1_185))
def b1_24 (p1 : Int32) : Int32 := (if p1 < (192 : Int32) then (b1_38 p1) else (if (214 : Int32) < p1 then (b1_38 p1) else b1_185))
def b1_12 (p1 : Int32) : Int32 := (if p1 < (65 : Int32) then (b1_24 p1) else (if (90 : Int32) < p1 then (b1_24 p1) else b1_185))
def b1_0 (p1 : Int32) : Int32 := (if p1 < (97 : Int32) then (b1_12 p1) else (if (122 : Int32) < p1 then (b1_12 p1) else b1_185))
set_option maxRecDepth 65536 in
set_option maxHeartbeats 40000000 in
theorem rm1 (l : Launch) (Z : State) (a0 : Array Value) (hw : ∀ d ∈ tables_1, d.before a0 Z = true) (ws : List Jvm.Cond) (p1 : Int32) (h0 : Heap) (n0 : Nat) (Z0 : n0 ≤ h0.size) :
    MetFree l (⟨"com/example/tercet/tercet/XmlNameCharacters", "isNameLetter", "(I)Z"⟩ : MethodName) (head1 (Jvm.Cond.code (⟨"com/example/tercet/tercet/XmlNameCharacters", "isNameLetter", "(I)Z"⟩ : MethodName) prog_21_method_2_code 1 (some .boolean) :: ws) ({ frames := 0, cells := 0, slots := 0, locals := 0 } : Room)) (fun a U => a = #[(.int p1)] ∧ Z.Warmed39 U.vm ∧ U.heap = h0) (fun _ _ _ _ _ => True) (fun _ U o U' => ∃ v L, o = .returned v ∧ QK n0 (Kv (some (.int (b1_0 p1))) (fun h => h = h0)) v U'.heap L ∧ FrameEnd U o U' L ({ frames := 0, cells := 0, slots := 0, locals := 0 } : Room).cells ({ frames := 0, cells := 0, slots := 0, locals := 0 } : Room).slots) := by
  refine MetFree.of_bodySF (plainFor_of_name pn_0) hisR ?_
  intro p e s m args below meth c s₁ Bd hml0 hP hK
  obtain ⟨rfl, hZ, hh⟩ := hP
  have hx := Bd.exec
  have hby := Bd.bytes
  have hml : c.maxLocals = 1 := hml0
  have hown : s.vm.findClass "com/example/tercet/tercet/XmlNameCharacters" = some m.cls := findClass_of_methodNamed Bd.named
  have hnm := (name_of_methodNamed Bd.named Bd.method).1
  have X0 : Stand p l e ({ frames := 0, cells := 0, slots := 0, locals := 0 } : Room) s m #[(.int p1)] below meth c s₁ [] 0 0 := Stand.of_body Bd
  have e0 : s₁.heap = h0 := by rw [← hh, Bd.state]; rfl
  have N0 := Fr.nil n0
  refine gl_start (ef_1 m p1) ?_
  show Gl p e below s n0 ({ frames := 0, cells := 0, slots := 0, locals := 0 } : Room).cells ({ frames := 0, cells := 0, slots := 0, locals := 0 } : Room).slots (Kv (some (.int (if p1 < (97 : Int32) then (b1_12 p1) else (if (122 : Int32) < p1 then (b1_12 p1) else b1_185)))) (fun h => h = h0)) (s₁.setTop (mkF m 0 #[.val (.int p1)] []))
  refine go (fun t k => XS.iloadN X0.here hx rfl (hb hby d1_0) rfl  k) ?_
  show Gl _ _ _ _ _ _ _ _ (s₁.setTop (mkF m 1 #[.val (.int p1)] [(.int p1)]))
  refine go (fun t k => XS.bipush X0.here hx rfl (hb hby d1_1) k) ?_
  show Gl _ _ _ _ _ _ _ _ (s₁.setTop (mkF m 3 #[.val (.int p1)] [(.int (97 : Int32)), (.int p1)]))
  have J190 : ∀ (s0_190 : Int32) (TJ190 : State) (lJ190 : List Loc) (XJ190 : Stand p l e ({ frames := 0, cells := 0, slots := 0, locals := 0 } : Room) s m #[(.int p1)] below meth c TJ190 lJ190 0 0) (eJ190 : TJ190.heap = h0) (NJ190 : Fr n0 lJ190), Gl p e below s n0 ({ frames := 0, cells := 0, slots := 0, locals := 0 } : Room).cells ({ frames := 0, cells := 0, slots := 0, locals := 0 } : Room).slots (Kv (some (.int (b1_190 s0_190))) (fun h => h = h0)) (TJ190.setTop (mkF m 190 #[.val (.int p1)] [(.int s0_190)])) := by
    intro s0_190 TJ190 lJ190 XJ190 eJ190 NJ190
    show Gl _ _ _ _ _ _ _ (Kv (some (.int (nar .boolean s0_190))) _) _
    exact endN XJ190 hx Bd (t := .boolean) (by simp) (hb hby d1_190) ⟨rfl, eJ190⟩ NJ190 (by decide) (by decide)
  have J185 : ∀  (TJ185 : State) (lJ185 : List Loc) (XJ185 : Stand p l e ({ frames := 0, cells := 0, slots := 0, locals := 0 } : Room) s m #[(.int p1)] below meth c TJ185 lJ185 0 0) (eJ185 : TJ185.heap = h0) (NJ185 : Fr n0 lJ185), Gl p e below s n0 ({ frames := 0, cells := 0, slots := 0, locals := 0 } : Room).cells ({ frames := 0, cells := 0, slots := 0, locals := 0 } : Room).slots (Kv (some (.int b1_185)) (fun h => h = h0)) (TJ185.setTop (mkF m 185 #[.val (.int p1)] [])) := by
    intro  TJ185 lJ185 XJ185 eJ185 NJ185
    show Gl _ _ _ _ _ _ _ (Kv (some (.int (b1_190 (1 : Int32)))) _) _
    refine go (fun t k => XS.iconst XJ185.here hx rfl (hb hby d1_185) k) ?_
    show Gl _ _ _ _ _ _ _ _ (TJ185.setTop (mkF m 186 #[.val (.int p1)] [(.int (1 : Int32))]))
    refine go (fun t k => XS.goto XJ185.here hx rfl (pc0 := 186) (pc' := 190) rfl (hb hby d1_186) (by decide) (by decide) k) ?_
    show Gl _ _ _ _ _ _ _ _ (TJ185.setTop (mkF m 190 #[.val (.int p1)] [(.int (1 : Int32))]))
    exact J190 (1 : Int32) TJ185 _ XJ185 eJ185 NJ185
  have J12 : ∀  (TJ12 : State) (lJ12 : List Loc) (XJ12 : Stand p l e ({ frames := 0, cells := 0, slots := 0, locals := 0 } : Room) s m #[(.int p1)] below meth c TJ12 lJ12 0 0) (eJ12 : TJ12.heap = h0) (NJ12 : Fr n0 lJ12), Gl p e below s n0 ({ frames := 0, cells := 0, slots := 0, locals := 0 } : Room).cells ({ frames := 0, cells := 0, slots := 0, locals := 0 } : Room).slots (Kv (some (.int (b1_12 p1))) (fun h => h = h0)) (TJ12.setTop (mkF m 12 #[.val (.int p1)] [])) := by
    intro  TJ12 lJ12 XJ12 eJ12 NJ12
    show Gl _ _ _ _ _ _ _ (Kv (some (.int (if p1 < (65 : Int32) then (b1_24 p1) else (if (90 : Int32) < p1 then (b1_24 p1) else b1_185)))) _) _
    refine go (fun t k => XS.iloadN XJ12.here hx rfl (hb hby d1_12) rfl  k) ?_
    show Gl _ _ _ _ _ _ _ _ (TJ12.setTop (mkF m 13 #[.val (.int p1)] [(.int p1)]))
    refine go (fun t k => XS.bipush XJ12.here hx rfl (hb hby d1_13) k) ?_
    show Gl _ _ _ _ _ _ _ _ (TJ12.setTop (mkF m 15 #[.val (.int p1)] [(.int (65 : Int32)), (.int p1)]))
    have J24 : ∀  (TJ24 : State) (lJ24 : List Loc) (XJ24 : Stand p l e ({ frames := 0, cells := 0, slots := 0, locals := 0 } : Room) s m #[(.int p1)] below meth c TJ24 lJ24 0 0) (eJ24 : TJ24.heap = h0) (NJ24 : Fr n0 lJ24), Gl p e below s n0 ({ frames := 0, cells := 0, slots := 0, locals := 0 } : Room).cells ({ frames := 0, cells := 0, slots := 0, locals := 0 } : Room).slots (Kv (some (.int (b1_24 p1))) (fun h => h = h0)) (TJ24.setTop (mkF m 24 #[.val (.int p1)] [])) := by
      intro  TJ24 lJ24 XJ24 eJ24 NJ24
      show Gl _ _ _ _ _ _ _ (Kv (some (.int (if p1 < (192 : Int32) then (b1_38 p1) else (if (214 : Int32) < p1 then (b1_38 p1) else b1_185)))) _) _
      refine go (fun t k => XS.iloadN XJ24.here hx rfl (hb hby d1_24) rfl  k) ?_
      show Gl _ _ _ _ _ _ _ _ (TJ24.setTop (mkF m 25 #[.val (.int p1)] [(.int p1)]))
      refine go (fun t k => XS.sipush XJ24.here hx rfl (hb hby d1_25) k) ?_
      show Gl _ _ _ _ _ _ _ _ (TJ24.setTop (mkF m 28 #[.val (.int p1)] [(.int (192 : Int32)), (.int p1)]))
      have J38 : ∀  (TJ38 : State) (lJ38 : List Loc) (XJ38 : Stand p l e ({ frames := 0, cells := 0, slots := 0, locals := 0 } : Room) s m #[(.int p1)] below meth c TJ38 lJ38 0 0) (eJ38 : TJ38.heap = h0) (NJ38 : Fr n0 lJ38), Gl p e below s n0 ({ frames := 0, cells := 0, slots := 0, locals := 0 } : Room).cells ({ frames := 0, cells := 0, slots := 0, locals := 0 } : Room).slots (Kv (some (.int (b1_38 p1))) (fun h => h = h0)) (TJ38.setTop (mkF m 38 #[.val (.int p1)] [])) := by
        intro  TJ38 lJ38 XJ38 eJ38 NJ38
        show Gl _ _ _ _ _ _ _ (Kv (some (.int (if p1 < (216 : Int32) then (b1_52 p1) else (if (246 : Int32) < p1 then (b1_52 p1) else b1_185)))) _) _
        refine go (fun t k => XS.iloadN XJ38.here hx rfl (hb hby d1_38) rfl  k) ?_
        show Gl _ _ _ _ _ _ _ _ (TJ38.setTop (mkF m 39 #[.val (.int p1)] [(.int p1)]))
        refine go (fun t k => XS.sipush XJ38.here hx rfl (hb hby d1_39) k) ?_
        show Gl _ _ _ _ _ _ _ _ (TJ38.setTop (mkF m 42 #[.val (.int p1)] [(.int (216 : Int32)), (.int p1)]))
        have J52 : ∀  (TJ52 : State) (lJ52 : List Loc) (XJ52 : Stand p l e ({ frames := 0, cells := 0, slots := 0, locals := 0 } : Room) s m #[(.int p1)] below meth c TJ52 lJ52 0 0) (eJ52 : TJ52.heap = h0) (NJ52 : Fr n0 lJ52), Gl p e below s n0 ({ frames := 0, cells := 0, slots := 0, locals := 0 } : Room).cells ({ frames := 0, cells := 0, slots := 0, locals := 0 } : Room).slots (Kv (some (.int (b1_52 p1))) (fun h => h = h0)) (TJ52.setTop (mkF m 52 #[.val (.int p1)] [])) := by
          intro  TJ52 lJ52 XJ52 eJ52 NJ52
          show Gl _ _ _ _ _ _ _ (Kv (some (.int (if p1 < (248 : Int32) then (b1_66 p1) else (if (767 : Int32) < p1 then (b1_66 p1) else b1_185)))) _) _
          refine go (fun t k => XS.iloadN XJ52.here hx rfl (hb hby d1_52) rfl  k) ?_
          show Gl _ _ _ _ _ _ _ _ (TJ52.setTop (mkF m 53 #[.val (.int p1)] [(.int p1)]))
          refine go (fun t k => XS.sipush XJ52.here hx rfl (hb hby d1_53) k) ?_
          show Gl _ _ _ _ _ _ _ _ (TJ52.setTop (mkF m 56 #[.val (.int p1)] [(.int (248 : Int32)), (.int p1)]))
          have J66 : ∀  (TJ66 : State) (lJ66 : List Loc) (XJ66 : Stand p l e ({ frames := 0, cells := 0, slots := 0, locals := 0 } : Room) s m #[(.int p1)] below meth c TJ66 lJ66 0 0) (eJ66 : TJ66.heap = h0) (NJ66 : Fr n0 lJ66), Gl p e below s n0 ({ frames := 0, cells := 0, slots := 0, locals := 0 } : Room).cells ({ frames := 0, cells := 0, slots := 0, locals := 0 } : Room).slots (Kv (some (.int (b1_66 p1))) (fun h => h = h0)) (TJ66.setTop (mkF m 66 #[.val (.int p1)] [])) := by
            intro  TJ66 lJ66 XJ66 eJ66 NJ66
            show Gl _ _ _ _ _ _ _ (Kv (some (.int (if p1 < (880 : Int32) then (b1_80 p1) else (if (893 : Int32) < p1 then (b1_80 p1) else b1_185)))) _) _
            refine go (fun t k => XS.iloadN XJ66.here hx rfl (hb hby d1_66) rfl  k) ?_
            show Gl _ _ _ _ _ _ _ _ (TJ66.setTop (mkF m 67 #[.val (.int p1)] [(.int p1)]))
            refine go (fun t k => XS.sipush XJ66.here hx rfl (hb hby d1_67) k) ?_
            show Gl _ _ _ _ _ _ _ _ (TJ66.setTop (mkF m 70 #[.val (.int p1)] [(.int (880 : Int32)), (.int p1)]))
            have J80 : ∀  (TJ80 : State) (lJ80 : List Loc) (XJ80 : Stand p l e ({ frames := 0, cells := 0, slots := 0, locals := 0 } : Room) s m #[(.int p1)] below meth c TJ80 lJ80 0 0) (eJ80 : TJ80.heap = h0) (NJ80 : Fr n0 lJ80), Gl p e below s n0 ({ frames := 0, cells := 0, slots := 0, locals := 0 } : Room).cells ({ frames := 0, cells := 0, slots := 0, locals := 0 } : Room).slots (Kv (some (.int (b1_80 p1))) (fun h => h = h0)) (TJ80.setTop (mkF m 80 #[.val (.int p1)] [])) := by
              intro  TJ80 lJ80 XJ80 eJ80 NJ80
              show Gl _ _ _ _ _ _ _ (Kv (some (.int (if p1 < (895 : Int32) then (b1_94 p1) else (if (8191 : Int32) < p1 then (b1_94 p1) else b1_185)))) _) _
              refine go (fun t k => XS.iloadN XJ80.here hx rfl (hb hby d1_80) rfl  k) ?_
              show Gl _ _ _ _ _ _ _ _ (TJ80.setTop (mkF m 81 #[.val (.int p1)] [(.int p1)]))
              refine go (fun t k => XS.sipush XJ80.here hx rfl (hb hby d1_81) k) ?_
              show Gl _ _ _ _ _ _ _ _ (TJ80.setTop (mkF m 84 #[.val (.int p1)] [(.int (895 : Int32)), (.int p1)]))
              have J94 : ∀  (TJ94 : State) (lJ94 : List Loc) (XJ94 : Stand p l e ({ frames := 0, cells := 0, slots := 0, locals := 0 } : Room) s m #[(.int p1)] below meth c TJ94 lJ94 0 0) (eJ94 : TJ94.heap = h0) (NJ94 : Fr n0 lJ94), Gl p e below s n0 ({ frames := 0, cells := 0, slots := 0, locals := 0 } : Room).cells ({ frames := 0, cells := 0, slots := 0, locals := 0 } : Room).slots (Kv (some (.int (b1_94 p1))) (fun h => h = h0)) (TJ94.setTop (mkF m 94 #[.val (.int p1)] [])) := by
                intro  TJ94 lJ94 XJ94 eJ94 NJ94
                show Gl _ _ _ _ _ _ _ (Kv (some (.int (if p1 < (8204 : Int32) then (b1_108 p1) else (if (8205 : Int32) < p1 then (b1_108 p1) else b1_185)))) _) _
                refine go (fun t k => XS.iloadN XJ94.here hx rfl (hb hby d1_94) rfl  k) ?_
                show Gl _ _ _ _ _ _ _ _ (TJ94.setTop (mkF m 95 #[.val (.int p1)] [(.int p1)]))
                refine go (fun t k => XS.sipush XJ94.here hx rfl (hb hby d1_95) k) ?_
                show Gl _ _ _ _ _ _ _ _ (TJ94.setTop (mkF m 98 #[.val (.int p1)] [(.int (8204 : Int32)), (.int p1)]))
                have J108 : ∀  (TJ108 : State) (lJ108 : List Loc) (XJ108 : Stand p l e ({ frames := 0, cells := 0, slots := 0, locals := 0 } : Room) s m #[(.int p1)] below meth c TJ108 lJ108 0 0) (eJ108 : TJ108.heap = h0) (NJ108 : Fr n0 lJ108), Gl p e below s n0 ({ frames := 0, cells := 0, slots := 0, locals := 0 } : Room).cells ({ frames := 0, cells := 0, slots := 0, locals := 0 } : Room).slots (Kv (some (.int (b1_108 p1))) (fun h => h = h0)) (TJ108.setTop (mkF m 108 #[.val (.int p1)] [])) := by
                  intro  TJ108 lJ108 XJ108 eJ108 NJ108
                  show Gl _ _ _ _ _ _ _ (Kv (some (.int (if p1 < (8304 : Int32) then (b1_122 p1) else (if (8591 : Int32) < p1 then (b1_122 p1) else b1_185)))) _) _
                  refine go (fun t k => XS.iloadN XJ108.here hx rfl (hb hby d1_108) rfl  k) ?_
                  show Gl _ _ _ _ _ _ _ _ (TJ108.setTop (mkF m 109 #[.val (.int p1)] [(.int p1)]))
                  refine go (fun t k => XS.sipush XJ108.here hx rfl (hb hby d1_109) k) ?_
                  show Gl _ _ _ _ _ _ _ _ (TJ108.setTop (mkF m 112 #[.val (.int p1)] [(.int (8304 : Int32)), (.int p1)]))
                  have J122 : ∀  (TJ122 : State) (lJ122 : List Loc) (XJ122 : Stand p l e ({ frames := 0, cells := 0, slots := 0, locals := 0 } : Room) s m #[(.int p1)] below meth c TJ122 lJ122 0 0) (eJ122 : TJ122.heap = h0) (NJ122 : Fr n0 lJ122), Gl p e below s n0 ({ frames := 0, cells := 0, slots := 0, locals := 0 } : Room).cells ({ frames := 0, cells := 0, slots := 0, locals := 0 } : Room).slots (Kv (some (.int (b1_122 p1))) (fun h => h = h0)) (TJ122.setTop (mkF m 122 #[.val (.int p1)] [])) := by
                    intro  TJ122 lJ122 XJ122 eJ122 NJ122
                    show Gl _ _ _ _ _ _ _ (Kv (some (.int (if p1 < (11264 : Int32) then (b1_136 p1) else (if (12271 : Int32) < p1 then (b1_136 p1) else b1_185)))) _) _
                    refine go (fun t k => XS.iloadN XJ122.here hx rfl (hb hby d1_122) rfl  k) ?_
                    show Gl _ _ _ _ _ _ _ _ (TJ122.setTop (mkF m 123 #[.val (.int p1)] [(.int p1)]))
                    refine go (fun t k => XS.sipush XJ122.here hx rfl (hb hby d1_123) k) ?_
                    show Gl _ _ _ _ _ _ _ _ (TJ122.setTop (mkF m 126 #[.val (.int p1)] [(.int (11264 : Int32)), (.int p1)]))
                    have J136 : ∀  (TJ136 : State) (lJ136 : List Loc) (XJ136 : Stand p l e ({ frames := 0, cells := 0, slots := 0, locals := 0 } : Room) s m #[(.int p1)] below meth c TJ136 lJ136 0 0) (eJ136 : TJ136.heap = h0) (NJ136 : Fr n0 lJ136), Gl p e below s n0 ({ frames := 0, cells := 0, slots := 0, locals := 0 } : Room).cells ({ frames := 0, cells := 0, slots := 0, locals := 0 } : Room).slots (Kv (some (.int (b1_136 p1))) (fun h => h = h0)) (TJ136.setTop (mkF m 136 #[.val (.int p1)] [])) := by
                      intro  TJ136 lJ136 XJ136 eJ136 NJ136
                      show Gl _ _ _ _ _ _ _ (Kv (some (.int (if p1 < (12289 : Int32) then (b1_149 p1) else (if (55295 : Int32) < p1 then (b1_149 p1) else b1_185)))) _) _
                      refine go (fun t k => XS.iloadN XJ136.here hx rfl (hb hby d1_136) rfl  k) ?_
                      show Gl _ _ _ _ _ _ _ _ (TJ136.setTop (mkF m 137 #[.val (.int p1)] [(.int p1)]))
                      refine go (fun t k => XS.sipush XJ136.here hx rfl (hb hby d1_137) k) ?_
                      show Gl _ _ _ _ _ _ _ _ (TJ136.setTop (mkF m 140 #[.val (.int p1)] [(.int (12289 : Int32)), (.int p1)]))
                      have J149 : ∀  (TJ149 : State) (lJ149 : List Loc) (XJ149 : Stand p l e ({ frames := 0, cells := 0, slots := 0, locals := 0 } : Room) s m #[(.int p1)] below meth c TJ149 lJ149 0 0) (eJ149 : TJ149.heap = h0) (NJ149 : Fr n0 lJ149), Gl p e below s n0 ({ frames := 0, cells := 0, slots := 0, locals := 0 } : Room).cells ({ frames := 0, cells := 0, slots := 0, locals := 0 } : Room).slots (Kv (some (.int (b1_149 p1))) (fun h => h = h0)) (TJ149.setTop (mkF m 149 #[.val (.int p1)] [])) := by
                        intro  TJ149 lJ149 XJ149 eJ149 NJ149
                        show Gl _ _ _ _ _ _ _ (Kv (some (.int (if p1 < (63744 : Int32) then (b1_161 p1) else (if (64975 : Int32) < p1 then (b1_161 p1) else b1_185)))) _) _
                        refine go (fun t k => XS.iloadN XJ149.here hx rfl (hb hby d1_149) rfl  k) ?_
                        show Gl _ _ _ _ _ _ _ _ (TJ149.setTop (mkF m 150 #[.val (.int p1)] [(.int p1)]))
                        refine go (fun t k => XJ149.ldcInt hx hown (mvT hZ (hw _ (List.mem_of_getElem? (i := 14) rfl))) (g := (mkF m 150 #[.val (.int p1)] [(.int p1)])) rfl (hb hby d1_150) _ k) ?_
                        show Gl _ _ _ _ _ _ _ _ (TJ149.setTop (mkF m 152 #[.val (.int p1)] [(.int (63744 : Int32)), (.int p1)]))
                        have J161 : ∀  (TJ161 : State) (lJ161 : List Loc) (XJ161 : Stand p l e ({ frames := 0, cells := 0, slots := 0, locals := 0 } : Room) s m #[(.int p1)] below meth c TJ161 lJ161 0 0) (eJ161 : TJ161.heap = h0) (NJ161 : Fr n0 lJ161), Gl p e below s n0 ({ frames := 0, cells := 0, slots := 0, locals := 0 } : Room).cells ({ frames := 0, cells := 0, slots := 0, locals := 0 } : Room).slots (Kv (some (.int (b1_161 p1))) (fun h => h = h0)) (TJ161.setTop (mkF m 161 #[.val (.int p1)] [])) := by
                          intro  TJ161 lJ161 XJ161 eJ161 NJ161
                          show Gl _ _ _ _ _ _ _ (Kv (some (.int (if p1 < (65008 : Int32) then (b1_173 p1) else (if (65533 : Int32) < p1 then (b1_173 p1) else b1_185)))) _) _
                          refine go (fun t k => XS.iloadN XJ161.here hx rfl (hb hby d1_161) rfl  k) ?_
                          show Gl _ _ _ _ _ _ _ _ (TJ161.setTop (mkF m 162 #[.val (.int p1)] [(.int p1)]))
                          refine go (fun t k => XJ161.ldcInt hx hown (mvT hZ (hw _ (List.mem_of_getElem? (i := 15) rfl))) (g := (mkF m 162 #[.val (.int p1)] [(.int p1)])) rfl (hb hby d1_162) _ k) ?_
                          show Gl _ _ _ _ _ _ _ _ (TJ161.setTop (mkF m 164 #[.val (.int p1)] [(.int (65008 : Int32)), (.int p1)]))
                          have J173 : ∀  (TJ173 : State) (lJ173 : List Loc) (XJ173 : Stand p l e ({ frames := 0, cells := 0, slots := 0, locals := 0 } : Room) s m #[(.int p1)] below meth c TJ173 lJ173 0 0) (eJ173 : TJ173.heap = h0) (NJ173 : Fr n0 lJ173), Gl p e below s n0 ({ frames := 0, cells := 0, slots := 0, locals := 0 } : Room).cells ({ frames := 0, cells := 0, slots := 0, locals := 0 } : Room).slots (Kv (some (.int (b1_173 p1))) (fun h => h = h0)) (TJ173.setTop (mkF m 173 #[.val (.int p1)] [])) := by
                            intro  TJ173 lJ173 XJ173 eJ173 NJ173
                            show Gl _ _ _ _ _ _ _ (Kv (some (.int (if p1 < (65536 : Int32) then b1_189 else (if (983039 : Int32) < p1 then b1_189 else b1_185)))) _) _
                            refine go (fun t k => XS.iloadN XJ173.here hx rfl (hb hby d1_173) rfl  k) ?_
                            show Gl _ _ _ _ _ _ _ _ (TJ173.setTop (mkF m 174 #[.val (.int p1)] [(.int p1)]))
                            refine go (fun t k => XJ173.ldcInt hx hown (mvT hZ (hw _ (List.mem_of_getElem? (i := 16) rfl))) (g := (mkF m 174 #[.val (.int p1)] [(.int p1)])) rfl (hb hby d1_174) _ k) ?_
                            show Gl _ _ _ _ _ _ _ _ (TJ173.setTop (mkF m 176 #[.val (.int p1)] [(.int (65536 : Int32)), (.int p1)]))
                            have J189 : ∀  (TJ189 : State) (lJ189 : List Loc) (XJ189 : Stand p l e ({ frames := 0, cells := 0, slots := 0, locals := 0 } : Room) s m #[(.int p1)] below meth c TJ189 lJ189 0 0) (eJ189 : TJ189.heap = h0) (NJ189 : Fr n0 lJ189), Gl p e below s n0 ({ frames := 0, cells := 0, slots := 0, locals := 0 } : Room).cells ({ frames := 0, cells := 0, slots := 0, locals := 0 } : Room).slots (Kv (some (.int b1_189)) (fun h => h = h0)) (TJ189.setTop (mkF m 189 #[.val (.int p1)] [])) := by
                              intro  TJ189 lJ189 XJ189 eJ189 NJ189
                              show Gl _ _ _ _ _ _ _ (Kv (some (.int (b1_190 (0 : Int32)))) _) _
                              refine go (fun t k => XS.iconst XJ189.here hx rfl (hb hby d1_189) k) ?_
                              show Gl _ _ _ _ _ _ _ _ (TJ189.setTop (mkF m 190 #[.val (.int p1)] [(.int (0 : Int32))]))
                              exact J190 (0 : Int32) TJ189 _ XJ189 eJ189 NJ189
                            refine gI (c := p1 < (65536 : Int32)) (fun hc176 => ?_) (fun hc176 => ?_)
                            · refine go (fun t k => XS.icmpYes XJ173.here hx rfl (pc0 := 176) (pc' := 189) rfl (hb hby d1_176) rfl (tlt hc176).1 (by decide) (by decide) k) ?_
                              show Gl _ _ _ _ _ _ _ _ (TJ173.setTop (mkF m 189 #[.val (.int p1)] []))
                              exact J189  TJ173 _ XJ173 eJ173 NJ173
                            · refine go (fun t k => XS.icmpNo XJ173.here hx rfl (hb hby d1_176) rfl (flt hc176).1 k) ?_
                              show Gl _ _ _ _ _ _ _ _ (TJ173.setTop (mkF m 179 #[.val (.int p1)] []))
                              refine go (fun t k => XS.iloadN XJ173.here hx rfl (hb hby d1_179) rfl  k) ?_
                              show Gl _ _ _ _ _ _ _ _ (TJ173.setTop (mkF m 180 #[.val (.int p1)] [(.int p1)]))
                              refine go (fun t k => XJ173.ldcInt hx hown (mvT hZ (hw _ (List.mem_of_getElem? (i := 27) rfl))) (g := (mkF m 180 #[.val (.int p1)] [(.int p1)])) rfl (hb hby d1_180) _ k) ?_
                              show Gl _ _ _ _ _ _ _ _ (TJ173.setTop (mkF m 182 #[.val (.int p1)] [(.int (983039 : Int32)), (.int p1)]))
                              refine gI (c := (983039 : Int32) < p1) (fun hc182 => ?_) (fun hc182 => ?_)
                              · refine go (fun t k => XS.icmpYes XJ173.here hx rfl (pc0 := 182) (pc' := 189) rfl (hb hby d1_182) rfl (tlt hc182).2.2.1 (by decide) (by decide) k) ?_
                                show Gl _ _ _ _ _ _ _ _ (TJ173.setTop (mkF m 189 #[.val (.int p1)] []))
                                exact J189  TJ173 _ XJ173 eJ173 NJ173
                              · refine go (fun t k => XS.icmpNo XJ173.here hx rfl (hb hby d1_182) rfl (flt hc182).2.2.1 k) ?_
                                show Gl _ _ _ _ _ _ _ _ (TJ173.setTop (mkF m 185 #[.val (.int p1)] []))
                                exact J185  TJ173 _ XJ173 eJ173 NJ173
                          refine gI (c := p1 < (65008 : Int32)) (fun hc164 => ?_) (fun hc164 => ?_)
                          · refine go (fun t k => XS.icmpYes XJ161.here hx rfl (pc0 := 164) (pc' := 173) rfl (hb hby d1_164) rfl (tlt hc164).1 (by decide) (by decide) k) ?_
                            show Gl _ _ _ _ _ _ _ _ (TJ161.setTop (mkF m 173 #[.val (.int p1)] []))
                            exact J173  TJ161 _ XJ161 eJ161 NJ161
                          · refine go (fun t k => XS.icmpNo XJ161.here hx rfl (hb hby d1_164) rfl (flt hc164).1 k) ?_
                            show Gl _ _ _ _ _ _ _ _ (TJ161.setTop (mkF m 167 #[.val (.int p1)] []))
                            refine go (fun t k => XS.iloadN XJ161.here hx rfl (hb hby d1_167) rfl  k) ?_
                            show Gl _ _ _ _ _ _ _ _ (TJ161.setTop (mkF m 168 #[.val (.int p1)] [(.int p1)]))
                            refine go (fun t k => XJ161.ldcInt hx hown (mvT hZ (hw _ (List.mem_of_getElem? (i := 26) rfl))) (g := (mkF m 168 #[.val (.int p1)] [(.int p1)])) rfl (hb hby d1_168) _ k) ?_
                            show Gl _ _ _ _ _ _ _ _ (TJ161.setTop (mkF m 170 #[.val (.int p1)] [(.int (65533 : Int32)), (.int p1)]))
                            refine gI (c := (65533 : Int32) < p1) (fun hc170 => ?_) (fun hc170 => ?_)
                            · refine go (fun t k => XS.icmpNo XJ161.here hx rfl (hb hby d1_170) rfl (tlt hc170).2.2.2 k) ?_
                              show Gl _ _ _ _ _ _ _ _ (TJ161.setTop (mkF m 173 #[.val (.int p1)] []))
                              exact J173  TJ161 _ XJ161 eJ161 NJ161
                            · refine go (fun t k => XS.icmpYes XJ161.here hx rfl (pc0 := 170) (pc' := 185) rfl (hb hby d1_170) rfl (flt hc170).2.2.2 (by decide) (by decide) k) ?_
                              show Gl _ _ _ _ _ _ _ _ (TJ161.setTop (mkF m 185 #[.val (.int p1)] []))
                              exact J185  TJ161 _ XJ161 eJ161 NJ161
                        refine gI (c := p1 < (63744 : Int32)) (fun hc152 => ?_) (fun hc152 => ?_)
                        · refine go (fun t k => XS.icmpYes XJ149.here hx rfl (pc0 := 152) (pc' := 161) rfl (hb hby d1_152) rfl (tlt hc152).1 (by decide) (by decide) k) ?_
                          show Gl _ _ _ _ _ _ _ _ (TJ149.setTop (mkF m 161 #[.val (.int p1)] []))
                          exact J161  TJ149 _ XJ149 eJ149 NJ149
                        · refine go (fun t k => XS.icmpNo XJ149.here hx rfl (hb hby d1_152) rfl (flt hc152).1 k) ?_
                          show Gl _ _ _ _ _ _ _ _ (TJ149.setTop (mkF m 155 #[.val (.int p1)] []))
                          refine go (fun t k => XS.iloadN XJ149.here hx rfl (hb hby d1_155) rfl  k) ?_
                          show Gl _ _ _ _ _ _ _ _ (TJ149.setTop (mkF m 156 #[.val (.int p1)] [(.int p1)]))
                          refine go (fun t k => XJ149.ldcInt hx hown (mvT hZ (hw _ (List.mem_of_getElem? (i := 25) rfl))) (g := (mkF m 156 #[.val (.int p1)] [(.int p1)])) rfl (hb hby d1_156) _ k) ?_
                          show Gl _ _ _ _ _ _ _ _ (TJ149.setTop (mkF m 158 #[.val (.int p1)] [(.int (64975 : Int32)), (.int p1)]))
                          refine gI (c := (64975 : Int32) < p1) (fun hc158 => ?_) (fun hc158 => ?_)
                          · refine go (fun t k => XS.icmpNo XJ149.here hx rfl (hb hby d1_158) rfl (tlt hc158).2.2.2 k) ?_
                            show Gl _ _ _ _ _ _ _ _ (TJ149.setTop (mkF m 161 #[.val (.int p1)] []))
                            exact J161  TJ149 _ XJ149 eJ149 NJ149
                          · refine go (fun t k => XS.icmpYes XJ149.here hx rfl (pc0 := 158) (pc' := 185) rfl (hb hby d1_158) rfl (flt hc158).2.2.2 (by decide) (by decide) k) ?_
                            show Gl _ _ _ _ _ _ _ _ (TJ149.setTop (mkF m 185 #[.val (.int p1)] []))
                            exact J185  TJ149 _ XJ149 eJ149 NJ149
                      refine gI (c := p1 < (12289 : Int32)) (fun hc140 => ?_) (fun hc140 => ?_)
                      · refine go (fun t k => XS.icmpYes XJ136.here hx rfl (pc0 := 140) (pc' := 149) rfl (hb hby d1_140) rfl (tlt hc140).1 (by decide) (by decide) k) ?_
                        show Gl _ _ _ _ _ _ _ _ (TJ136.setTop (mkF m 149 #[.val (.int p1)] []))
                        exact J149  TJ136 _ XJ136 eJ136 NJ136
                      · refine go (fun t k => XS.icmpNo XJ136.here hx rfl (hb hby d1_140) rfl (flt hc140).1 k) ?_
                        show Gl _ _ _ _ _ _ _ _ (TJ136.setTop (mkF m 143 #[.val (.int p1)] []))
                        refine go (fun t k => XS.iloadN XJ136.here hx rfl (hb hby d1_143) rfl  k) ?_
                        show Gl _ _ _ _ _ _ _ _ (TJ136.setTop (mkF m 144 #[.val (.int p1)] [(.int p1)]))
                        refine go (fun t k => XJ136.ldcInt hx hown (mvT hZ (hw _ (List.mem_of_getElem? (i := 24) rfl))) (g := (mkF m 144 #[.val (.int p1)] [(.int p1)])) rfl (hb hby d1_144) _ k) ?_
                        show Gl _ _ _ _ _ _ _ _ (TJ136.setTop (mkF m 146 #[.val (.int p1)] [(.int (55295 : Int32)), (.int p1)]))
                        refine gI (c := (55295 : Int32) < p1) (fun hc146 => ?_) (fun hc146 => ?_)
                        · refine go (fun t k => XS.icmpNo XJ136.here hx rfl (hb hby d1_146) rfl (tlt hc146).2.2.2 k) ?_
                          show Gl _ _ _ _ _ _ _ _ (TJ136.setTop (mkF m 149 #[.val (.int p1)] []))
                          exact J149  TJ136 _ XJ136 eJ136 NJ136
                        · refine go (fun t k => XS.icmpYes XJ136.here hx rfl (pc0 := 146) (pc' := 185) rfl (hb hby d1_146) rfl (flt hc146).2.2.2 (by decide) (by decide) k) ?_
                          show Gl _ _ _ _ _ _ _ _ (TJ136.setTop (mkF m 185 #[.val (.int p1)] []))
                          exact J185  TJ136 _ XJ136 eJ136 NJ136
                    refine gI (c := p1 < (11264 : Int32)) (fun hc126 => ?_) (fun hc126 => ?_)
                    · refine go (fun t k => XS.icmpYes XJ122.here hx rfl (pc0 := 126) (pc' := 136) rfl (hb hby d1_126) rfl (tlt hc126).1 (by decide) (by decide) k) ?_
                      show Gl _ _ _ _ _ _ _ _ (TJ122.setTop (mkF m 136 #[.val (.int p1)] []))
                      exact J136  TJ122 _ XJ122 eJ122 NJ122
                    · refine go (fun t k => XS.icmpNo XJ122.here hx rfl (hb hby d1_126) rfl (flt hc126).1 k) ?_
                      show Gl _ _ _ _ _ _ _ _ (TJ122.setTop (mkF m 129 #[.val (.int p1)] []))
                      refine go (fun t k => XS.iloadN XJ122.here hx rfl (hb hby d1_129) rfl  k) ?_
                      show Gl _ _ _ _ _ _ _ _ (TJ122.setTop (mkF m 130 #[.val (.int p1)] [(.int p1)]))
                      refine go (fun t k => XS.sipush XJ122.here hx rfl (hb hby d1_130) k) ?_
                      show Gl _ _ _ _ _ _ _ _ (TJ122.setTop (mkF m 133 #[.val (.int p1)] [(.int (12271 : Int32)), (.int p1)]))
                      refine gI (c := (12271 : Int32) < p1) (fun hc133 => ?_) (fun hc133 => ?_)
                      · refine go (fun t k => XS.icmpNo XJ122.here hx rfl (hb hby d1_133) rfl (tlt hc133).2.2.2 k) ?_
                        show Gl _ _ _ _ _ _ _ _ (TJ122.setTop (mkF m 136 #[.val (.int p1)] []))
                        exact J136  TJ122 _ XJ122 eJ122 NJ122
                      · refine go (fun t k => XS.icmpYes XJ122.here hx rfl (pc0 := 133) (pc' := 185) rfl (hb hby d1_133) rfl (flt hc133).2.2.2 (by decide) (by decide) k) ?_
                        show Gl _ _ _ _ _ _ _ _ (TJ122.setTop (mkF m 185 #[.val (.int p1)] []))
                        exact J185  TJ122 _ XJ122 eJ122 NJ122
                  refine gI (c := p1 < (8304 : Int32)) (fun hc112 => ?_) (fun hc112 => ?_)
                  · refine go (fun t k => XS.icmpYes XJ108.here hx rfl (pc0 := 112) (pc' := 122) rfl (hb hby d1_112) rfl (tlt hc112).1 (by decide) (by decide) k) ?_
                    show Gl _ _ _ _ _ _ _ _ (TJ108.setTop (mkF m 122 #[.val (.int p1)] []))
                    exact J122  TJ108 _ XJ108 eJ108 NJ108
                  · refine go (fun t k => XS.icmpNo XJ108.here hx rfl (hb hby d1_112) rfl (flt hc112).1 k) ?_
                    show Gl _ _ _ _ _ _ _ _ (TJ108.setTop (mkF m 115 #[.val (.int p1)] []))
                    refine go (fun t k => XS.iloadN XJ108.here hx rfl (hb hby d1_115) rfl  k) ?_
                    show Gl _ _ _ _ _ _ _ _ (TJ108.setTop (mkF m 116 #[.val (.int p1)] [(.int p1)]))
                    refine go (fun t k => XS.sipush XJ108.here hx rfl (hb hby d1_116) k) ?_
                    show Gl _ _ _ _ _ _ _ _ (TJ108.setTop (mkF m 119 #[.val (.int p1)] [(.int (8591 : Int32)), (.int p1)]))
                    refine gI (c := (8591 : Int32) < p1) (fun hc119 => ?_) (fun hc119 => ?_)
                    · refine go (fun t k => XS.icmpNo XJ108.here hx rfl (hb hby d1_119) rfl (tlt hc119).2.2.2 k) ?_
                      show Gl _ _ _ _ _ _ _ _ (TJ108.setTop (mkF m 122 #[.val (.int p1)] []))
                      exact J122  TJ108 _ XJ108 eJ108 NJ108
                    · refine go (fun t k => XS.icmpYes XJ108.here hx rfl (pc0 := 119) (pc' := 185) rfl (hb hby d1_119) rfl (flt hc119).2.2.2 (by decide) (by decide) k) ?_
                      show Gl _ _ _ _ _ _ _ _ (TJ108.setTop (mkF m 185 #[.val (.int p1)] []))
                      exact J185  TJ108 _ XJ108 eJ108 NJ108
                refine gI (c := p1 < (8204 : Int32)) (fun hc98 => ?_) (fun hc98 => ?_)
                · refine go (fun t k => XS.icmpYes XJ94.here hx rfl (pc0 := 98) (pc' := 108) rfl (hb hby d1_98) rfl (tlt hc98).1 (by decide) (by decide) k) ?_
                  show Gl _ _ _ _ _ _ _ _ (TJ94.setTop (mkF m 108 #[.val (.int p1)] []))
                  exact J108  TJ94 _ XJ94 eJ94 NJ94
                · refine go (fun t k => XS.icmpNo XJ94.here hx rfl (hb hby d1_98) rfl (flt hc98).1 k) ?_
                  show Gl _ _ _ _ _ _ _ _ (TJ94.setTop (mkF m 101 #[.val (.int p1)] []))
                  refine go (fun t k => XS.iloadN XJ94.here hx rfl (hb hby d1_101) rfl  k) ?_
                  show Gl _ _ _ _ _ _ _ _ (TJ94.setTop (mkF m 102 #[.val (.int p1)] [(.int p1)]))
                  refine go (fun t k => XS.sipush XJ94.here hx rfl (hb hby d1_102) k) ?_
                  show Gl _ _ _ _ _ _ _ _ (TJ94.setTop (mkF m 105 #[.val (.int p1)] [(.int (8205 : Int32)), (.int p1)]))
                  refine gI (c := (8205 : Int32) < p1) (fun hc105 => ?_) (fun hc105 => ?_)
                  · refine go (fun t k => XS.icmpNo XJ94.here hx rfl (hb hby d1_105) rfl (tlt hc105).2.2.2 k) ?_
                    show Gl _ _ _ _ _ _ _ _ (TJ94.setTop (mkF m 108 #[.val (.int p1)] []))
                    exact J108  TJ94 _ XJ94 eJ94 NJ94
                  · refine go (fun t k => XS.icmpYes XJ94.here hx rfl (pc0 := 105) (pc' := 185) rfl (hb hby d1_105) rfl (flt hc105).2.2.2 (by decide) (by decide) k) ?_
                    show Gl _ _ _ _ _ _ _ _ (TJ94.setTop (mkF m 185 #[.val (.int p1)] []))
                    exact J185  TJ94 _ XJ94 eJ94 NJ94
              refine gI (c := p1 < (895 : Int32)) (fun hc84 => ?_) (fun hc84 => ?_)
              · refine go (fun t k => XS.icmpYes XJ80.here hx rfl (pc0 := 84) (pc' := 94) rfl (hb hby d1_84) rfl (tlt hc84).1 (by decide) (by decide) k) ?_
                show Gl _ _ _ _ _ _ _ _ (TJ80.setTop (mkF m 94 #[.val (.int p1)] []))
                exact J94  TJ80 _ XJ80 eJ80 NJ80
              · refine go (fun t k => XS.icmpNo XJ80.here hx rfl (hb hby d1_84) rfl (flt hc84).1 k) ?_
                show Gl _ _ _ _ _ _ _ _ (TJ80.setTop (mkF m 87 #[.val (.int p1)] []))
                refine go (fun t k => XS.iloadN XJ80.here hx rfl (hb hby d1_87) rfl  k) ?_
                show Gl _ _ _ _ _ _ _ _ (TJ80.setTop (mkF m 88 #[.val (.int p1)] [(.int p1)]))
                refine go (fun t k => XS.sipush XJ80.here hx rfl (hb hby d1_88) k) ?_
                show Gl _ _ _ _ _ _ _ _ (TJ80.setTop (mkF m 91 #[.val (.int p1)] [(.int (8191 : Int32)), (.int p1)]))
                refine gI (c := (8191 : Int32) < p1) (fun hc91 => ?_) (fun hc91 => ?_)
                · refine go (fun t k => XS.icmpNo XJ80.here hx rfl (hb hby d1_91) rfl (tlt hc91).2.2.2 k) ?_
                  show Gl _ _ _ _ _ _ _ _ (TJ80.setTop (mkF m 94 #[.val (.int p1)] []))
                  exact J94  TJ80 _ XJ80 eJ80 NJ80
                · refine go (fun t k => XS.icmpYes XJ80.here hx rfl (pc0 := 91) (pc' := 185) rfl (hb hby d1_91) rfl (flt hc91).2.2.2 (by decide) (by decide) k) ?_
                  show Gl _ _ _ _ _ _ _ _ (TJ80.setTop (mkF m 185 #[.val (.int p1)] []))
                  exact J185  TJ80 _ XJ80 eJ80 NJ80
            refine gI (c := p1 < (880 : Int32)) (fun hc70 => ?_) (fun hc70 => ?_)
            · refine go (fun t k => XS.icmpYes XJ66.here hx rfl (pc0 := 70) (pc' := 80) rfl (hb hby d1_70) rfl (tlt hc70).1 (by decide) (by decide) k) ?_
              show Gl _ _ _ _ _ _ _ _ (TJ66.setTop (mkF m 80 #[.val (.int p1)] []))
              exact J80  TJ66 _ XJ66 eJ66 NJ66
            · refine go (fun t k => XS.icmpNo XJ66.here hx rfl (hb hby d1_70) rfl (flt hc70).1 k) ?_
              show Gl _ _ _ _ _ _ _ _ (TJ66.setTop (mkF m 73 #[.val (.int p1)] []))
              refine go (fun t k => XS.iloadN XJ66.here hx rfl (hb hby d1_73) rfl  k) ?_
              show Gl _ _ _ _ _ _ _ _ (TJ66.setTop (mkF m 74 #[.val (.int p1)] [(.int p1)]))
              refine go (fun t k => XS.sipush XJ66.here hx rfl (hb hby d1_74) k) ?_
              show Gl _ _ _ _ _ _ _ _ (TJ66.setTop (mkF m 77 #[.val (.int p1)] [(.int (893 : Int32)), (.int p1)]))
              refine gI (c := (893 : Int32) < p1) (fun hc77 => ?_) (fun hc77 => ?_)
              · refine go (fun t k => XS.icmpNo XJ66.here hx rfl (hb hby d1_77) rfl (tlt hc77).2.2.2 k) ?_
                show Gl _ _ _ _ _ _ _ _ (TJ66.setTop (mkF m 80 #[.val (.int p1)] []))
                exact J80  TJ66 _ XJ66 eJ66 NJ66
              · refine go (fun t k => XS.icmpYes XJ66.here hx rfl (pc0 := 77) (pc' := 185) rfl (hb hby d1_77) rfl (flt hc77).2.2.2 (by decide) (by decide) k) ?_
                show Gl _ _ _ _ _ _ _ _ (TJ66.setTop (mkF m 185 #[.val (.int p1)] []))
                exact J185  TJ66 _ XJ66 eJ66 NJ66
          refine gI (c := p1 < (248 : Int32)) (fun hc56 => ?_) (fun hc56 => ?_)
          · refine go (fun t k => XS.icmpYes XJ52.here hx rfl (pc0 := 56) (pc' := 66) rfl (hb hby d1_56) rfl (tlt hc56).1 (by decide) (by decide) k) ?_
            show Gl _ _ _ _ _ _ _ _ (TJ52.setTop (mkF m 66 #[.val (.int p1)] []))
            exact J66  TJ52 _ XJ52 eJ52 NJ52
          · refine go (fun t k => XS.icmpNo XJ52.here hx rfl (hb hby d1_56) rfl (flt hc56).1 k) ?_
            show Gl _ _ _ _ _ _ _ _ (TJ52.setTop (mkF m 59 #[.val (.int p1)] []))
            refine go (fun t k => XS.iloadN XJ52.here hx rfl (hb hby d1_59) rfl  k) ?_
            show Gl _ _ _ _ _ _ _ _ (TJ52.setTop (mkF m 60 #[.val (.int p1)] [(.int p1)]))
            refine go (fun t k => XS.sipush XJ52.here hx rfl (hb hby d1_60) k) ?_
            show Gl _ _ _ _ _ _ _ _ (TJ52.setTop (mkF m 63 #[.val (.int p1)] [(.int (767 : Int32)), (.int p1)]))
            refine gI (c := (767 : Int32) < p1) (fun hc63 => ?_) (fun hc63 => ?_)
            · refine go (fun t k => XS.icmpNo XJ52.here hx rfl (hb hby d1_63) rfl (tlt hc63).2.2.2 k) ?_
              show Gl _ _ _ _ _ _ _ _ (TJ52.setTop (mkF m 66 #[.val (.int p1)] []))
              exact J66  TJ52 _ XJ52 eJ52 NJ52
            · refine go (fun t k => XS.icmpYes XJ52.here hx rfl (pc0 := 63) (pc' := 185) rfl (hb hby d1_63) rfl (flt hc63).2.2.2 (by decide) (by decide) k) ?_
              show Gl _ _ _ _ _ _ _ _ (TJ52.setTop (mkF m 185 #[.val (.int p1)] []))
              exact J185  TJ52 _ XJ52 eJ52 NJ52
        refine gI (c := p1 < (216 : Int32)) (fun hc42 => ?_) (fun hc42 => ?_)
        · refine go (fun t k => XS.icmpYes XJ38.here hx rfl (pc0 := 42) (pc' := 52) rfl (hb hby d1_42) rfl (tlt hc42).1 (by decide) (by decide) k) ?_
          show Gl _ _ _ _ _ _ _ _ (TJ38.setTop (mkF m 52 #[.val (.int p1)] []))
          exact J52  TJ38 _ XJ38 eJ38 NJ38
        · refine go (fun t k => XS.icmpNo XJ38.here hx rfl (hb hby d1_42) rfl (flt hc42).1 k) ?_
          show Gl _ _ _ _ _ _ _ _ (TJ38.setTop (mkF m 45 #[.val (.int p1)] []))
          refine go (fun t k => XS.iloadN XJ38.here hx rfl (hb hby d1_45) rfl  k) ?_
          show Gl _ _ _ _ _ _ _ _ (TJ38.setTop (mkF m 46 #[.val (.int p1)] [(.int p1)]))
          refine go (fun t k => XS.sipush XJ38.here hx rfl (hb hby d1_46) k) ?_
          show Gl _ _ _ _ _ _ _ _ (TJ38.setTop (mkF m 49 #[.val (.int p1)] [(.int (246 : Int32)), (.int p1)]))
          refine gI (c := (246 : Int32) < p1) (fun hc49 => ?_) (fun hc49 => ?_)
          · refine go (fun t k => XS.icmpNo XJ38.here hx rfl (hb hby d1_49) rfl (tlt hc49).2.2.2 k) ?_
            show Gl _ _ _ _ _ _ _ _ (TJ38.setTop (mkF m 52 #[.val (.int p1)] []))
            exact J52  TJ38 _ XJ38 eJ38 NJ38
          · refine go (fun t k => XS.icmpYes XJ38.here hx rfl (pc0 := 49) (pc' := 185) rfl (hb hby d1_49) rfl (flt hc49).2.2.2 (by decide) (by decide) k) ?_
            show Gl _ _ _ _ _ _ _ _ (TJ38.setTop (mkF m 185 #[.val (.int p1)] []))
            exact J185  TJ38 _ XJ38 eJ38 NJ38
      refine gI (c := p1 < (192 : Int32)) (fun hc28 => ?_) (fun hc28 => ?_)
      · refine go (fun t k => XS.icmpYes XJ24.here hx rfl (pc0 := 28) (pc' := 38) rfl (hb hby d1_28) rfl (tlt hc28).1 (by decide) (by decide) k) ?_
        show Gl _ _ _ _ _ _ _ _ (TJ24.setTop (mkF m 38 #[.val (.int p1)] []))
        exact J38  TJ24 _ XJ24 eJ24 NJ24
      · refine go (fun t k => XS.icmpNo XJ24.here hx rfl (hb hby d1_28) rfl (flt hc28).1 k) ?_
        show Gl _ _ _ _ _ _ _ _ (TJ24.setTop (mkF m 31 #[.val (.int p1)] []))
        refine go (fun t k => XS.iloadN XJ24.here hx rfl (hb hby d1_31) rfl  k) ?_
        show Gl _ _ _ _ _ _ _ _ (TJ24.setTop (mkF m 32 #[.val (.int p1)] [(.int p1)]))
        refine go (fun t k => XS.sipush XJ24.here hx rfl (hb hby d1_32) k) ?_
        show Gl _ _ _ _ _ _ _ _ (TJ24.setTop (mkF m 35 #[.val (.int p1)] [(.int (214 : Int32)), (.int p1)]))
        refine gI (c := (214 : Int32) < p1) (fun hc35 => ?_) (fun hc35 => ?_)
        · refine go (fun t k => XS.icmpNo XJ24.here hx rfl (hb hby d1_35) rfl (tlt hc35).2.2.2 k) ?_
          show Gl _ _ _ _ _ _ _ _ (TJ24.setTop (mkF m 38 #[.val (.int p1)] []))
          exact J38  TJ24 _ XJ24 eJ24 NJ24
        · refine go (fun t k => XS.icmpYes XJ24.here hx rfl (pc0 := 35) (pc' := 185) rfl (hb hby d1_35) rfl (flt hc35).2.2.2 (by decide) (by decide) k) ?_
          show Gl _ _ _ _ _ _ _ _ (TJ24.setTop (mkF m 185 #[.val (.int p1)] []))
          exact J185  TJ24 _ XJ24 eJ24 NJ24
    refine gI (c := p1 < (65 : Int32)) (fun hc15 => ?_) (fun hc15 => ?_)
    · refine go (fun t k => XS.icmpYes XJ12.here hx rfl (pc0 := 15) (pc' := 24) rfl (hb hby d1_15) rfl (tlt hc15).1 (by decide) (by decide) k) ?_
      show Gl _ _ _ _ _ _ _ _ (TJ12.setTop (mkF m 24 #[.val (.int p1)] []))
      exact J24  TJ12 _ XJ12 eJ12 NJ12
    · refine go (fun t k => XS.icmpNo XJ12.here hx rfl (hb hby d1_15) rfl (flt hc15).1 k) ?_
      show Gl _ _ _ _ _ _ _ _ (TJ12.setTop (mkF m 18 #[.val (.int p1)] []))
      refine go (fun t k => XS.iloadN XJ12.here hx rfl (hb hby d1_18) rfl  k) ?_
      show Gl _ _ _ _ _ _ _ _ (TJ12.setTop (mkF m 19 #[.val (.int p1)] [(.int p1)]))
      refine go (fun t k => XS.bipush XJ12.here hx rfl (hb hby d1_19) k) ?_
      show Gl _ _ _ _ _ _ _ _ (TJ12.setTop (mkF m 21 #[.val (.int p1)] [(.int (90 : Int32)), (.int p1)]))
      refine gI (c := (90 : Int32) < p1) (fun hc21 => ?_) (fun hc21 => ?_)
      · refine go (fun t k => XS.icmpNo XJ12.here hx rfl (hb hby d1_21) rfl (tlt hc21).2.2.2 k) ?_
        show Gl _ _ _ _ _ _ _ _ (TJ12.setTop (mkF m 24 #[.val (.int p1)] []))
        exact J24  TJ12 _ XJ12 eJ12 NJ12
      · refine go (fun t k => XS.icmpYes XJ12.here hx rfl (pc0 := 21) (pc' := 185) rfl (hb hby d1_21) rfl (flt hc21).2.2.2 (by decide) (by decide) k) ?_
        show Gl _ _ _ _ _ _ _ _ (TJ12.setTop (mkF m 185 #[.val (.int p1)] []))
        exact J185  TJ12 _ XJ12 eJ12 NJ12
  refine gI (c := p1 < (97 : Int32)) (fun hc3 => ?_) (fun hc3 => ?_)
  · refine go (fun t k => XS.icmpYes X0.here hx rfl (pc0 := 3) (pc' := 12) rfl (hb hby d1_3) rfl (tlt hc3).1 (by decide) (by decide) k) ?_
    show Gl _ _ _ _ _ _ _ _ (s₁.setTop (mkF m 12 #[.val (.int p1)] []))
    exact J12  s₁ _ X0 e0 N0
  · refine go (fun t k => XS.icmpNo X0.here hx rfl (hb hby d1_3) rfl (flt hc3).1 k) ?_
    show Gl _ _ _ _ _ _ _ _ (s₁.setTop (mkF m 6 #[.val (.int p1)] []))
    refine go (fun t k => XS.iloadN X0.here hx rfl (hb hby d1_6) rfl  k) ?_
    show Gl _ _ _ _ _ _ _ _ (s₁.setTop (mkF m 7 #[.val (.int p1)] [(.int p1)]))
    refine go (fun t k => XS.bipush X0.here hx rfl (hb hby d1_7) k) ?_
    show Gl _ _ _ _ _ _ _ _ (s₁.setTop (mkF m 9 #[.val (.int p1)] [(.int (122 : Int32)), (.int p1)]))
    refine gI (c := (122 : Int32) < p1) (fun hc9 => ?_) (fun hc9 => ?_)
    · refine go (fun t k => XS.icmpNo X0.here hx rfl (hb hby d1_9) rfl (tlt hc9).2.2.2 k) ?_
      show Gl _ _ _ _ _ _ _ _ (s₁.setTop (mkF m 12 #[.val (.int p1)] []))
      exact J12  s₁ _ X0 e0 N0
    · refine go (fun t k => XS.icmpYes X0.here hx rfl (pc0 := 9) (pc' := 185) rfl (hb hby d1_9) rfl (flt hc9).2.2.2 (by decide) (by decide) k) ?_
      show Gl _ _ _ _ _ _ _ _ (s₁.setTop (mkF m 185 #[.val (.int p1)] []))
      exact J185  s₁ _ X0 e0 N0
theorem d2_0 : decode method_2_code 0 = .ok (.iload_n 0, 1) := by decide +kernel
theorem d2_1 : decode method_2_code 1 = .ok (.bipush 65, 2) := by decide +kernel
theorem d2_3 : decode method_2_code 3 = .ok (.if_icmp .lt 161, 3) := by decide +kernel
theorem d2_6 : decode method_2_code 6 = .ok (.iload_n 0, 1) := by decide +kernel
theorem d2_7 : decode method_2_code 7 = .ok (.bipush 90, 2) := by decide +kernel
theorem d2_9 : decode method_2_code 9 = .ok (.if_icmp .le 9, 3) := by decide +kernel
theorem d2_12 : decode method_2_code 12 = .ok (.iload_n 0, 1) := by decide +kernel
theorem d2_13 : decode method_2_code 13 = .ok (.bipush 97, 2) := by decide +kernel
theorem d2_15 : decode method_2_code 15 = .ok (.if_icmp .lt 149, 3) := by decide +kernel
theorem d2_18 : decode method_2_code 18 = .ok (.iload_n 0, 1) := by decide +kernel
theorem d2_19 : decode method_2_code 19 = .ok (.bipush 122, 2) := by decide +kernel
theorem d2_21 : decode method_2_code 21 = .ok (.if_icmp .le 10, 3) := by decide +kernel
theorem d2_24 : decode method_2_code 24 = .ok (.iload_n 0, 1) := by decide +kernel
theorem d2_25 : decode method_2_code 25 = .ok (.sipush 192, 3) := by decide +kernel
theorem d2_28 : decode method_2_code 28 = .ok (.if_icmp .lt 136, 3) := by decide +kernel
theorem d2_31 : decode method_2_code 31 = .ok (.iload_n 0, 1) := by decide +kernel
theorem d2_32 : decode method_2_code 32 = .ok (.sipush 215, 3) := by decide +kernel
theorem d2_35 : decode method_2_code 35 = .ok (.if_icmp .eq 129, 3) := by decide +kernel
theorem d2_38 : decode method_2_code 38 = .ok (.iload_n 0, 1) := by decide +kernel
theorem d2_39 : decode method_2_code 39 = .ok (.sipush 247, 3) := by decide +kernel
theorem d2_42 : decode method_2_code 42 = .ok (.if_icmp .eq 122, 3) := by decide +kernel
theorem d2_45 : decode method_2_code 45 = .ok (.iload_n 0, 1) := by decide +kernel
theorem d2_46 : decode method_2_code 46 = .ok (.sipush 768, 3) := by decide +kernel
theorem d2_49 : decode method_2_code 49 = .ok (.if_icmp .lt 10, 3) := by decide +kernel
theorem d2_52 : decode method_2_code 52 = .ok (.iload_n 0, 1) := by decide +kernel
theorem d2_53 : decode method_2_code 53 = .ok (.sipush 879, 3) := by decide +kernel
theorem d2_56 : decode method_2_code 56 = .ok (.if_icmp .le 108, 3) := by decide +kernel
theorem d2_59 : decode method_2_code 59 = .ok (.iload_n 0, 1) := by decide +kernel
theorem d2_60 : decode method_2_code 60 = .ok (.sipush 894, 3) := by decide +kernel
theorem d2_63 : decode method_2_code 63 = .ok (.if_icmp .eq 101, 3) := by decide +kernel
theorem d2_66 : decode method_2_code 66 = .ok (.iload_n 0, 1) := by decide +kernel
theorem d2_67 : decode method_2_code 67 = .ok (.sipush 8192, 3) := by decide +kernel
theorem d2_70 : decode method_2_code 70 = .ok (.if_icmp .lt 10, 3) := by decide +kernel
theorem d2_73 : decode method_2_code 73 = .ok (.iload_n 0, 1) := by decide +kernel
theorem d2_74 : decode method_2_code 74 = .ok (.sipush 8203, 3) := by decide +kernel
theorem d2_77 : decode method_2_code 77 = .ok (.if_icmp .le 87, 3) := by decide +kernel
theorem d2_80 : decode method_2_code 80 = .ok (.iload_n 0, 1) := by decide +kernel
theorem d2_81 : decode method_2_code 81 = .ok (.sipush 8206, 3) := by decide +kernel
theorem d2_84 : decode method_2_code 84 = .ok (.if_icmp .lt 10, 3) := by decide +kernel
theorem d2_87 : decode method_2_code 87 = .ok (.iload_n 0, 1) := by decide +kernel
theorem d2_88 : decode method_2_code 88 = .ok (.sipush 8303, 3) := by decide +kernel
theorem d2_91 : decode method_2_code 91 = .ok (.if_icmp .le 73, 3) := by decide +kernel
theorem d2_94 : decode method_2_code 94 = .ok (.iload_n 0, 1) := by decide +kernel
theorem d2_95 : decode method_2_code 95 = .ok (.sipush 8592, 3) := by decide +kernel
theorem d2_98 : decode method_2_code 98 = .ok (.if_icmp .lt 10, 3) := by decide +kernel
theorem d2_101 : decode method_2_code 101 = .ok (.iload_n 0, 1) := by decide +kernel
theorem d2_102 : decode method_2_code 102 = .ok (.sipush 11263, 3) := by decide +kernel
theorem d2_105 : decode method_2_code 105 = .ok (.if_icmp .le 59, 3) := by decide +kernel
theorem d2_108 : decode method_2_code 108 = .ok (.iload_n 0, 1) := by decide +kernel
theorem d2_109 : decode method_2_code 109 = .ok (.sipush 12272, 3) := by decide +kernel
theorem d2_112 : decode method_2_code 112 = .ok (.if_icmp .lt 10, 3) := by decide +kernel
theorem d2_115 : decode method_2_code 115 = .ok (.iload_n 0, 1) := by decide +kernel
theorem d2_116 : decode method_2_code 116 = .ok (.sipush 12288, 3) := by decide +kernel
theorem d2_119 : decode method_2_code 119 = .ok (.if_icmp .le 45, 3) := by decide +kernel
theorem d2_122 : decode method_2_code 122 = .ok (.iload_n 0, 1) := by decide +kernel
theorem d2_123 : decode method_2_code 123 = .ok (.ldc 7, 2) := by decide +kernel
theorem d2_125 : decode method_2_code 125 = .ok (.if_icmp .lt 9, 3) := by decide +kernel
theorem d2_128 : decode method_2_code 128 = .ok (.iload_n 0, 1) := by decide +kernel
theorem d2_129 : decode method_2_code 129 = .ok (.ldc 8, 2) := by decide +kernel
theorem d2_131 : decode method_2_code 131 = .ok (.if_icmp .le 33, 3) := by decide +kernel
theorem d2_134 : decode method_2_code 134 = .ok (.iload_n 0, 1) := by decide +kernel
theorem d2_135 : decode method_2_code 135 = .ok (.ldc 9, 2) := by decide +kernel
theorem d2_137 : decode method_2_code 137 = .ok (.if_icmp .lt 9, 3) := by decide +kernel
theorem d2_140 : decode method_2_code 140 = .ok (.iload_n 0, 1) := by decide +kernel
theorem d2_141 : decode method_2_code 141 = .ok (.ldc 10, 2) := by decide +kernel
theorem d2_143 : decode method_2_code 143 = .ok (.if_icmp .le 21, 3) := by decide +kernel
theorem d2_146 : decode method_2_code 146 = .ok (.iload_n 0, 1) := by decide +kernel
theorem d2_147 : decode method_2_code 147 = .ok (.ldc 11, 2) := by decide +kernel
theorem d2_149 : decode method_2_code 149 = .ok (.if_icmp .lt 9, 3) := by decide +kernel
theorem d2_152 : decode method_2_code 152 = .ok (.iload_n 0, 1) := by decide +kernel
theorem d2_153 : decode method_2_code 153 = .ok (.ldc 12, 2) := by decide +kernel
theorem d2_155 : decode method_2_code 155 = .ok (.if_icmp .le 9, 3) := by decide +kernel
theorem d2_158 : decode method_2_code 158 = .ok (.iload_n 0, 1) := by decide +kernel
theorem d2_159 : decode method_2_code 159 = .ok (.ldc 13, 2) := by decide +kernel
theorem d2_161 : decode method_2_code 161 = .ok (.if_icmp .le 7, 3) := by decide +kernel
theorem d2_164 : decode method_2_code 164 = .ok (.iconst 1, 1) := by decide +kernel
theorem d2_165 : decode method_2_code 165 = .ok (.goto 4, 3) := by decide +kernel
theorem d2_168 : decode method_2_code 168 = .ok (.iconst 0, 1) := by decide +kernel
theorem d2_169 : decode method_2_code 169 = .ok (.ireturn, 1) := by decide +kernel
theorem pn_1 : plainName "com/example/tercet/tercet/XmlNameCharactersIsNameLetterPinLaw" = true := by first | (simp [plainName, overriddenIn]; done) | decide +kernel
theorem ef_2 (m : MethodId) (p1 : Int32) : entryFrame m #[(.int p1)] 1 = mkF m 0 #[.val (.int p1)] [] := by first | (simp [entryFrame, mkF, argsToLocals, Value.category]; done) | rfl
def b2_169 (s0_169 : Int32) : Int32 := (nar .boolean s0_169)
def b2_164  : Int32 := (b2_169 (1 : Int32))
def b2_158 (p1 : Int32) : Int32 := (if (983039 : Int32) < p1 then b2_164 else (b2_169 (0 : Int32)))
def b2_146 (p1 : Int32) : Int32 := (if p1 < (65534 : Int32) then (b2_158 p1) else (if (65535 : Int32) < p1 then (b2_158 p1) else b2_164))
def b2_134 (p1 : Int32) : Int32 := (if p1 < (64976 : Int32) then (b2_146 p1) else (if (65007 : Int32) < p1 then (b2_146 p1) else b2_164))
def b2_122 (p1 : Int32) : Int32 := (if p1 < (55296 : Int32) then (b2_134 p1) else (if (63743 : Int32) < p1 then (b2_134 p1) else b2_164))
def b2_108 (p1 : Int32) : Int32 := (if p1 < (12272 : Int32) then (b2_122 p1) else (if (12288 : Int32) < p1 then (b2_122 p1) else b2_164))
def b2_94 (p1 : Int32) : Int32 := (if p1 < (8592 : Int32) then (b2_108 p1) else (if (11263 : Int32) < p1 then (b2_108 p1) else b2_164))
def b2_80 (p1 : Int32) : Int32 := (if p1 < (8206 : Int32) then (b2_94 p1) else (if (8303 : Int32) < p1 then (b2_94 p1) else b2_164))
def b2_59 (p1 : Int32) : Int32 := (if p1 = (894 : Int32) then b2_164 else (if p1 < (8192 : Int32) then (b2_80 p1) else (if (8203 : Int32) < p1 then (b2_80 p1) else b2_164)))
def b2_31 (p1 : Int32) : Int32 := (if p1 = (215 : Int32) then b2_164 else (if p1 = (247 : Int32) then b2_164 else (if p1 < (768 : Int32) then (b2_59 p1) else (if (879 : Int32) < p1 then (b2_59 p1) else b2_164))))
def b2_18 (p1 : Int32) : Int32 := (if (122 : Int32) < p1 then (if p1 < (192 : Int32) then b2_164 else (b2_31 p1)) else (b2_31 p1))
def b2_0 (p1 : Int32) : Int32 := (if p1 < (65 : Int32) then b2_164 else (if (90 : Int32) < p1 then (if p1 < (97 : Int32) then b2_164 else (b2_18 p1)) else (b2_18 p1)))
set_option maxRecDepth 65536 in
set_option maxHeartbeats 40000000 in
theorem rm2 (l : Launch) (Z : State) (a0 : Array Value) (hw : ∀ d ∈ tables_1, d.before a0 Z = true) (ws : List Jvm.Cond) (p1 : Int32) (h0 : Heap) (n0 : Nat) (Z0 : n0 ≤ h0.size) :
    MetFree l (⟨"com/example/tercet/tercet/XmlNameCharactersIsNameLetterPinLaw", "excluded", "(I)Z"⟩ : MethodName) (head1 (Jvm.Cond.code (⟨"com/example/tercet/tercet/XmlNameCharactersIsNameLetterPinLaw", "excluded", "(I)Z"⟩ : MethodName) method_2_code 1 (some .boolean) :: ws) ({ frames := 0, cells := 0, slots := 0, locals := 0 } : Room)) (fun a U => a = #[(.int p1)] ∧ Z.Warmed39 U.vm ∧ U.heap = h0) (fun _ _ _ _ _ => True) (fun _ U o U' => ∃ v L, o = .returned v ∧ QK n0 (Kv (some (.int (b2_0 p1))) (fun h => h = h0)) v U'.heap L ∧ FrameEnd U o U' L ({ frames := 0, cells := 0, slots := 0, locals := 0 } : Room).cells ({ frames := 0, cells := 0, slots := 0, locals := 0 } : Room).slots) := by
  refine MetFree.of_bodySF (plainFor_of_name pn_1) hisR ?_
  intro p e s m args below meth c s₁ Bd hml0 hP hK
  obtain ⟨rfl, hZ, hh⟩ := hP
  have hx := Bd.exec
  have hby := Bd.bytes
  have hml : c.maxLocals = 1 := hml0
  have hown : s.vm.findClass "com/example/tercet/tercet/XmlNameCharactersIsNameLetterPinLaw" = some m.cls := findClass_of_methodNamed Bd.named
  have hnm := (name_of_methodNamed Bd.named Bd.method).1
  have X0 : Stand p l e ({ frames := 0, cells := 0, slots := 0, locals := 0 } : Room) s m #[(.int p1)] below meth c s₁ [] 0 0 := Stand.of_body Bd
  have e0 : s₁.heap = h0 := by rw [← hh, Bd.state]; rfl
  have N0 := Fr.nil n0
  refine gl_start (ef_2 m p1) ?_
  show Gl p e below s n0 ({ frames := 0, cells := 0, slots := 0, locals := 0 } : Room).cells ({ frames := 0, cells := 0, slots := 0, locals := 0 } : Room).slots (Kv (some (.int (if p1 < (65 : Int32) then b2_164 else (if (90 : Int32) < p1 then (if p1 < (97 : Int32) then b2_164 else (b2_18 p1)) else (b2_18 p1))))) (fun h => h = h0)) (s₁.setTop (mkF m 0 #[.val (.int p1)] []))
  refine go (fun t k => XS.iloadN X0.here hx rfl (hb hby d2_0) rfl  k) ?_
  show Gl _ _ _ _ _ _ _ _ (s₁.setTop (mkF m 1 #[.val (.int p1)] [(.int p1)]))
  refine go (fun t k => XS.bipush X0.here hx rfl (hb hby d2_1) k) ?_
  show Gl _ _ _ _ _ _ _ _ (s₁.setTop (mkF m 3 #[.val (.int p1)] [(.int (65 : Int32)), (.int p1)]))
  have J169 : ∀ (s0_169 : Int32) (TJ169 : State) (lJ169 : List Loc) (XJ169 : Stand p l e ({ frames := 0, cells := 0, slots := 0, locals := 0 } : Room) s m #[(.int p1)] below meth c TJ169 lJ169 0 0) (eJ169 : TJ169.heap = h0) (NJ169 : Fr n0 lJ169), Gl p e below s n0 ({ frames := 0, cells := 0, slots := 0, locals := 0 } : Room).cells ({ frames := 0, cells := 0, slots := 0, locals := 0 } : Room).slots (Kv (some (.int (b2_169 s0_169))) (fun h => h = h0)) (TJ169.setTop (mkF m 169 #[.val (.int p1)] [(.int s0_169)])) := by
    intro s0_169 TJ169 lJ169 XJ169 eJ169 NJ169
    show Gl _ _ _ _ _ _ _ (Kv (some (.int (nar .boolean s0_169))) _) _
    exact endN XJ169 hx Bd (t := .boolean) (by simp) (hb hby d2_169) ⟨rfl, eJ169⟩ NJ169 (by decide) (by decide)
  have J164 : ∀  (TJ164 : State) (lJ164 : List Loc) (XJ164 : Stand p l e ({ frames := 0, cells := 0, slots := 0, locals := 0 } : Room) s m #[(.int p1)] below meth c TJ164 lJ164 0 0) (eJ164 : TJ164.heap = h0) (NJ164 : Fr n0 lJ164), Gl p e below s n0 ({ frames := 0, cells := 0, slots := 0, locals := 0 } : Room).cells ({ frames := 0, cells := 0, slots := 0, locals := 0 } : Room).slots (Kv (some (.int b2_164)) (fun h => h = h0)) (TJ164.setTop (mkF m 164 #[.val (.int p1)] [])) := by
    intro  TJ164 lJ164 XJ164 eJ164 NJ164
    show Gl _ _ _ _ _ _ _ (Kv (some (.int (b2_169 (1 : Int32)))) _) _
    refine go (fun t k => XS.iconst XJ164.here hx rfl (hb hby d2_164) k) ?_
    show Gl _ _ _ _ _ _ _ _ (TJ164.setTop (mkF m 165 #[.val (.int p1)] [(.int (1 : Int32))]))
    refine go (fun t k => XS.goto XJ164.here hx rfl (pc0 := 165) (pc' := 169) rfl (hb hby d2_165) (by decide) (by decide) k) ?_
    show Gl _ _ _ _ _ _ _ _ (TJ164.setTop (mkF m 169 #[.val (.int p1)] [(.int (1 : Int32))]))
    exact J169 (1 : Int32) TJ164 _ XJ164 eJ164 NJ164
  refine gI (c := p1 < (65 : Int32)) (fun hc3 => ?_) (fun hc3 => ?_)
  · refine go (fun t k => XS.icmpYes X0.here hx rfl (pc0 := 3) (pc' := 164) rfl (hb hby d2_3) rfl (tlt hc3).1 (by decide) (by decide) k) ?_
    show Gl _ _ _ _ _ _ _ _ (s₁.setTop (mkF m 164 #[.val (.int p1)] []))
    exact J164  s₁ _ X0 e0 N0
  · refine go (fun t k => XS.icmpNo X0.here hx rfl (hb hby d2_3) rfl (flt hc3).1 k) ?_
    show Gl _ _ _ _ _ _ _ _ (s₁.setTop (mkF m 6 #[.val (.int p1)] []))
    refine go (fun t k => XS.iloadN X0.here hx rfl (hb hby d2_6) rfl  k) ?_
    show Gl _ _ _ _ _ _ _ _ (s₁.setTop (mkF m 7 #[.val (.int p1)] [(.int p1)]))
    refine go (fun t k => XS.bipush X0.here hx rfl (hb hby d2_7) k) ?_
    show Gl _ _ _ _ _ _ _ _ (s₁.setTop (mkF m 9 #[.val (.int p1)] [(.int (90 : Int32)), (.int p1)]))
    have J18 : ∀  (TJ18 : State) (lJ18 : List Loc) (XJ18 : Stand p l e ({ frames := 0, cells := 0, slots := 0, locals := 0 } : Room) s m #[(.int p1)] below meth c TJ18 lJ18 0 0) (eJ18 : TJ18.heap = h0) (NJ18 : Fr n0 lJ18), Gl p e below s n0 ({ frames := 0, cells := 0, slots := 0, locals := 0 } : Room).cells ({ frames := 0, cells := 0, slots := 0, locals := 0 } : Room).slots (Kv (some (.int (b2_18 p1))) (fun h => h = h0)) (TJ18.setTop (mkF m 18 #[.val (.int p1)] [])) := by
      intro  TJ18 lJ18 XJ18 eJ18 NJ18
      show Gl _ _ _ _ _ _ _ (Kv (some (.int (if (122 : Int32) < p1 then (if p1 < (192 : Int32) then b2_164 else (b2_31 p1)) else (b2_31 p1)))) _) _
      refine go (fun t k => XS.iloadN XJ18.here hx rfl (hb hby d2_18) rfl  k) ?_
      show Gl _ _ _ _ _ _ _ _ (TJ18.setTop (mkF m 19 #[.val (.int p1)] [(.int p1)]))
      refine go (fun t k => XS.bipush XJ18.here hx rfl (hb hby d2_19) k) ?_
      show Gl _ _ _ _ _ _ _ _ (TJ18.setTop (mkF m 21 #[.val (.int p1)] [(.int (122 : Int32)), (.int p1)]))
      have J31 : ∀  (TJ31 : State) (lJ31 : List Loc) (XJ31 : Stand p l e ({ frames := 0, cells := 0, slots := 0, locals := 0 } : Room) s m #[(.int p1)] below meth c TJ31 lJ31 0 0) (eJ31 : TJ31.heap = h0) (NJ31 : Fr n0 lJ31), Gl p e below s n0 ({ frames := 0, cells := 0, slots := 0, locals := 0 } : Room).cells ({ frames := 0, cells := 0, slots := 0, locals := 0 } : Room).slots (Kv (some (.int (b2_31 p1))) (fun h => h = h0)) (TJ31.setTop (mkF m 31 #[.val (.int p1)] [])) := by
        intro  TJ31 lJ31 XJ31 eJ31 NJ31
        show Gl _ _ _ _ _ _ _ (Kv (some (.int (if p1 = (215 : Int32) then b2_164 else (if p1 = (247 : Int32) then b2_164 else (if p1 < (768 : Int32) then (b2_59 p1) else (if (879 : Int32) < p1 then (b2_59 p1) else b2_164)))))) _) _
        refine go (fun t k => XS.iloadN XJ31.here hx rfl (hb hby d2_31) rfl  k) ?_
        show Gl _ _ _ _ _ _ _ _ (TJ31.setTop (mkF m 32 #[.val (.int p1)] [(.int p1)]))
        refine go (fun t k => XS.sipush XJ31.here hx rfl (hb hby d2_32) k) ?_
        show Gl _ _ _ _ _ _ _ _ (TJ31.setTop (mkF m 35 #[.val (.int p1)] [(.int (215 : Int32)), (.int p1)]))
        refine gI (c := p1 = (215 : Int32)) (fun hc35 => ?_) (fun hc35 => ?_)
        · refine go (fun t k => XS.icmpYes XJ31.here hx rfl (pc0 := 35) (pc' := 164) rfl (hb hby d2_35) rfl (teq hc35).1 (by decide) (by decide) k) ?_
          show Gl _ _ _ _ _ _ _ _ (TJ31.setTop (mkF m 164 #[.val (.int p1)] []))
          exact J164  TJ31 _ XJ31 eJ31 NJ31
        · refine go (fun t k => XS.icmpNo XJ31.here hx rfl (hb hby d2_35) rfl (feq hc35).1 k) ?_
          show Gl _ _ _ _ _ _ _ _ (TJ31.setTop (mkF m 38 #[.val (.int p1)] []))
          refine go (fun t k => XS.iloadN XJ31.here hx rfl (hb hby d2_38) rfl  k) ?_
          show Gl _ _ _ _ _ _ _ _ (TJ31.setTop (mkF m 39 #[.val (.int p1)] [(.int p1)]))
          refine go (fun t k => XS.sipush XJ31.here hx rfl (hb hby d2_39) k) ?_
          show Gl _ _ _ _ _ _ _ _ (TJ31.setTop (mkF m 42 #[.val (.int p1)] [(.int (247 : Int32)), (.int p1)]))
          refine gI (c := p1 = (247 : Int32)) (fun hc42 => ?_) (fun hc42 => ?_)
          · refine go (fun t k => XS.icmpYes XJ31.here hx rfl (pc0 := 42) (pc' := 164) rfl (hb hby d2_42) rfl (teq hc42).1 (by decide) (by decide) k) ?_
            show Gl _ _ _ _ _ _ _ _ (TJ31.setTop (mkF m 164 #[.val (.int p1)] []))
            exact J164  TJ31 _ XJ31 eJ31 NJ31
          · refine go (fun t k => XS.icmpNo XJ31.here hx rfl (hb hby d2_42) rfl (feq hc42).1 k) ?_
            show Gl _ _ _ _ _ _ _ _ (TJ31.setTop (mkF m 45 #[.val (.int p1)] []))
            refine go (fun t k => XS.iloadN XJ31.here hx rfl (hb hby d2_45) rfl  k) ?_
            show Gl _ _ _ _ _ _ _ _ (TJ31.setTop (mkF m 46 #[.val (.int p1)] [(.int p1)]))
            refine go (fun t k => XS.sipush XJ31.here hx rfl (hb hby d2_46) k) ?_
            show Gl _ _ _ _ _ _ _ _ (TJ31.setTop (mkF m 49 #[.val (.int p1)] [(.int (768 : Int32)), (.int p1)]))
            have J59 : ∀  (TJ59 : State) (lJ59 : List Loc) (XJ59 : Stand p l e ({ frames := 0, cells := 0, slots := 0, locals := 0 } : Room) s m #[(.int p1)] below meth c TJ59 lJ59 0 0) (eJ59 : TJ59.heap = h0) (NJ59 : Fr n0 lJ59), Gl p e below s n0 ({ frames := 0, cells := 0, slots := 0, locals := 0 } : Room).cells ({ frames := 0, cells := 0, slots := 0, locals := 0 } : Room).slots (Kv (some (.int (b2_59 p1))) (fun h => h = h0)) (TJ59.setTop (mkF m 59 #[.val (.int p1)] [])) := by
              intro  TJ59 lJ59 XJ59 eJ59 NJ59
              show Gl _ _ _ _ _ _ _ (Kv (some (.int (if p1 = (894 : Int32) then b2_164 else (if p1 < (8192 : Int32) then (b2_80 p1) else (if (8203 : Int32) < p1 then (b2_80 p1) else b2_164))))) _) _
              refine go (fun t k => XS.iloadN XJ59.here hx rfl (hb hby d2_59) rfl  k) ?_
              show Gl _ _ _ _ _ _ _ _ (TJ59.setTop (mkF m 60 #[.val (.int p1)] [(.int p1)]))
              refine go (fun t k => XS.sipush XJ59.here hx rfl (hb hby d2_60) k) ?_
              show Gl _ _ _ _ _ _ _ _ (TJ59.setTop (mkF m 63 #[.val (.int p1)] [(.int (894 : Int32)), (.int p1)]))
              refine gI (c := p1 = (894 : Int32)) (fun hc63 => ?_) (fun hc63 => ?_)
              · refine go (fun t k => XS.icmpYes XJ59.here hx rfl (pc0 := 63) (pc' := 164) rfl (hb hby d2_63) rfl (teq hc63).1 (by decide) (by decide) k) ?_
                show Gl _ _ _ _ _ _ _ _ (TJ59.setTop (mkF m 164 #[.val (.int p1)] []))
                exact J164  TJ59 _ XJ59 eJ59 NJ59
              · refine go (fun t k => XS.icmpNo XJ59.here hx rfl (hb hby d2_63) rfl (feq hc63).1 k) ?_
                show Gl _ _ _ _ _ _ _ _ (TJ59.setTop (mkF m 66 #[.val (.int p1)] []))
                refine go (fun t k => XS.iloadN XJ59.here hx rfl (hb hby d2_66) rfl  k) ?_
                show Gl _ _ _ _ _ _ _ _ (TJ59.setTop (mkF m 67 #[.val (.int p1)] [(.int p1)]))
                refine go (fun t k => XS.sipush XJ59.here hx rfl (hb hby d2_67) k) ?_
                show Gl _ _ _ _ _ _ _ _ (TJ59.setTop (mkF m 70 #[.val (.int p1)] [(.int (8192 : Int32)), (.int p1)]))
                have J80 : ∀  (TJ80 : State) (lJ80 : List Loc) (XJ80 : Stand p l e ({ frames := 0, cells := 0, slots := 0, locals := 0 } : Room) s m #[(.int p1)] below meth c TJ80 lJ80 0 0) (eJ80 : TJ80.heap = h0) (NJ80 : Fr n0 lJ80), Gl p e below s n0 ({ frames := 0, cells := 0, slots := 0, locals := 0 } : Room).cells ({ frames := 0, cells := 0, slots := 0, locals := 0 } : Room).slots (Kv (some (.int (b2_80 p1))) (fun h => h = h0)) (TJ80.setTop (mkF m 80 #[.val (.int p1)] [])) := by
                  intro  TJ80 lJ80 XJ80 eJ80 NJ80
                  show Gl _ _ _ _ _ _ _ (Kv (some (.int (if p1 < (8206 : Int32) then (b2_94 p1) else (if (8303 : Int32) < p1 then (b2_94 p1) else b2_164)))) _) _
                  refine go (fun t k => XS.iloadN XJ80.here hx rfl (hb hby d2_80) rfl  k) ?_
                  show Gl _ _ _ _ _ _ _ _ (TJ80.setTop (mkF m 81 #[.val (.int p1)] [(.int p1)]))
                  refine go (fun t k => XS.sipush XJ80.here hx rfl (hb hby d2_81) k) ?_
                  show Gl _ _ _ _ _ _ _ _ (TJ80.setTop (mkF m 84 #[.val (.int p1)] [(.int (8206 : Int32)), (.int p1)]))
                  have J94 : ∀  (TJ94 : State) (lJ94 : List Loc) (XJ94 : Stand p l e ({ frames := 0, cells := 0, slots := 0, locals := 0 } : Room) s m #[(.int p1)] below meth c TJ94 lJ94 0 0) (eJ94 : TJ94.heap = h0) (NJ94 : Fr n0 lJ94), Gl p e below s n0 ({ frames := 0, cells := 0, slots := 0, locals := 0 } : Room).cells ({ frames := 0, cells := 0, slots := 0, locals := 0 } : Room).slots (Kv (some (.int (b2_94 p1))) (fun h => h = h0)) (TJ94.setTop (mkF m 94 #[.val (.int p1)] [])) := by
                    intro  TJ94 lJ94 XJ94 eJ94 NJ94
                    show Gl _ _ _ _ _ _ _ (Kv (some (.int (if p1 < (8592 : Int32) then (b2_108 p1) else (if (11263 : Int32) < p1 then (b2_108 p1) else b2_164)))) _) _
                    refine go (fun t k => XS.iloadN XJ94.here hx rfl (hb hby d2_94) rfl  k) ?_
                    show Gl _ _ _ _ _ _ _ _ (TJ94.setTop (mkF m 95 #[.val (.int p1)] [(.int p1)]))
                    refine go (fun t k => XS.sipush XJ94.here hx rfl (hb hby d2_95) k) ?_
                    show Gl _ _ _ _ _ _ _ _ (TJ94.setTop (mkF m 98 #[.val (.int p1)] [(.int (8592 : Int32)), (.int p1)]))
                    have J108 : ∀  (TJ108 : State) (lJ108 : List Loc) (XJ108 : Stand p l e ({ frames := 0, cells := 0, slots := 0, locals := 0 } : Room) s m #[(.int p1)] below meth c TJ108 lJ108 0 0) (eJ108 : TJ108.heap = h0) (NJ108 : Fr n0 lJ108), Gl p e below s n0 ({ frames := 0, cells := 0, slots := 0, locals := 0 } : Room).cells ({ frames := 0, cells := 0, slots := 0, locals := 0 } : Room).slots (Kv (some (.int (b2_108 p1))) (fun h => h = h0)) (TJ108.setTop (mkF m 108 #[.val (.int p1)] [])) := by
                      intro  TJ108 lJ108 XJ108 eJ108 NJ108
                      show Gl _ _ _ _ _ _ _ (Kv (some (.int (if p1 < (12272 : Int32) then (b2_122 p1) else (if (12288 : Int32) < p1 then (b2_122 p1) else b2_164)))) _) _
                      refine go (fun t k => XS.iloadN XJ108.here hx rfl (hb hby d2_108) rfl  k) ?_
                      show Gl _ _ _ _ _ _ _ _ (TJ108.setTop (mkF m 109 #[.val (.int p1)] [(.int p1)]))
                      refine go (fun t k => XS.sipush XJ108.here hx rfl (hb hby d2_109) k) ?_
                      show Gl _ _ _ _ _ _ _ _ (TJ108.setTop (mkF m 112 #[.val (.int p1)] [(.int (12272 : Int32)), (.int p1)]))
                      have J122 : ∀  (TJ122 : State) (lJ122 : List Loc) (XJ122 : Stand p l e ({ frames := 0, cells := 0, slots := 0, locals := 0 } : Room) s m #[(.int p1)] below meth c TJ122 lJ122 0 0) (eJ122 : TJ122.heap = h0) (NJ122 : Fr n0 lJ122), Gl p e below s n0 ({ frames := 0, cells := 0, slots := 0, locals := 0 } : Room).cells ({ frames := 0, cells := 0, slots := 0, locals := 0 } : Room).slots (Kv (some (.int (b2_122 p1))) (fun h => h = h0)) (TJ122.setTop (mkF m 122 #[.val (.int p1)] [])) := by
                        intro  TJ122 lJ122 XJ122 eJ122 NJ122
                        show Gl _ _ _ _ _ _ _ (Kv (some (.int (if p1 < (55296 : Int32) then (b2_134 p1) else (if (63743 : Int32) < p1 then (b2_134 p1) else b2_164)))) _) _
                        refine go (fun t k => XS.iloadN XJ122.here hx rfl (hb hby d2_122) rfl  k) ?_
                        show Gl _ _ _ _ _ _ _ _ (TJ122.setTop (mkF m 123 #[.val (.int p1)] [(.int p1)]))
                        refine go (fun t k => XJ122.ldcInt hx hown (mvT hZ (hw _ (List.mem_of_getElem? (i := 21) rfl))) (g := (mkF m 123 #[.val (.int p1)] [(.int p1)])) rfl (hb hby d2_123) _ k) ?_
                        show Gl _ _ _ _ _ _ _ _ (TJ122.setTop (mkF m 125 #[.val (.int p1)] [(.int (55296 : Int32)), (.int p1)]))
                        have J134 : ∀  (TJ134 : State) (lJ134 : List Loc) (XJ134 : Stand p l e ({ frames := 0, cells := 0, slots := 0, locals := 0 } : Room) s m #[(.int p1)] below meth c TJ134 lJ134 0 0) (eJ134 : TJ134.heap = h0) (NJ134 : Fr n0 lJ134), Gl p e below s n0 ({ frames := 0, cells := 0, slots := 0, locals := 0 } : Room).cells ({ frames := 0, cells := 0, slots := 0, locals := 0 } : Room).slots (Kv (some (.int (b2_134 p1))) (fun h => h = h0)) (TJ134.setTop (mkF m 134 #[.val (.int p1)] [])) := by
                          intro  TJ134 lJ134 XJ134 eJ134 NJ134
                          show Gl _ _ _ _ _ _ _ (Kv (some (.int (if p1 < (64976 : Int32) then (b2_146 p1) else (if (65007 : Int32) < p1 then (b2_146 p1) else b2_164)))) _) _
                          refine go (fun t k => XS.iloadN XJ134.here hx rfl (hb hby d2_134) rfl  k) ?_
                          show Gl _ _ _ _ _ _ _ _ (TJ134.setTop (mkF m 135 #[.val (.int p1)] [(.int p1)]))
                          refine go (fun t k => XJ134.ldcInt hx hown (mvT hZ (hw _ (List.mem_of_getElem? (i := 22) rfl))) (g := (mkF m 135 #[.val (.int p1)] [(.int p1)])) rfl (hb hby d2_135) _ k) ?_
                          show Gl _ _ _ _ _ _ _ _ (TJ134.setTop (mkF m 137 #[.val (.int p1)] [(.int (64976 : Int32)), (.int p1)]))
                          have J146 : ∀  (TJ146 : State) (lJ146 : List Loc) (XJ146 : Stand p l e ({ frames := 0, cells := 0, slots := 0, locals := 0 } : Room) s m #[(.int p1)] below meth c TJ146 lJ146 0 0) (eJ146 : TJ146.heap = h0) (NJ146 : Fr n0 lJ146), Gl p e below s n0 ({ frames := 0, cells := 0, slots := 0, locals := 0 } : Room).cells ({ frames := 0, cells := 0, slots := 0, locals := 0 } : Room).slots (Kv (some (.int (b2_146 p1))) (fun h => h = h0)) (TJ146.setTop (mkF m 146 #[.val (.int p1)] [])) := by
                            intro  TJ146 lJ146 XJ146 eJ146 NJ146
                            show Gl _ _ _ _ _ _ _ (Kv (some (.int (if p1 < (65534 : Int32) then (b2_158 p1) else (if (65535 : Int32) < p1 then (b2_158 p1) else b2_164)))) _) _
                            refine go (fun t k => XS.iloadN XJ146.here hx rfl (hb hby d2_146) rfl  k) ?_
                            show Gl _ _ _ _ _ _ _ _ (TJ146.setTop (mkF m 147 #[.val (.int p1)] [(.int p1)]))
                            refine go (fun t k => XJ146.ldcInt hx hown (mvT hZ (hw _ (List.mem_of_getElem? (i := 23) rfl))) (g := (mkF m 147 #[.val (.int p1)] [(.int p1)])) rfl (hb hby d2_147) _ k) ?_
                            show Gl _ _ _ _ _ _ _ _ (TJ146.setTop (mkF m 149 #[.val (.int p1)] [(.int (65534 : Int32)), (.int p1)]))
                            have J158 : ∀  (TJ158 : State) (lJ158 : List Loc) (XJ158 : Stand p l e ({ frames := 0, cells := 0, slots := 0, locals := 0 } : Room) s m #[(.int p1)] below meth c TJ158 lJ158 0 0) (eJ158 : TJ158.heap = h0) (NJ158 : Fr n0 lJ158), Gl p e below s n0 ({ frames := 0, cells := 0, slots := 0, locals := 0 } : Room).cells ({ frames := 0, cells := 0, slots := 0, locals := 0 } : Room).slots (Kv (some (.int (b2_158 p1))) (fun h => h = h0)) (TJ158.setTop (mkF m 158 #[.val (.int p1)] [])) := by
                              intro  TJ158 lJ158 XJ158 eJ158 NJ158
                              show Gl _ _ _ _ _ _ _ (Kv (some (.int (if (983039 : Int32) < p1 then b2_164 else (b2_169 (0 : Int32))))) _) _
                              refine go (fun t k => XS.iloadN XJ158.here hx rfl (hb hby d2_158) rfl  k) ?_
                              show Gl _ _ _ _ _ _ _ _ (TJ158.setTop (mkF m 159 #[.val (.int p1)] [(.int p1)]))
                              refine go (fun t k => XJ158.ldcInt hx hown (mvT hZ (hw _ (List.mem_of_getElem? (i := 7) rfl))) (g := (mkF m 159 #[.val (.int p1)] [(.int p1)])) rfl (hb hby d2_159) _ k) ?_
                              show Gl _ _ _ _ _ _ _ _ (TJ158.setTop (mkF m 161 #[.val (.int p1)] [(.int (983039 : Int32)), (.int p1)]))
                              refine gI (c := (983039 : Int32) < p1) (fun hc161 => ?_) (fun hc161 => ?_)
                              · refine go (fun t k => XS.icmpNo XJ158.here hx rfl (hb hby d2_161) rfl (tlt hc161).2.2.2 k) ?_
                                show Gl _ _ _ _ _ _ _ _ (TJ158.setTop (mkF m 164 #[.val (.int p1)] []))
                                exact J164  TJ158 _ XJ158 eJ158 NJ158
                              · refine go (fun t k => XS.icmpYes XJ158.here hx rfl (pc0 := 161) (pc' := 168) rfl (hb hby d2_161) rfl (flt hc161).2.2.2 (by decide) (by decide) k) ?_
                                show Gl _ _ _ _ _ _ _ _ (TJ158.setTop (mkF m 168 #[.val (.int p1)] []))
                                refine go (fun t k => XS.iconst XJ158.here hx rfl (hb hby d2_168) k) ?_
                                show Gl _ _ _ _ _ _ _ _ (TJ158.setTop (mkF m 169 #[.val (.int p1)] [(.int (0 : Int32))]))
                                exact J169 (0 : Int32) TJ158 _ XJ158 eJ158 NJ158
                            refine gI (c := p1 < (65534 : Int32)) (fun hc149 => ?_) (fun hc149 => ?_)
                            · refine go (fun t k => XS.icmpYes XJ146.here hx rfl (pc0 := 149) (pc' := 158) rfl (hb hby d2_149) rfl (tlt hc149).1 (by decide) (by decide) k) ?_
                              show Gl _ _ _ _ _ _ _ _ (TJ146.setTop (mkF m 158 #[.val (.int p1)] []))
                              exact J158  TJ146 _ XJ146 eJ146 NJ146
                            · refine go (fun t k => XS.icmpNo XJ146.here hx rfl (hb hby d2_149) rfl (flt hc149).1 k) ?_
                              show Gl _ _ _ _ _ _ _ _ (TJ146.setTop (mkF m 152 #[.val (.int p1)] []))
                              refine go (fun t k => XS.iloadN XJ146.here hx rfl (hb hby d2_152) rfl  k) ?_
                              show Gl _ _ _ _ _ _ _ _ (TJ146.setTop (mkF m 153 #[.val (.int p1)] [(.int p1)]))
                              refine go (fun t k => XJ146.ldcInt hx hown (mvT hZ (hw _ (List.mem_of_getElem? (i := 30) rfl))) (g := (mkF m 153 #[.val (.int p1)] [(.int p1)])) rfl (hb hby d2_153) _ k) ?_
                              show Gl _ _ _ _ _ _ _ _ (TJ146.setTop (mkF m 155 #[.val (.int p1)] [(.int (65535 : Int32)), (.int p1)]))
                              refine gI (c := (65535 : Int32) < p1) (fun hc155 => ?_) (fun hc155 => ?_)
                              · refine go (fun t k => XS.icmpNo XJ146.here hx rfl (hb hby d2_155) rfl (tlt hc155).2.2.2 k) ?_
                                show Gl _ _ _ _ _ _ _ _ (TJ146.setTop (mkF m 158 #[.val (.int p1)] []))
                                exact J158  TJ146 _ XJ146 eJ146 NJ146
                              · refine go (fun t k => XS.icmpYes XJ146.here hx rfl (pc0 := 155) (pc' := 164) rfl (hb hby d2_155) rfl (flt hc155).2.2.2 (by decide) (by decide) k) ?_
                                show Gl _ _ _ _ _ _ _ _ (TJ146.setTop (mkF m 164 #[.val (.int p1)] []))
                                exact J164  TJ146 _ XJ146 eJ146 NJ146
                          refine gI (c := p1 < (64976 : Int32)) (fun hc137 => ?_) (fun hc137 => ?_)
                          · refine go (fun t k => XS.icmpYes XJ134.here hx rfl (pc0 := 137) (pc' := 146) rfl (hb hby d2_137) rfl (tlt hc137).1 (by decide) (by decide) k) ?_
                            show Gl _ _ _ _ _ _ _ _ (TJ134.setTop (mkF m 146 #[.val (.int p1)] []))
                            exact J146  TJ134 _ XJ134 eJ134 NJ134
                          · refine go (fun t k => XS.icmpNo XJ134.here hx rfl (hb hby d2_137) rfl (flt hc137).1 k) ?_
                            show Gl _ _ _ _ _ _ _ _ (TJ134.setTop (mkF m 140 #[.val (.int p1)] []))
                            refine go (fun t k => XS.iloadN XJ134.here hx rfl (hb hby d2_140) rfl  k) ?_
                            show Gl _ _ _ _ _ _ _ _ (TJ134.setTop (mkF m 141 #[.val (.int p1)] [(.int p1)]))
                            refine go (fun t k => XJ134.ldcInt hx hown (mvT hZ (hw _ (List.mem_of_getElem? (i := 29) rfl))) (g := (mkF m 141 #[.val (.int p1)] [(.int p1)])) rfl (hb hby d2_141) _ k) ?_
                            show Gl _ _ _ _ _ _ _ _ (TJ134.setTop (mkF m 143 #[.val (.int p1)] [(.int (65007 : Int32)), (.int p1)]))
                            refine gI (c := (65007 : Int32) < p1) (fun hc143 => ?_) (fun hc143 => ?_)
                            · refine go (fun t k => XS.icmpNo XJ134.here hx rfl (hb hby d2_143) rfl (tlt hc143).2.2.2 k) ?_
                              show Gl _ _ _ _ _ _ _ _ (TJ134.setTop (mkF m 146 #[.val (.int p1)] []))
                              exact J146  TJ134 _ XJ134 eJ134 NJ134
                            · refine go (fun t k => XS.icmpYes XJ134.here hx rfl (pc0 := 143) (pc' := 164) rfl (hb hby d2_143) rfl (flt hc143).2.2.2 (by decide) (by decide) k) ?_
                              show Gl _ _ _ _ _ _ _ _ (TJ134.setTop (mkF m 164 #[.val (.int p1)] []))
                              exact J164  TJ134 _ XJ134 eJ134 NJ134
                        refine gI (c := p1 < (55296 : Int32)) (fun hc125 => ?_) (fun hc125 => ?_)
                        · refine go (fun t k => XS.icmpYes XJ122.here hx rfl (pc0 := 125) (pc' := 134) rfl (hb hby d2_125) rfl (tlt hc125).1 (by decide) (by decide) k) ?_
                          show Gl _ _ _ _ _ _ _ _ (TJ122.setTop (mkF m 134 #[.val (.int p1)] []))
                          exact J134  TJ122 _ XJ122 eJ122 NJ122
                        · refine go (fun t k => XS.icmpNo XJ122.here hx rfl (hb hby d2_125) rfl (flt hc125).1 k) ?_
                          show Gl _ _ _ _ _ _ _ _ (TJ122.setTop (mkF m 128 #[.val (.int p1)] []))
                          refine go (fun t k => XS.iloadN XJ122.here hx rfl (hb hby d2_128) rfl  k) ?_
                          show Gl _ _ _ _ _ _ _ _ (TJ122.setTop (mkF m 129 #[.val (.int p1)] [(.int p1)]))
                          refine go (fun t k => XJ122.ldcInt hx hown (mvT hZ (hw _ (List.mem_of_getElem? (i := 28) rfl))) (g := (mkF m 129 #[.val (.int p1)] [(.int p1)])) rfl (hb hby d2_129) _ k) ?_
                          show Gl _ _ _ _ _ _ _ _ (TJ122.setTop (mkF m 131 #[.val (.int p1)] [(.int (63743 : Int32)), (.int p1)]))
                          refine gI (c := (63743 : Int32) < p1) (fun hc131 => ?_) (fun hc131 => ?_)
                          · refine go (fun t k => XS.icmpNo XJ122.here hx rfl (hb hby d2_131) rfl (tlt hc131).2.2.2 k) ?_
                            show Gl _ _ _ _ _ _ _ _ (TJ122.setTop (mkF m 134 #[.val (.int p1)] []))
                            exact J134  TJ122 _ XJ122 eJ122 NJ122
                          · refine go (fun t k => XS.icmpYes XJ122.here hx rfl (pc0 := 131) (pc' := 164) rfl (hb hby d2_131) rfl (flt hc131).2.2.2 (by decide) (by decide) k) ?_
                            show Gl _ _ _ _ _ _ _ _ (TJ122.setTop (mkF m 164 #[.val (.int p1)] []))
                            exact J164  TJ122 _ XJ122 eJ122 NJ122
                      refine gI (c := p1 < (12272 : Int32)) (fun hc112 => ?_) (fun hc112 => ?_)
                      · refine go (fun t k => XS.icmpYes XJ108.here hx rfl (pc0 := 112) (pc' := 122) rfl (hb hby d2_112) rfl (tlt hc112).1 (by decide) (by decide) k) ?_
                        show Gl _ _ _ _ _ _ _ _ (TJ108.setTop (mkF m 122 #[.val (.int p1)] []))
                        exact J122  TJ108 _ XJ108 eJ108 NJ108
                      · refine go (fun t k => XS.icmpNo XJ108.here hx rfl (hb hby d2_112) rfl (flt hc112).1 k) ?_
                        show Gl _ _ _ _ _ _ _ _ (TJ108.setTop (mkF m 115 #[.val (.int p1)] []))
                        refine go (fun t k => XS.iloadN XJ108.here hx rfl (hb hby d2_115) rfl  k) ?_
                        show Gl _ _ _ _ _ _ _ _ (TJ108.setTop (mkF m 116 #[.val (.int p1)] [(.int p1)]))
                        refine go (fun t k => XS.sipush XJ108.here hx rfl (hb hby d2_116) k) ?_
                        show Gl _ _ _ _ _ _ _ _ (TJ108.setTop (mkF m 119 #[.val (.int p1)] [(.int (12288 : Int32)), (.int p1)]))
                        refine gI (c := (12288 : Int32) < p1) (fun hc119 => ?_) (fun hc119 => ?_)
                        · refine go (fun t k => XS.icmpNo XJ108.here hx rfl (hb hby d2_119) rfl (tlt hc119).2.2.2 k) ?_
                          show Gl _ _ _ _ _ _ _ _ (TJ108.setTop (mkF m 122 #[.val (.int p1)] []))
                          exact J122  TJ108 _ XJ108 eJ108 NJ108
                        · refine go (fun t k => XS.icmpYes XJ108.here hx rfl (pc0 := 119) (pc' := 164) rfl (hb hby d2_119) rfl (flt hc119).2.2.2 (by decide) (by decide) k) ?_
                          show Gl _ _ _ _ _ _ _ _ (TJ108.setTop (mkF m 164 #[.val (.int p1)] []))
                          exact J164  TJ108 _ XJ108 eJ108 NJ108
                    refine gI (c := p1 < (8592 : Int32)) (fun hc98 => ?_) (fun hc98 => ?_)
                    · refine go (fun t k => XS.icmpYes XJ94.here hx rfl (pc0 := 98) (pc' := 108) rfl (hb hby d2_98) rfl (tlt hc98).1 (by decide) (by decide) k) ?_
                      show Gl _ _ _ _ _ _ _ _ (TJ94.setTop (mkF m 108 #[.val (.int p1)] []))
                      exact J108  TJ94 _ XJ94 eJ94 NJ94
                    · refine go (fun t k => XS.icmpNo XJ94.here hx rfl (hb hby d2_98) rfl (flt hc98).1 k) ?_
                      show Gl _ _ _ _ _ _ _ _ (TJ94.setTop (mkF m 101 #[.val (.int p1)] []))
                      refine go (fun t k => XS.iloadN XJ94.here hx rfl (hb hby d2_101) rfl  k) ?_
                      show Gl _ _ _ _ _ _ _ _ (TJ94.setTop (mkF m 102 #[.val (.int p1)] [(.int p1)]))
                      refine go (fun t k => XS.sipush XJ94.here hx rfl (hb hby d2_102) k) ?_
                      show Gl _ _ _ _ _ _ _ _ (TJ94.setTop (mkF m 105 #[.val (.int p1)] [(.int (11263 : Int32)), (.int p1)]))
                      refine gI (c := (11263 : Int32) < p1) (fun hc105 => ?_) (fun hc105 => ?_)
                      · refine go (fun t k => XS.icmpNo XJ94.here hx rfl (hb hby d2_105) rfl (tlt hc105).2.2.2 k) ?_
                        show Gl _ _ _ _ _ _ _ _ (TJ94.setTop (mkF m 108 #[.val (.int p1)] []))
                        exact J108  TJ94 _ XJ94 eJ94 NJ94
                      · refine go (fun t k => XS.icmpYes XJ94.here hx rfl (pc0 := 105) (pc' := 164) rfl (hb hby d2_105) rfl (flt hc105).2.2.2 (by decide) (by decide) k) ?_
                        show Gl _ _ _ _ _ _ _ _ (TJ94.setTop (mkF m 164 #[.val (.int p1)] []))
                        exact J164  TJ94 _ XJ94 eJ94 NJ94
                  refine gI (c := p1 < (8206 : Int32)) (fun hc84 => ?_) (fun hc84 => ?_)
                  · refine go (fun t k => XS.icmpYes XJ80.here hx rfl (pc0 := 84) (pc' := 94) rfl (hb hby d2_84) rfl (tlt hc84).1 (by decide) (by decide) k) ?_
                    show Gl _ _ _ _ _ _ _ _ (TJ80.setTop (mkF m 94 #[.val (.int p1)] []))
                    exact J94  TJ80 _ XJ80 eJ80 NJ80
                  · refine go (fun t k => XS.icmpNo XJ80.here hx rfl (hb hby d2_84) rfl (flt hc84).1 k) ?_
                    show Gl _ _ _ _ _ _ _ _ (TJ80.setTop (mkF m 87 #[.val (.int p1)] []))
                    refine go (fun t k => XS.iloadN XJ80.here hx rfl (hb hby d2_87) rfl  k) ?_
                    show Gl _ _ _ _ _ _ _ _ (TJ80.setTop (mkF m 88 #[.val (.int p1)] [(.int p1)]))
                    refine go (fun t k => XS.sipush XJ80.here hx rfl (hb hby d2_88) k) ?_
                    show Gl _ _ _ _ _ _ _ _ (TJ80.setTop (mkF m 91 #[.val (.int p1)] [(.int (8303 : Int32)), (.int p1)]))
                    refine gI (c := (8303 : Int32) < p1) (fun hc91 => ?_) (fun hc91 => ?_)
                    · refine go (fun t k => XS.icmpNo XJ80.here hx rfl (hb hby d2_91) rfl (tlt hc91).2.2.2 k) ?_
                      show Gl _ _ _ _ _ _ _ _ (TJ80.setTop (mkF m 94 #[.val (.int p1)] []))
                      exact J94  TJ80 _ XJ80 eJ80 NJ80
                    · refine go (fun t k => XS.icmpYes XJ80.here hx rfl (pc0 := 91) (pc' := 164) rfl (hb hby d2_91) rfl (flt hc91).2.2.2 (by decide) (by decide) k) ?_
                      show Gl _ _ _ _ _ _ _ _ (TJ80.setTop (mkF m 164 #[.val (.int p1)] []))
                      exact J164  TJ80 _ XJ80 eJ80 NJ80
                refine gI (c := p1 < (8192 : Int32)) (fun hc70 => ?_) (fun hc70 => ?_)
                · refine go (fun t k => XS.icmpYes XJ59.here hx rfl (pc0 := 70) (pc' := 80) rfl (hb hby d2_70) rfl (tlt hc70).1 (by decide) (by decide) k) ?_
                  show Gl _ _ _ _ _ _ _ _ (TJ59.setTop (mkF m 80 #[.val (.int p1)] []))
                  exact J80  TJ59 _ XJ59 eJ59 NJ59
                · refine go (fun t k => XS.icmpNo XJ59.here hx rfl (hb hby d2_70) rfl (flt hc70).1 k) ?_
                  show Gl _ _ _ _ _ _ _ _ (TJ59.setTop (mkF m 73 #[.val (.int p1)] []))
                  refine go (fun t k => XS.iloadN XJ59.here hx rfl (hb hby d2_73) rfl  k) ?_
                  show Gl _ _ _ _ _ _ _ _ (TJ59.setTop (mkF m 74 #[.val (.int p1)] [(.int p1)]))
                  refine go (fun t k => XS.sipush XJ59.here hx rfl (hb hby d2_74) k) ?_
                  show Gl _ _ _ _ _ _ _ _ (TJ59.setTop (mkF m 77 #[.val (.int p1)] [(.int (8203 : Int32)), (.int p1)]))
                  refine gI (c := (8203 : Int32) < p1) (fun hc77 => ?_) (fun hc77 => ?_)
                  · refine go (fun t k => XS.icmpNo XJ59.here hx rfl (hb hby d2_77) rfl (tlt hc77).2.2.2 k) ?_
                    show Gl _ _ _ _ _ _ _ _ (TJ59.setTop (mkF m 80 #[.val (.int p1)] []))
                    exact J80  TJ59 _ XJ59 eJ59 NJ59
                  · refine go (fun t k => XS.icmpYes XJ59.here hx rfl (pc0 := 77) (pc' := 164) rfl (hb hby d2_77) rfl (flt hc77).2.2.2 (by decide) (by decide) k) ?_
                    show Gl _ _ _ _ _ _ _ _ (TJ59.setTop (mkF m 164 #[.val (.int p1)] []))
                    exact J164  TJ59 _ XJ59 eJ59 NJ59
            refine gI (c := p1 < (768 : Int32)) (fun hc49 => ?_) (fun hc49 => ?_)
            · refine go (fun t k => XS.icmpYes XJ31.here hx rfl (pc0 := 49) (pc' := 59) rfl (hb hby d2_49) rfl (tlt hc49).1 (by decide) (by decide) k) ?_
              show Gl _ _ _ _ _ _ _ _ (TJ31.setTop (mkF m 59 #[.val (.int p1)] []))
              exact J59  TJ31 _ XJ31 eJ31 NJ31
            · refine go (fun t k => XS.icmpNo XJ31.here hx rfl (hb hby d2_49) rfl (flt hc49).1 k) ?_
              show Gl _ _ _ _ _ _ _ _ (TJ31.setTop (mkF m 52 #[.val (.int p1)] []))
              refine go (fun t k => XS.iloadN XJ31.here hx rfl (hb hby d2_52) rfl  k) ?_
              show Gl _ _ _ _ _ _ _ _ (TJ31.setTop (mkF m 53 #[.val (.int p1)] [(.int p1)]))
              refine go (fun t k => XS.sipush XJ31.here hx rfl (hb hby d2_53) k) ?_
              show Gl _ _ _ _ _ _ _ _ (TJ31.setTop (mkF m 56 #[.val (.int p1)] [(.int (879 : Int32)), (.int p1)]))
              refine gI (c := (879 : Int32) < p1) (fun hc56 => ?_) (fun hc56 => ?_)
              · refine go (fun t k => XS.icmpNo XJ31.here hx rfl (hb hby d2_56) rfl (tlt hc56).2.2.2 k) ?_
                show Gl _ _ _ _ _ _ _ _ (TJ31.setTop (mkF m 59 #[.val (.int p1)] []))
                exact J59  TJ31 _ XJ31 eJ31 NJ31
              · refine go (fun t k => XS.icmpYes XJ31.here hx rfl (pc0 := 56) (pc' := 164) rfl (hb hby d2_56) rfl (flt hc56).2.2.2 (by decide) (by decide) k) ?_
                show Gl _ _ _ _ _ _ _ _ (TJ31.setTop (mkF m 164 #[.val (.int p1)] []))
                exact J164  TJ31 _ XJ31 eJ31 NJ31
      refine gI (c := (122 : Int32) < p1) (fun hc21 => ?_) (fun hc21 => ?_)
      · refine go (fun t k => XS.icmpNo XJ18.here hx rfl (hb hby d2_21) rfl (tlt hc21).2.2.2 k) ?_
        show Gl _ _ _ _ _ _ _ _ (TJ18.setTop (mkF m 24 #[.val (.int p1)] []))
        refine go (fun t k => XS.iloadN XJ18.here hx rfl (hb hby d2_24) rfl  k) ?_
        show Gl _ _ _ _ _ _ _ _ (TJ18.setTop (mkF m 25 #[.val (.int p1)] [(.int p1)]))
        refine go (fun t k => XS.sipush XJ18.here hx rfl (hb hby d2_25) k) ?_
        show Gl _ _ _ _ _ _ _ _ (TJ18.setTop (mkF m 28 #[.val (.int p1)] [(.int (192 : Int32)), (.int p1)]))
        refine gI (c := p1 < (192 : Int32)) (fun hc28 => ?_) (fun hc28 => ?_)
        · refine go (fun t k => XS.icmpYes XJ18.here hx rfl (pc0 := 28) (pc' := 164) rfl (hb hby d2_28) rfl (tlt hc28).1 (by decide) (by decide) k) ?_
          show Gl _ _ _ _ _ _ _ _ (TJ18.setTop (mkF m 164 #[.val (.int p1)] []))
          exact J164  TJ18 _ XJ18 eJ18 NJ18
        · refine go (fun t k => XS.icmpNo XJ18.here hx rfl (hb hby d2_28) rfl (flt hc28).1 k) ?_
          show Gl _ _ _ _ _ _ _ _ (TJ18.setTop (mkF m 31 #[.val (.int p1)] []))
          exact J31  TJ18 _ XJ18 eJ18 NJ18
      · refine go (fun t k => XS.icmpYes XJ18.here hx rfl (pc0 := 21) (pc' := 31) rfl (hb hby d2_21) rfl (flt hc21).2.2.2 (by decide) (by decide) k) ?_
        show Gl _ _ _ _ _ _ _ _ (TJ18.setTop (mkF m 31 #[.val (.int p1)] []))
        exact J31  TJ18 _ XJ18 eJ18 NJ18
    refine gI (c := (90 : Int32) < p1) (fun hc9 => ?_) (fun hc9 => ?_)
    · refine go (fun t k => XS.icmpNo X0.here hx rfl (hb hby d2_9) rfl (tlt hc9).2.2.2 k) ?_
      show Gl _ _ _ _ _ _ _ _ (s₁.setTop (mkF m 12 #[.val (.int p1)] []))
      refine go (fun t k => XS.iloadN X0.here hx rfl (hb hby d2_12) rfl  k) ?_
      show Gl _ _ _ _ _ _ _ _ (s₁.setTop (mkF m 13 #[.val (.int p1)] [(.int p1)]))
      refine go (fun t k => XS.bipush X0.here hx rfl (hb hby d2_13) k) ?_
      show Gl _ _ _ _ _ _ _ _ (s₁.setTop (mkF m 15 #[.val (.int p1)] [(.int (97 : Int32)), (.int p1)]))
      refine gI (c := p1 < (97 : Int32)) (fun hc15 => ?_) (fun hc15 => ?_)
      · refine go (fun t k => XS.icmpYes X0.here hx rfl (pc0 := 15) (pc' := 164) rfl (hb hby d2_15) rfl (tlt hc15).1 (by decide) (by decide) k) ?_
        show Gl _ _ _ _ _ _ _ _ (s₁.setTop (mkF m 164 #[.val (.int p1)] []))
        exact J164  s₁ _ X0 e0 N0
      · refine go (fun t k => XS.icmpNo X0.here hx rfl (hb hby d2_15) rfl (flt hc15).1 k) ?_
        show Gl _ _ _ _ _ _ _ _ (s₁.setTop (mkF m 18 #[.val (.int p1)] []))
        exact J18  s₁ _ X0 e0 N0
    · refine go (fun t k => XS.icmpYes X0.here hx rfl (pc0 := 9) (pc' := 18) rfl (hb hby d2_9) rfl (flt hc9).2.2.2 (by decide) (by decide) k) ?_
      show Gl _ _ _ _ _ _ _ _ (s₁.setTop (mkF m 18 #[.val (.int p1)] []))
      exact J18  s₁ _ X0 e0 N0
def own_marks : List Int32 := [(65 : Int32), (90 : Int32), (97 : Int32), (122 : Int32), (192 : Int32), (214 : Int32), (216 : Int32), (246 : Int32), (248 : Int32), (767 : Int32), (880 : Int32), (893 : Int32), (895 : Int32), (8191 : Int32), (8204 : Int32), (8205 : Int32), (8304 : Int32), (8591 : Int32), (11264 : Int32), (12271 : Int32), (12289 : Int32), (55295 : Int32), (63744 : Int32), (64975 : Int32), (65008 : Int32), (65533 : Int32), (65536 : Int32), (983039 : Int32), (58 : Int32), (95 : Int32), (0 : Int32), (-2147483648 : Int32), (2147483647 : Int32)]
def own_mark (j : Int32) : Int32 := own_marks.getD j.toNatClampNeg 0
theorem own_getD : ∀ (l : List Int32) (k : Nat), (l.map Value.int).getD k (.int (0 : Int32)) = .int (l.getD k 0)
  | [], _ => rfl
  | _ :: _, 0 => rfl
  | _ :: t, k + 1 => own_getD t k
theorem own_idx (a : Int32) : ¬ (((a &&& (2147483647 : Int32)) % (33 : Int32)) < 0) ∧ ((a &&& (2147483647 : Int32)) % (33 : Int32)) < (33 : Int32) := by
  have e2 := Jvm.Kit.i32_mask a 2147483647 (k := 31) (by decide) (by decide)
  have e3 : ((a &&& 2147483647) % 33).toInt = _ := Jvm.Kit.i32_rem_nonneg (by rw [e2]; omega)
  rw [Int32.lt_iff_toInt_lt, Int32.lt_iff_toInt_lt, e3, e2]; simp only [Int32.reduceToInt]; omega
theorem own_hat {c : Cell} {j : Int32} (Hh : Has c [(.int (65 : Int32)), (.int (90 : Int32)), (.int (97 : Int32)), (.int (122 : Int32)), (.int (192 : Int32)), (.int (214 : Int32)), (.int (216 : Int32)), (.int (246 : Int32)), (.int (248 : Int32)), (.int (767 : Int32)), (.int (880 : Int32)), (.int (893 : Int32)), (.int (895 : Int32)), (.int (8191 : Int32)), (.int (8204 : Int32)), (.int (8205 : Int32)), (.int (8304 : Int32)), (.int (8591 : Int32)), (.int (11264 : Int32)), (.int (12271 : Int32)), (.int (12289 : Int32)), (.int (55295 : Int32)), (.int (63744 : Int32)), (.int (64975 : Int32)), (.int (65008 : Int32)), (.int (65533 : Int32)), (.int (65536 : Int32)), (.int (983039 : Int32)), (.int (58 : Int32)), (.int (95 : Int32)), (.int (0 : Int32)), (.int (-2147483648 : Int32)), (.int (2147483647 : Int32))] (.int (0 : Int32))) (hj : ¬ j < 0 ∧ j < (33 : Int32)) (S : c.slots.size = (33 : Int32).toNatClampNeg) : c.slots[j.toNatClampNeg]? = some (.int (own_mark j)) := by
  have h := inb_of S hj
  have q := Hh j.toNatClampNeg (by omega)
  exact q.trans (congrArg some (own_getD own_marks _))
theorem pd_0 : parseMethodDescriptor "(I)Z" = some ⟨[.int], some .boolean⟩ := by decide +kernel
theorem ef_0 (m : MethodId) (p1 : Int32) (p2 : Int32) (p3 : Int32) (p4 : Int32) : entryFrame m #[(.int p1), (.int p2), (.int p3), (.int p4)] maxLocals = mkF m 0 #[.val (.int p1), .val (.int p2), .val (.int p3), .val (.int p4), .unset, .unset, .unset] [] := by first | (simp [entryFrame, mkF, argsToLocals, Value.category, maxLocals]; done) | rfl
def b0_276 (s0_276 : Int32) : Int32 := (nar .boolean s0_276)
def b0_268 (v5_250 : Int32) (s1_268 : Int32) : Int32 := (if (b1_0 v5_250) = s1_268 then (b0_276 (1 : Int32)) else (b0_276 (0 : Int32)))
def b0_250 (v5_250 : Int32) : Int32 := (if (b2_0 v5_250) = (0 : Int32) then (b0_268 v5_250 (1 : Int32)) else (b0_268 v5_250 (0 : Int32)))
def b0_0 (p1 : Int32) (p2 : Int32) (p3 : Int32) (p4 : Int32) : Int32 := (if (p4 &&& (1 : Int32)) = (0 : Int32) then (b0_250 ((own_mark ((p2 &&& (2147483647 : Int32)) % (33 : Int32))) + ((p3 &&& (7 : Int32)) - (3 : Int32)))) else (b0_250 p1))
set_option maxRecDepth 65536 in
set_option maxHeartbeats 40000000 in
theorem rm0 (l : Launch) (Z : State) (a0 : Array Value) (hw : ∀ d ∈ tables_1, d.before a0 Z = true) (ws : List Jvm.Cond) (p1 : Int32) (p2 : Int32) (p3 : Int32) (p4 : Int32) (h0 : Heap) (n0 : Nat) (Z0 : n0 ≤ h0.size) :
    MetFree l x (head1 (Jvm.Cond.code x code maxLocals ret :: ws) room_1) (fun a U => a = #[(.int p1), (.int p2), (.int p3), (.int p4)] ∧ Z.Warmed39 U.vm ∧ U.heap = h0) (fun _ _ _ _ _ => True) (fun _ U o U' => ∃ v L, o = .returned v ∧ QK n0 (Kv (some (.int (b0_0 p1 p2 p3 p4))) (fun _ => True)) v U'.heap L ∧ FrameEnd U o U' L room_1.cells room_1.slots) := by
  refine MetFree.of_bodySF (plainFor_of_name pn_1) hisR ?_
  intro p e s m args below meth c s₁ Bd hml0 hP hK
  obtain ⟨rfl, hZ, hh⟩ := hP
  have hx := Bd.exec
  have hby := Bd.bytes
  have hml : c.maxLocals = 7 := hml0
  have hown : s.vm.findClass "com/example/tercet/tercet/XmlNameCharactersIsNameLetterPinLaw" = some m.cls := findClass_of_methodNamed Bd.named
  have hnm := (name_of_methodNamed Bd.named Bd.method).1
  have X0 : Stand p l e room_1 s m #[(.int p1), (.int p2), (.int p3), (.int p4)] below meth c s₁ [] 0 0 := Stand.of_body Bd
  have e0 : s₁.heap = h0 := by rw [← hh, Bd.state]; rfl
  have N0 := Fr.nil n0
  refine gl_start (ef_0 m p1 p2 p3 p4) ?_
  show Gl p e below s n0 room_1.cells room_1.slots (Kv (some (.int (if (p4 &&& (1 : Int32)) = (0 : Int32) then (b0_250 ((own_mark ((p2 &&& (2147483647 : Int32)) % (33 : Int32))) + ((p3 &&& (7 : Int32)) - (3 : Int32)))) else (b0_250 p1)))) (fun _ => True)) (s₁.setTop (mkF m 0 #[.val (.int p1), .val (.int p2), .val (.int p3), .val (.int p4), .unset, .unset, .unset] []))
  refine go (fun t k => XS.bipush X0.here hx rfl (hb hby at_0) k) ?_
  show Gl _ _ _ _ _ _ _ _ (s₁.setTop (mkF m 2 #[.val (.int p1), .val (.int p2), .val (.int p3), .val (.int p4), .unset, .unset, .unset] [(.int (33 : Int32))]))
  obtain ⟨T1, h1, k1, X1, e1, E1, A1, st1⟩ := newP X0 hx hZ (hw _ (List.mem_of_getElem? (i := 0) rfl)) e0 (g := (mkF m 2 #[.val (.int p1), .val (.int p2), .val (.int p3), .val (.int p4), .unset, .unset, .unset] [(.int (33 : Int32))])) rfl (hb hby at_2) rfl (by decide) (cap := 33) (by decide) (by decide) (by decide) (by decide)
  obtain ⟨o1, gq1⟩ : ∃ z, z = h0.size := ⟨_, rfl⟩
  rw [← gq1] at A1 st1
  have g_o1 : n0 ≤ o1 := Nat.le_trans Z0 (Nat.le_of_eq gq1.symm)
  have V_o1 : Arv Z h1 o1 k1 .int (33 : Int32) [(.int (0 : Int32)), (.int (0 : Int32)), (.int (0 : Int32)), (.int (0 : Int32)), (.int (0 : Int32)), (.int (0 : Int32)), (.int (0 : Int32)), (.int (0 : Int32)), (.int (0 : Int32)), (.int (0 : Int32)), (.int (0 : Int32)), (.int (0 : Int32)), (.int (0 : Int32)), (.int (0 : Int32)), (.int (0 : Int32)), (.int (0 : Int32)), (.int (0 : Int32)), (.int (0 : Int32)), (.int (0 : Int32)), (.int (0 : Int32)), (.int (0 : Int32)), (.int (0 : Int32)), (.int (0 : Int32)), (.int (0 : Int32)), (.int (0 : Int32)), (.int (0 : Int32)), (.int (0 : Int32)), (.int (0 : Int32)), (.int (0 : Int32)), (.int (0 : Int32)), (.int (0 : Int32)), (.int (0 : Int32)), (.int (0 : Int32))] (.int (0 : Int32)) := (Arv.new A1 (by decide)).pad (pad_rep [] (.int (0 : Int32)) 33)
  have K1 : Keep h0 h1 [] := (Keep.refl h0 []).ext E1
  have sz_o1 : h0.size ≤ o1 := Nat.le_trans (Keep.refl h0 []).1 (Nat.le_of_eq gq1.symm)
  refine go (fun t k => st1 _ k) ?_
  show Gl _ _ _ _ _ _ _ _ (T1.setTop (mkF m 4 #[.val (.int p1), .val (.int p2), .val (.int p3), .val (.int p4), .unset, .unset, .unset] [(.ref o1)]))
  refine go (fun t k => XS.dup X1.here hx rfl (hb hby at_4) rfl rfl k) ?_
  show Gl _ _ _ _ _ _ _ _ (T1.setTop (mkF m 5 #[.val (.int p1), .val (.int p2), .val (.int p3), .val (.int p4), .unset, .unset, .unset] [(.ref o1), (.ref o1)]))
  refine go (fun t k => XS.iconst X1.here hx rfl (hb hby at_5) k) ?_
  show Gl _ _ _ _ _ _ _ _ (T1.setTop (mkF m 6 #[.val (.int p1), .val (.int p2), .val (.int p3), .val (.int p4), .unset, .unset, .unset] [(.int (0 : Int32)), (.ref o1), (.ref o1)]))
  refine go (fun t k => XS.bipush X1.here hx rfl (hb hby at_6) k) ?_
  show Gl _ _ _ _ _ _ _ _ (T1.setTop (mkF m 8 #[.val (.int p1), .val (.int p2), .val (.int p3), .val (.int p4), .unset, .unset, .unset] [(.int (65 : Int32)), (.int (0 : Int32)), (.ref o1), (.ref o1)]))
  obtain ⟨cl2, Ar2, vq2, S2, M2, Hh2, G2⟩ := id V_o1
  obtain ⟨T2, h2, X2, e2, W2, st2⟩ := stI X1 hx hZ e1 Ar2 (j := (0 : Int32)) (inb_of S2 ⟨by decide, by decide⟩) (g := (mkF m 8 #[.val (.int p1), .val (.int p2), .val (.int p3), .val (.int p4), .unset, .unset, .unset] [(.int (65 : Int32)), (.int (0 : Int32)), (.ref o1), (.ref o1)])) rfl rfl (hb hby at_8)
  have V2 : Arv Z h2 o1 k1 .int (33 : Int32) [(.int (65 : Int32)), (.int (0 : Int32)), (.int (0 : Int32)), (.int (0 : Int32)), (.int (0 : Int32)), (.int (0 : Int32)), (.int (0 : Int32)), (.int (0 : Int32)), (.int (0 : Int32)), (.int (0 : Int32)), (.int (0 : Int32)), (.int (0 : Int32)), (.int (0 : Int32)), (.int (0 : Int32)), (.int (0 : Int32)), (.int (0 : Int32)), (.int (0 : Int32)), (.int (0 : Int32)), (.int (0 : Int32)), (.int (0 : Int32)), (.int (0 : Int32)), (.int (0 : Int32)), (.int (0 : Int32)), (.int (0 : Int32)), (.int (0 : Int32)), (.int (0 : Int32)), (.int (0 : Int32)), (.int (0 : Int32)), (.int (0 : Int32)), (.int (0 : Int32)), (.int (0 : Int32)), (.int (0 : Int32)), (.int (0 : Int32))] (.int (0 : Int32)) := Arv.set Ar2 vq2 S2 M2 Hh2 G2 rfl W2 0 rfl (Nat.le_of_ble_eq_true rfl)
  have K2 : Keep h0 h2 [] := K1.wr W2 (Or.inr sz_o1)
  have N2 := Fr.snoc X2 N0 g_o1
  refine go (fun t k => st2 _ k) ?_
  show Gl _ _ _ _ _ _ _ _ (T2.setTop (mkF m 9 #[.val (.int p1), .val (.int p2), .val (.int p3), .val (.int p4), .unset, .unset, .unset] [(.ref o1)]))
  refine go (fun t k => XS.dup X2.here hx rfl (hb hby at_9) rfl rfl k) ?_
  show Gl _ _ _ _ _ _ _ _ (T2.setTop (mkF m 10 #[.val (.int p1), .val (.int p2), .val (.int p3), .val (.int p4), .unset, .unset, .unset] [(.ref o1), (.ref o1)]))
  refine go (fun t k => XS.iconst X2.here hx rfl (hb hby at_10) k) ?_
  show Gl _ _ _ _ _ _ _ _ (T2.setTop (mkF m 11 #[.val (.int p1), .val (.int p2), .val (.int p3), .val (.int p4), .unset, .unset, .unset] [(.int (1 : Int32)), (.ref o1), (.ref o1)]))
  refine go (fun t k => XS.bipush X2.here hx rfl (hb hby at_11) k) ?_
  show Gl _ _ _ _ _ _ _ _ (T2.setTop (mkF m 13 #[.val (.int p1), .val (.int p2), .val (.int p3), .val (.int p4), .unset, .unset, .unset] [(.int (90 : Int32)), (.int (1 : Int32)), (.ref o1), (.ref o1)]))
  obtain ⟨cl3, Ar3, vq3, S3, M3, Hh3, G3⟩ := id V2
  obtain ⟨T3, h3, X3, e3, W3, st3⟩ := stI X2 hx hZ e2 Ar3 (j := (1 : Int32)) (inb_of S3 ⟨by decide, by decide⟩) (g := (mkF m 13 #[.val (.int p1), .val (.int p2), .val (.int p3), .val (.int p4), .unset, .unset, .unset] [(.int (90 : Int32)), (.int (1 : Int32)), (.ref o1), (.ref o1)])) rfl rfl (hb hby at_13)
  have V3 : Arv Z h3 o1 k1 .int (33 : Int32) [(.int (65 : Int32)), (.int (90 : Int32)), (.int (0 : Int32)), (.int (0 : Int32)), (.int (0 : Int32)), (.int (0 : Int32)), (.int (0 : Int32)), (.int (0 : Int32)), (.int (0 : Int32)), (.int (0 : Int32)), (.int (0 : Int32)), (.int (0 : Int32)), (.int (0 : Int32)), (.int (0 : Int32)), (.int (0 : Int32)), (.int (0 : Int32)), (.int (0 : Int32)), (.int (0 : Int32)), (.int (0 : Int32)), (.int (0 : Int32)), (.int (0 : Int32)), (.int (0 : Int32)), (.int (0 : Int32)), (.int (0 : Int32)), (.int (0 : Int32)), (.int (0 : Int32)), (.int (0 : Int32)), (.int (0 : Int32)), (.int (0 : Int32)), (.int (0 : Int32)), (.int (0 : Int32)), (.int (0 : Int32)), (.int (0 : Int32))] (.int (0 : Int32)) := Arv.set Ar3 vq3 S3 M3 Hh3 G3 rfl W3 1 rfl (Nat.le_of_ble_eq_true rfl)
  have K3 : Keep h0 h3 [] := K2.wr W3 (Or.inr sz_o1)
  have N3 := Fr.snoc X3 N2 g_o1
  refine go (fun t k => st3 _ k) ?_
  show Gl _ _ _ _ _ _ _ _ (T3.setTop (mkF m 14 #[.val (.int p1), .val (.int p2), .val (.int p3), .val (.int p4), .unset, .unset, .unset] [(.ref o1)]))
  refine go (fun t k => XS.dup X3.here hx rfl (hb hby at_14) rfl rfl k) ?_
  show Gl _ _ _ _ _ _ _ _ (T3.setTop (mkF m 15 #[.val (.int p1), .val (.int p2), .val (.int p3), .val (.int p4), .unset, .unset, .unset] [(.ref o1), (.ref o1)]))
  refine go (fun t k => XS.iconst X3.here hx rfl (hb hby at_15) k) ?_
  show Gl _ _ _ _ _ _ _ _ (T3.setTop (mkF m 16 #[.val (.int p1), .val (.int p2), .val (.int p3), .val (.int p4), .unset, .unset, .unset] [(.int (2 : Int32)), (.ref o1), (.ref o1)]))
  refine go (fun t k => XS.bipush X3.here hx rfl (hb hby at_16) k) ?_
  show Gl _ _ _ _ _ _ _ _ (T3.setTop (mkF m 18 #[.val (.int p1), .val (.int p2), .val (.int p3), .val (.int p4), .unset, .unset, .unset] [(.int (97 : Int32)), (.int (2 : Int32)), (.ref o1), (.ref o1)]))
  obtain ⟨cl4, Ar4, vq4, S4, M4, Hh4, G4⟩ := id V3
  obtain ⟨T4, h4, X4, e4, W4, st4⟩ := stI X3 hx hZ e3 Ar4 (j := (2 : Int32)) (inb_of S4 ⟨by decide, by decide⟩) (g := (mkF m 18 #[.val (.int p1), .val (.int p2), .val (.int p3), .val (.int p4), .unset, .unset, .unset] [(.int (97 : Int32)), (.int (2 : Int32)), (.ref o1), (.ref o1)])) rfl rfl (hb hby at_18)
  have V4 : Arv Z h4 o1 k1 .int (33 : Int32) [(.int (65 : Int32)), (.int (90 : Int32)), (.int (97 : Int32)), (.int (0 : Int32)), (.int (0 : Int32)), (.int (0 : Int32)), (.int (0 : Int32)), (.int (0 : Int32)), (.int (0 : Int32)), (.int (0 : Int32)), (.int (0 : Int32)), (.int (0 : Int32)), (.int (0 : Int32)), (.int (0 : Int32)), (.int (0 : Int32)), (.int (0 : Int32)), (.int (0 : Int32)), (.int (0 : Int32)), (.int (0 : Int32)), (.int (0 : Int32)), (.int (0 : Int32)), (.int (0 : Int32)), (.int (0 : Int32)), (.int (0 : Int32)), (.int (0 : Int32)), (.int (0 : Int32)), (.int (0 : Int32)), (.int (0 : Int32)), (.int (0 : Int32)), (.int (0 : Int32)), (.int (0 : Int32)), (.int (0 : Int32)), (.int (0 : Int32))] (.int (0 : Int32)) := Arv.set Ar4 vq4 S4 M4 Hh4 G4 rfl W4 2 rfl (Nat.le_of_ble_eq_true rfl)
  have K4 : Keep h0 h4 [] := K3.wr W4 (Or.inr sz_o1)
  have N4 := Fr.snoc X4 N3 g_o1
  refine go (fun t k => st4 _ k) ?_
  show Gl _ _ _ _ _ _ _ _ (T4.setTop (mkF m 19 #[.val (.int p1), .val (.int p2), .val (.int p3), .val (.int p4), .unset, .unset, .unset] [(.ref o1)]))
  refine go (fun t k => XS.dup X4.here hx rfl (hb hby at_19) rfl rfl k) ?_
  show Gl _ _ _ _ _ _ _ _ (T4.setTop (mkF m 20 #[.val (.int p1), .val (.int p2), .val (.int p3), .val (.int p4), .unset, .unset, .unset] [(.ref o1), (.ref o1)]))
  refine go (fun t k => XS.iconst X4.here hx rfl (hb hby at_20) k) ?_
  show Gl _ _ _ _ _ _ _ _ (T4.setTop (mkF m 21 #[.val (.int p1), .val (.int p2), .val (.int p3), .val (.int p4), .unset, .unset, .unset] [(.int (3 : Int32)), (.ref o1), (.ref o1)]))
  refine go (fun t k => XS.bipush X4.here hx rfl (hb hby at_21) k) ?_
  show Gl _ _ _ _ _ _ _ _ (T4.setTop (mkF m 23 #[.val (.int p1), .val (.int p2), .val (.int p3), .val (.int p4), .unset, .unset, .unset] [(.int (122 : Int32)), (.int (3 : Int32)), (.ref o1), (.ref o1)]))
  obtain ⟨cl5, Ar5, vq5, S5, M5, Hh5, G5⟩ := id V4
  obtain ⟨T5, h5, X5, e5, W5, st5⟩ := stI X4 hx hZ e4 Ar5 (j := (3 : Int32)) (inb_of S5 ⟨by decide, by decide⟩) (g := (mkF m 23 #[.val (.int p1), .val (.int p2), .val (.int p3), .val (.int p4), .unset, .unset, .unset] [(.int (122 : Int32)), (.int (3 : Int32)), (.ref o1), (.ref o1)])) rfl rfl (hb hby at_23)
  have V5 : Arv Z h5 o1 k1 .int (33 : Int32) [(.int (65 : Int32)), (.int (90 : Int32)), (.int (97 : Int32)), (.int (122 : Int32)), (.int (0 : Int32)), (.int (0 : Int32)), (.int (0 : Int32)), (.int (0 : Int32)), (.int (0 : Int32)), (.int (0 : Int32)), (.int (0 : Int32)), (.int (0 : Int32)), (.int (0 : Int32)), (.int (0 : Int32)), (.int (0 : Int32)), (.int (0 : Int32)), (.int (0 : Int32)), (.int (0 : Int32)), (.int (0 : Int32)), (.int (0 : Int32)), (.int (0 : Int32)), (.int (0 : Int32)), (.int (0 : Int32)), (.int (0 : Int32)), (.int (0 : Int32)), (.int (0 : Int32)), (.int (0 : Int32)), (.int (0 : Int32)), (.int (0 : Int32)), (.int (0 : Int32)), (.int (0 : Int32)), (.int (0 : Int32)), (.int (0 : Int32))] (.int (0 : Int32)) := Arv.set Ar5 vq5 S5 M5 Hh5 G5 rfl W5 3 rfl (Nat.le_of_ble_eq_true rfl)
  have K5 : Keep h0 h5 [] := K4.wr W5 (Or.inr sz_o1)
  have N5 := Fr.snoc X5 N4 g_o1
  refine go (fun t k => st5 _ k) ?_
  show Gl _ _ _ _ _ _ _ _ (T5.setTop (mkF m 24 #[.val (.int p1), .val (.int p2), .val (.int p3), .val (.int p4), .unset, .unset, .unset] [(.ref o1)]))
  refine go (fun t k => XS.dup X5.here hx rfl (hb hby at_24) rfl rfl k) ?_
  show Gl _ _ _ _ _ _ _ _ (T5.setTop (mkF m 25 #[.val (.int p1), .val (.int p2), .val (.int p3), .val (.int p4), .unset, .unset, .unset] [(.ref o1), (.ref o1)]))
  refine go (fun t k => XS.iconst X5.here hx rfl (hb hby at_25) k) ?_
  show Gl _ _ _ _ _ _ _ _ (T5.setTop (mkF m 26 #[.val (.int p1), .val (.int p2), .val (.int p3), .val (.int p4), .unset, .unset, .unset] [(.int (4 : Int32)), (.ref o1), (.ref o1)]))
  refine go (fun t k => XS.sipush X5.here hx rfl (hb hby at_26) k) ?_
  show Gl _ _ _ _ _ _ _ _ (T5.setTop (mkF m 29 #[.val (.int p1), .val (.int p2), .val (.int p3), .val (.int p4), .unset, .unset, .unset] [(.int (192 : Int32)), (.int (4 : Int32)), (.ref o1), (.ref o1)]))
  obtain ⟨cl6, Ar6, vq6, S6, M6, Hh6, G6⟩ := id V5
  obtain ⟨T6, h6, X6, e6, W6, st6⟩ := stI X5 hx hZ e5 Ar6 (j := (4 : Int32)) (inb_of S6 ⟨by decide, by decide⟩) (g := (mkF m 29 #[.val (.int p1), .val (.int p2), .val (.int p3), .val (.int p4), .unset, .unset, .unset] [(.int (192 : Int32)), (.int (4 : Int32)), (.ref o1), (.ref o1)])) rfl rfl (hb hby at_29)
  have V6 : Arv Z h6 o1 k1 .int (33 : Int32) [(.int (65 : Int32)), (.int (90 : Int32)), (.int (97 : Int32)), (.int (122 : Int32)), (.int (192 : Int32)), (.int (0 : Int32)), (.int (0 : Int32)), (.int (0 : Int32)), (.int (0 : Int32)), (.int (0 : Int32)), (.int (0 : Int32)), (.int (0 : Int32)), (.int (0 : Int32)), (.int (0 : Int32)), (.int (0 : Int32)), (.int (0 : Int32)), (.int (0 : Int32)), (.int (0 : Int32)), (.int (0 : Int32)), (.int (0 : Int32)), (.int (0 : Int32)), (.int (0 : Int32)), (.int (0 : Int32)), (.int (0 : Int32)), (.int (0 : Int32)), (.int (0 : Int32)), (.int (0 : Int32)), (.int (0 : Int32)), (.int (0 : Int32)), (.int (0 : Int32)), (.int (0 : Int32)), (.int (0 : Int32)), (.int (0 : Int32))] (.int (0 : Int32)) := Arv.set Ar6 vq6 S6 M6 Hh6 G6 rfl W6 4 rfl (Nat.le_of_ble_eq_true rfl)
  have K6 : Keep h0 h6 [] := K5.wr W6 (Or.inr sz_o1)
  have N6 := Fr.snoc X6 N5 g_o1
  refine go (fun t k => st6 _ k) ?_
  show Gl _ _ _ _ _ _ _ _ (T6.setTop (mkF m 30 #[.val (.int p1), .val (.int p2), .val (.int p3), .val (.int p4), .unset, .unset, .unset] [(.ref o1)]))
  refine go (fun t k => XS.dup X6.here hx rfl (hb hby at_30) rfl rfl k) ?_
  show Gl _ _ _ _ _ _ _ _ (T6.setTop (mkF m 31 #[.val (.int p1), .val (.int p2), .val (.int p3), .val (.int p4), .unset, .unset, .unset] [(.ref o1), (.ref o1)]))
  refine go (fun t k => XS.iconst X6.here hx rfl (hb hby at_31) k) ?_
  show Gl _ _ _ _ _ _ _ _ (T6.setTop (mkF m 32 #[.val (.int p1), .val (.int p2), .val (.int p3), .val (.int p4), .unset, .unset, .unset] [(.int (5 : Int32)), (.ref o1), (.ref o1)]))
  refine go (fun t k => XS.sipush X6.here hx rfl (hb hby at_32) k) ?_
  show Gl _ _ _ _ _ _ _ _ (T6.setTop (mkF m 35 #[.val (.int p1), .val (.int p2), .val (.int p3), .val (.int p4), .unset, .unset, .unset] [(.int (214 : Int32)), (.int (5 : Int32)), (.ref o1), (.ref o1)]))
  obtain ⟨cl7, Ar7, vq7, S7, M7, Hh7, G7⟩ := id V6
  obtain ⟨T7, h7, X7, e7, W7, st7⟩ := stI X6 hx hZ e6 Ar7 (j := (5 : Int32)) (inb_of S7 ⟨by decide, by decide⟩) (g := (mkF m 35 #[.val (.int p1), .val (.int p2), .val (.int p3), .val (.int p4), .unset, .unset, .unset] [(.int (214 : Int32)), (.int (5 : Int32)), (.ref o1), (.ref o1)])) rfl rfl (hb hby at_35)
  have V7 : Arv Z h7 o1 k1 .int (33 : Int32) [(.int (65 : Int32)), (.int (90 : Int32)), (.int (97 : Int32)), (.int (122 : Int32)), (.int (192 : Int32)), (.int (214 : Int32)), (.int (0 : Int32)), (.int (0 : Int32)), (.int (0 : Int32)), (.int (0 : Int32)), (.int (0 : Int32)), (.int (0 : Int32)), (.int (0 : Int32)), (.int (0 : Int32)), (.int (0 : Int32)), (.int (0 : Int32)), (.int (0 : Int32)), (.int (0 : Int32)), (.int (0 : Int32)), (.int (0 : Int32)), (.int (0 : Int32)), (.int (0 : Int32)), (.int (0 : Int32)), (.int (0 : Int32)), (.int (0 : Int32)), (.int (0 : Int32)), (.int (0 : Int32)), (.int (0 : Int32)), (.int (0 : Int32)), (.int (0 : Int32)), (.int (0 : Int32)), (.int (0 : Int32)), (.int (0 : Int32))] (.int (0 : Int32)) := Arv.set Ar7 vq7 S7 M7 Hh7 G7 rfl W7 5 rfl (Nat.le_of_ble_eq_true rfl)
  have K7 : Keep h0 h7 [] := K6.wr W7 (Or.inr sz_o1)
  have N7 := Fr.snoc X7 N6 g_o1
  refine go (fun t k => st7 _ k) ?_
  show Gl _ _ _ _ _ _ _ _ (T7.setTop (mkF m 36 #[.val (.int p1), .val (.int p2), .val (.int p3), .val (.int p4), .unset, .unset, .unset] [(.ref o1)]))
  refine go (fun t k => XS.dup X7.here hx rfl (hb hby at_36) rfl rfl k) ?_
  show Gl _ _ _ _ _ _ _ _ (T7.setTop (mkF m 37 #[.val (.int p1), .val (.int p2), .val (.int p3), .val (.int p4), .unset, .unset, .unset] [(.ref o1), (.ref o1)]))
  refine go (fun t k => XS.bipush X7.here hx rfl (hb hby at_37) k) ?_
  show Gl _ _ _ _ _ _ _ _ (T7.setTop (mkF m 39 #[.val (.int p1), .val (.int p2), .val (.int p3), .val (.int p4), .unset, .unset, .unset] [(.int (6 : Int32)), (.ref o1), (.ref o1)]))
  refine go (fun t k => XS.sipush X7.here hx rfl (hb hby at_39) k) ?_
  show Gl _ _ _ _ _ _ _ _ (T7.setTop (mkF m 42 #[.val (.int p1), .val (.int p2), .val (.int p3), .val (.int p4), .unset, .unset, .unset] [(.int (216 : Int32)), (.int (6 : Int32)), (.ref o1), (.ref o1)]))
  obtain ⟨cl8, Ar8, vq8, S8, M8, Hh8, G8⟩ := id V7
  obtain ⟨T8, h8, X8, e8, W8, st8⟩ := stI X7 hx hZ e7 Ar8 (j := (6 : Int32)) (inb_of S8 ⟨by decide, by decide⟩) (g := (mkF m 42 #[.val (.int p1), .val (.int p2), .val (.int p3), .val (.int p4), .unset, .unset, .unset] [(.int (216 : Int32)), (.int (6 : Int32)), (.ref o1), (.ref o1)])) rfl rfl (hb hby at_42)
  have V8 : Arv Z h8 o1 k1 .int (33 : Int32) [(.int (65 : Int32)), (.int (90 : Int32)), (.int (97 : Int32)), (.int (122 : Int32)), (.int (192 : Int32)), (.int (214 : Int32)), (.int (216 : Int32)), (.int (0 : Int32)), (.int (0 : Int32)), (.int (0 : Int32)), (.int (0 : Int32)), (.int (0 : Int32)), (.int (0 : Int32)), (.int (0 : Int32)), (.int (0 : Int32)), (.int (0 : Int32)), (.int (0 : Int32)), (.int (0 : Int32)), (.int (0 : Int32)), (.int (0 : Int32)), (.int (0 : Int32)), (.int (0 : Int32)), (.int (0 : Int32)), (.int (0 : Int32)), (.int (0 : Int32)), (.int (0 : Int32)), (.int (0 : Int32)), (.int (0 : Int32)), (.int (0 : Int32)), (.int (0 : Int32)), (.int (0 : Int32)), (.int (0 : Int32)), (.int (0 : Int32))] (.int (0 : Int32)) := Arv.set Ar8 vq8 S8 M8 Hh8 G8 rfl W8 6 rfl (Nat.le_of_ble_eq_true rfl)
  have K8 : Keep h0 h8 [] := K7.wr W8 (Or.inr sz_o1)
  have N8 := Fr.snoc X8 N7 g_o1
  refine go (fun t k => st8 _ k) ?_
  show Gl _ _ _ _ _ _ _ _ (T8.setTop (mkF m 43 #[.val (.int p1), .val (.int p2), .val (.int p3), .val (.int p4), .unset, .unset, .unset] [(.ref o1)]))
  refine go (fun t k => XS.dup X8.here hx rfl (hb hby at_43) rfl rfl k) ?_
  show Gl _ _ _ _ _ _ _ _ (T8.setTop (mkF m 44 #[.val (.int p1), .val (.int p2), .val (.int p3), .val (.int p4), .unset, .unset, .unset] [(.ref o1), (.ref o1)]))
  refine go (fun t k => XS.bipush X8.here hx rfl (hb hby at_44) k) ?_
  show Gl _ _ _ _ _ _ _ _ (T8.setTop (mkF m 46 #[.val (.int p1), .val (.int p2), .val (.int p3), .val (.int p4), .unset, .unset, .unset] [(.int (7 : Int32)), (.ref o1), (.ref o1)]))
  refine go (fun t k => XS.sipush X8.here hx rfl (hb hby at_46) k) ?_
  show Gl _ _ _ _ _ _ _ _ (T8.setTop (mkF m 49 #[.val (.int p1), .val (.int p2), .val (.int p3), .val (.int p4), .unset, .unset, .unset] [(.int (246 : Int32)), (.int (7 : Int32)), (.ref o1), (.ref o1)]))
  obtain ⟨cl9, Ar9, vq9, S9, M9, Hh9, G9⟩ := id V8
  obtain ⟨T9, h9, X9, e9, W9, st9⟩ := stI X8 hx hZ e8 Ar9 (j := (7 : Int32)) (inb_of S9 ⟨by decide, by decide⟩) (g := (mkF m 49 #[.val (.int p1), .val (.int p2), .val (.int p3), .val (.int p4), .unset, .unset, .unset] [(.int (246 : Int32)), (.int (7 : Int32)), (.ref o1), (.ref o1)])) rfl rfl (hb hby at_49)
  have V9 : Arv Z h9 o1 k1 .int (33 : Int32) [(.int (65 : Int32)), (.int (90 : Int32)), (.int (97 : Int32)), (.int (122 : Int32)), (.int (192 : Int32)), (.int (214 : Int32)), (.int (216 : Int32)), (.int (246 : Int32)), (.int (0 : Int32)), (.int (0 : Int32)), (.int (0 : Int32)), (.int (0 : Int32)), (.int (0 : Int32)), (.int (0 : Int32)), (.int (0 : Int32)), (.int (0 : Int32)), (.int (0 : Int32)), (.int (0 : Int32)), (.int (0 : Int32)), (.int (0 : Int32)), (.int (0 : Int32)), (.int (0 : Int32)), (.int (0 : Int32)), (.int (0 : Int32)), (.int (0 : Int32)), (.int (0 : Int32)), (.int (0 : Int32)), (.int (0 : Int32)), (.int (0 : Int32)), (.int (0 : Int32)), (.int (0 : Int32)), (.int (0 : Int32)), (.int (0 : Int32))] (.int (0 : Int32)) := Arv.set Ar9 vq9 S9 M9 Hh9 G9 rfl W9 7 rfl (Nat.le_of_ble_eq_true rfl)
  have K9 : Keep h0 h9 [] := K8.wr W9 (Or.inr sz_o1)
  have N9 := Fr.snoc X9 N8 g_o1
  refine go (fun t k => st9 _ k) ?_
  show Gl _ _ _ _ _ _ _ _ (T9.setTop (mkF m 50 #[.val (.int p1), .val (.int p2), .val (.int p3), .val (.int p4), .unset, .unset, .unset] [(.ref o1)]))
  refine go (fun t k => XS.dup X9.here hx rfl (hb hby at_50) rfl rfl k) ?_
  show Gl _ _ _ _ _ _ _ _ (T9.setTop (mkF m 51 #[.val (.int p1), .val (.int p2), .val (.int p3), .val (.int p4), .unset, .unset, .unset] [(.ref o1), (.ref o1)]))
  refine go (fun t k => XS.bipush X9.here hx rfl (hb hby at_51) k) ?_
  show Gl _ _ _ _ _ _ _ _ (T9.setTop (mkF m 53 #[.val (.int p1), .val (.int p2), .val (.int p3), .val (.int p4), .unset, .unset, .unset] [(.int (8 : Int32)), (.ref o1), (.ref o1)]))
  refine go (fun t k => XS.sipush X9.here hx rfl (hb hby at_53) k) ?_
  show Gl _ _ _ _ _ _ _ _ (T9.setTop (mkF m 56 #[.val (.int p1), .val (.int p2), .val (.int p3), .val (.int p4), .unset, .unset, .unset] [(.int (248 : Int32)), (.int (8 : Int32)), (.ref o1), (.ref o1)]))
  obtain ⟨cl10, Ar10, vq10, S10, M10, Hh10, G10⟩ := id V9
  obtain ⟨T10, h10, X10, e10, W10, st10⟩ := stI X9 hx hZ e9 Ar10 (j := (8 : Int32)) (inb_of S10 ⟨by decide, by decide⟩) (g := (mkF m 56 #[.val (.int p1), .val (.int p2), .val (.int p3), .val (.int p4), .unset, .unset, .unset] [(.int (248 : Int32)), (.int (8 : Int32)), (.ref o1), (.ref o1)])) rfl rfl (hb hby at_56)
  have V10 : Arv Z h10 o1 k1 .int (33 : Int32) [(.int (65 : Int32)), (.int (90 : Int32)), (.int (97 : Int32)), (.int (122 : Int32)), (.int (192 : Int32)), (.int (214 : Int32)), (.int (216 : Int32)), (.int (246 : Int32)), (.int (248 : Int32)), (.int (0 : Int32)), (.int (0 : Int32)), (.int (0 : Int32)), (.int (0 : Int32)), (.int (0 : Int32)), (.int (0 : Int32)), (.int (0 : Int32)), (.int (0 : Int32)), (.int (0 : Int32)), (.int (0 : Int32)), (.int (0 : Int32)), (.int (0 : Int32)), (.int (0 : Int32)), (.int (0 : Int32)), (.int (0 : Int32)), (.int (0 : Int32)), (.int (0 : Int32)), (.int (0 : Int32)), (.int (0 : Int32)), (.int (0 : Int32)), (.int (0 : Int32)), (.int (0 : Int32)), (.int (0 : Int32)), (.int (0 : Int32))] (.int (0 : Int32)) := Arv.set Ar10 vq10 S10 M10 Hh10 G10 rfl W10 8 rfl (Nat.le_of_ble_eq_true rfl)
  have K10 : Keep h0 h10 [] := K9.wr W10 (Or.inr sz_o1)
  have N10 := Fr.snoc X10 N9 g_o1
  refine go (fun t k => st10 _ k) ?_
  show Gl _ _ _ _ _ _ _ _ (T10.setTop (mkF m 57 #[.val (.int p1), .val (.int p2), .val (.int p3), .val (.int p4), .unset, .unset, .unset] [(.ref o1)]))
  refine go (fun t k => XS.dup X10.here hx rfl (hb hby at_57) rfl rfl k) ?_
  show Gl _ _ _ _ _ _ _ _ (T10.setTop (mkF m 58 #[.val (.int p1), .val (.int p2), .val (.int p3), .val (.int p4), .unset, .unset, .unset] [(.ref o1), (.ref o1)]))
  refine go (fun t k => XS.bipush X10.here hx rfl (hb hby at_58) k) ?_
  show Gl _ _ _ _ _ _ _ _ (T10.setTop (mkF m 60 #[.val (.int p1), .val (.int p2), .val (.int p3), .val (.int p4), .unset, .unset, .unset] [(.int (9 : Int32)), (.ref o1), (.ref o1)]))
  refine go (fun t k => XS.sipush X10.here hx rfl (hb hby at_60) k) ?_
  show Gl _ _ _ _ _ _ _ _ (T10.setTop (mkF m 63 #[.val (.int p1), .val (.int p2), .val (.int p3), .val (.int p4), .unset, .unset, .unset] [(.int (767 : Int32)), (.int (9 : Int32)), (.ref o1), (.ref o1)]))
  obtain ⟨cl11, Ar11, vq11, S11, M11, Hh11, G11⟩ := id V10
  obtain ⟨T11, h11, X11, e11, W11, st11⟩ := stI X10 hx hZ e10 Ar11 (j := (9 : Int32)) (inb_of S11 ⟨by decide, by decide⟩) (g := (mkF m 63 #[.val (.int p1), .val (.int p2), .val (.int p3), .val (.int p4), .unset, .unset, .unset] [(.int (767 : Int32)), (.int (9 : Int32)), (.ref o1), (.ref o1)])) rfl rfl (hb hby at_63)
  have V11 : Arv Z h11 o1 k1 .int (33 : Int32) [(.int (65 : Int32)), (.int (90 : Int32)), (.int (97 : Int32)), (.int (122 : Int32)), (.int (192 : Int32)), (.int (214 : Int32)), (.int (216 : Int32)), (.int (246 : Int32)), (.int (248 : Int32)), (.int (767 : Int32)), (.int (0 : Int32)), (.int (0 : Int32)), (.int (0 : Int32)), (.int (0 : Int32)), (.int (0 : Int32)), (.int (0 : Int32)), (.int (0 : Int32)), (.int (0 : Int32)), (.int (0 : Int32)), (.int (0 : Int32)), (.int (0 : Int32)), (.int (0 : Int32)), (.int (0 : Int32)), (.int (0 : Int32)), (.int (0 : Int32)), (.int (0 : Int32)), (.int (0 : Int32)), (.int (0 : Int32)), (.int (0 : Int32)), (.int (0 : Int32)), (.int (0 : Int32)), (.int (0 : Int32)), (.int (0 : Int32))] (.int (0 : Int32)) := Arv.set Ar11 vq11 S11 M11 Hh11 G11 rfl W11 9 rfl (Nat.le_of_ble_eq_true rfl)
  have K11 : Keep h0 h11 [] := K10.wr W11 (Or.inr sz_o1)
  have N11 := Fr.snoc X11 N10 g_o1
  refine go (fun t k => st11 _ k) ?_
  show Gl _ _ _ _ _ _ _ _ (T11.setTop (mkF m 64 #[.val (.int p1), .val (.int p2), .val (.int p3), .val (.int p4), .unset, .unset, .unset] [(.ref o1)]))
  refine go (fun t k => XS.dup X11.here hx rfl (hb hby at_64) rfl rfl k) ?_
  show Gl _ _ _ _ _ _ _ _ (T11.setTop (mkF m 65 #[.val (.int p1), .val (.int p2), .val (.int p3), .val (.int p4), .unset, .unset, .unset] [(.ref o1), (.ref o1)]))
  refine go (fun t k => XS.bipush X11.here hx rfl (hb hby at_65) k) ?_
  show Gl _ _ _ _ _ _ _ _ (T11.setTop (mkF m 67 #[.val (.int p1), .val (.int p2), .val (.int p3), .val (.int p4), .unset, .unset, .unset] [(.int (10 : Int32)), (.ref o1), (.ref o1)]))
  refine go (fun t k => XS.sipush X11.here hx rfl (hb hby at_67) k) ?_
  show Gl _ _ _ _ _ _ _ _ (T11.setTop (mkF m 70 #[.val (.int p1), .val (.int p2), .val (.int p3), .val (.int p4), .unset, .unset, .unset] [(.int (880 : Int32)), (.int (10 : Int32)), (.ref o1), (.ref o1)]))
  obtain ⟨cl12, Ar12, vq12, S12, M12, Hh12, G12⟩ := id V11
  obtain ⟨T12, h12, X12, e12, W12, st12⟩ := stI X11 hx hZ e11 Ar12 (j := (10 : Int32)) (inb_of S12 ⟨by decide, by decide⟩) (g := (mkF m 70 #[.val (.int p1), .val (.int p2), .val (.int p3), .val (.int p4), .unset, .unset, .unset] [(.int (880 : Int32)), (.int (10 : Int32)), (.ref o1), (.ref o1)])) rfl rfl (hb hby at_70)
  have V12 : Arv Z h12 o1 k1 .int (33 : Int32) [(.int (65 : Int32)), (.int (90 : Int32)), (.int (97 : Int32)), (.int (122 : Int32)), (.int (192 : Int32)), (.int (214 : Int32)), (.int (216 : Int32)), (.int (246 : Int32)), (.int (248 : Int32)), (.int (767 : Int32)), (.int (880 : Int32)), (.int (0 : Int32)), (.int (0 : Int32)), (.int (0 : Int32)), (.int (0 : Int32)), (.int (0 : Int32)), (.int (0 : Int32)), (.int (0 : Int32)), (.int (0 : Int32)), (.int (0 : Int32)), (.int (0 : Int32)), (.int (0 : Int32)), (.int (0 : Int32)), (.int (0 : Int32)), (.int (0 : Int32)), (.int (0 : Int32)), (.int (0 : Int32)), (.int (0 : Int32)), (.int (0 : Int32)), (.int (0 : Int32)), (.int (0 : Int32)), (.int (0 : Int32)), (.int (0 : Int32))] (.int (0 : Int32)) := Arv.set Ar12 vq12 S12 M12 Hh12 G12 rfl W12 10 rfl (Nat.le_of_ble_eq_true rfl)
  have K12 : Keep h0 h12 [] := K11.wr W12 (Or.inr sz_o1)
  have N12 := Fr.snoc X12 N11 g_o1
  refine go (fun t k => st12 _ k) ?_
  show Gl _ _ _ _ _ _ _ _ (T12.setTop (mkF m 71 #[.val (.int p1), .val (.int p2), .val (.int p3), .val (.int p4), .unset, .unset, .unset] [(.ref o1)]))
  refine go (fun t k => XS.dup X12.here hx rfl (hb hby at_71) rfl rfl k) ?_
  show Gl _ _ _ _ _ _ _ _ (T12.setTop (mkF m 72 #[.val (.int p1), .val (.int p2), .val (.int p3), .val (.int p4), .unset, .unset, .unset] [(.ref o1), (.ref o1)]))
  refine go (fun t k => XS.bipush X12.here hx rfl (hb hby at_72) k) ?_
  show Gl _ _ _ _ _ _ _ _ (T12.setTop (mkF m 74 #[.val (.int p1), .val (.int p2), .val (.int p3), .val (.int p4), .unset, .unset, .unset] [(.int (11 : Int32)), (.ref o1), (.ref o1)]))
  refine go (fun t k => XS.sipush X12.here hx rfl (hb hby at_74) k) ?_
  show Gl _ _ _ _ _ _ _ _ (T12.setTop (mkF m 77 #[.val (.int p1), .val (.int p2), .val (.int p3), .val (.int p4), .unset, .unset, .unset] [(.int (893 : Int32)), (.int (11 : Int32)), (.ref o1), (.ref o1)]))
  obtain ⟨cl13, Ar13, vq13, S13, M13, Hh13, G13⟩ := id V12
  obtain ⟨T13, h13, X13, e13, W13, st13⟩ := stI X12 hx hZ e12 Ar13 (j := (11 : Int32)) (inb_of S13 ⟨by decide, by decide⟩) (g := (mkF m 77 #[.val (.int p1), .val (.int p2), .val (.int p3), .val (.int p4), .unset, .unset, .unset] [(.int (893 : Int32)), (.int (11 : Int32)), (.ref o1), (.ref o1)])) rfl rfl (hb hby at_77)
  have V13 : Arv Z h13 o1 k1 .int (33 : Int32) [(.int (65 : Int32)), (.int (90 : Int32)), (.int (97 : Int32)), (.int (122 : Int32)), (.int (192 : Int32)), (.int (214 : Int32)), (.int (216 : Int32)), (.int (246 : Int32)), (.int (248 : Int32)), (.int (767 : Int32)), (.int (880 : Int32)), (.int (893 : Int32)), (.int (0 : Int32)), (.int (0 : Int32)), (.int (0 : Int32)), (.int (0 : Int32)), (.int (0 : Int32)), (.int (0 : Int32)), (.int (0 : Int32)), (.int (0 : Int32)), (.int (0 : Int32)), (.int (0 : Int32)), (.int (0 : Int32)), (.int (0 : Int32)), (.int (0 : Int32)), (.int (0 : Int32)), (.int (0 : Int32)), (.int (0 : Int32)), (.int (0 : Int32)), (.int (0 : Int32)), (.int (0 : Int32)), (.int (0 : Int32)), (.int (0 : Int32))] (.int (0 : Int32)) := Arv.set Ar13 vq13 S13 M13 Hh13 G13 rfl W13 11 rfl (Nat.le_of_ble_eq_true rfl)
  have K13 : Keep h0 h13 [] := K12.wr W13 (Or.inr sz_o1)
  have N13 := Fr.snoc X13 N12 g_o1
  refine go (fun t k => st13 _ k) ?_
  show Gl _ _ _ _ _ _ _ _ (T13.setTop (mkF m 78 #[.val (.int p1), .val (.int p2), .val (.int p3), .val (.int p4), .unset, .unset, .unset] [(.ref o1)]))
  refine go (fun t k => XS.dup X13.here hx rfl (hb hby at_78) rfl rfl k) ?_
  show Gl _ _ _ _ _ _ _ _ (T13.setTop (mkF m 79 #[.val (.int p1), .val (.int p2), .val (.int p3), .val (.int p4), .unset, .unset, .unset] [(.ref o1), (.ref o1)]))
  refine go (fun t k => XS.bipush X13.here hx rfl (hb hby at_79) k) ?_
  show Gl _ _ _ _ _ _ _ _ (T13.setTop (mkF m 81 #[.val (.int p1), .val (.int p2), .val (.int p3), .val (.int p4), .unset, .unset, .unset] [(.int (12 : Int32)), (.ref o1), (.ref o1)]))
  refine go (fun t k => XS.sipush X13.here hx rfl (hb hby at_81) k) ?_
  show Gl _ _ _ _ _ _ _ _ (T13.setTop (mkF m 84 #[.val (.int p1), .val (.int p2), .val (.int p3), .val (.int p4), .unset, .unset, .unset] [(.int (895 : Int32)), (.int (12 : Int32)), (.ref o1), (.ref o1)]))
  obtain ⟨cl14, Ar14, vq14, S14, M14, Hh14, G14⟩ := id V13
  obtain ⟨T14, h14, X14, e14, W14, st14⟩ := stI X13 hx hZ e13 Ar14 (j := (12 : Int32)) (inb_of S14 ⟨by decide, by decide⟩) (g := (mkF m 84 #[.val (.int p1), .val (.int p2), .val (.int p3), .val (.int p4), .unset, .unset, .unset] [(.int (895 : Int32)), (.int (12 : Int32)), (.ref o1), (.ref o1)])) rfl rfl (hb hby at_84)
  have V14 : Arv Z h14 o1 k1 .int (33 : Int32) [(.int (65 : Int32)), (.int (90 : Int32)), (.int (97 : Int32)), (.int (122 : Int32)), (.int (192 : Int32)), (.int (214 : Int32)), (.int (216 : Int32)), (.int (246 : Int32)), (.int (248 : Int32)), (.int (767 : Int32)), (.int (880 : Int32)), (.int (893 : Int32)), (.int (895 : Int32)), (.int (0 : Int32)), (.int (0 : Int32)), (.int (0 : Int32)), (.int (0 : Int32)), (.int (0 : Int32)), (.int (0 : Int32)), (.int (0 : Int32)), (.int (0 : Int32)), (.int (0 : Int32)), (.int (0 : Int32)), (.int (0 : Int32)), (.int (0 : Int32)), (.int (0 : Int32)), (.int (0 : Int32)), (.int (0 : Int32)), (.int (0 : Int32)), (.int (0 : Int32)), (.int (0 : Int32)), (.int (0 : Int32)), (.int (0 : Int32))] (.int (0 : Int32)) := Arv.set Ar14 vq14 S14 M14 Hh14 G14 rfl W14 12 rfl (Nat.le_of_ble_eq_true rfl)
  have K14 : Keep h0 h14 [] := K13.wr W14 (Or.inr sz_o1)
  have N14 := Fr.snoc X14 N13 g_o1
  refine go (fun t k => st14 _ k) ?_
  show Gl _ _ _ _ _ _ _ _ (T14.setTop (mkF m 85 #[.val (.int p1), .val (.int p2), .val (.int p3), .val (.int p4), .unset, .unset, .unset] [(.ref o1)]))
  refine go (fun t k => XS.dup X14.here hx rfl (hb hby at_85) rfl rfl k) ?_
  show Gl _ _ _ _ _ _ _ _ (T14.setTop (mkF m 86 #[.val (.int p1), .val (.int p2), .val (.int p3), .val (.int p4), .unset, .unset, .unset] [(.ref o1), (.ref o1)]))
  refine go (fun t k => XS.bipush X14.here hx rfl (hb hby at_86) k) ?_
  show Gl _ _ _ _ _ _ _ _ (T14.setTop (mkF m 88 #[.val (.int p1), .val (.int p2), .val (.int p3), .val (.int p4), .unset, .unset, .unset] [(.int (13 : Int32)), (.ref o1), (.ref o1)]))
  refine go (fun t k => XS.sipush X14.here hx rfl (hb hby at_88) k) ?_
  show Gl _ _ _ _ _ _ _ _ (T14.setTop (mkF m 91 #[.val (.int p1), .val (.int p2), .val (.int p3), .val (.int p4), .unset, .unset, .unset] [(.int (8191 : Int32)), (.int (13 : Int32)), (.ref o1), (.ref o1)]))
  obtain ⟨cl15, Ar15, vq15, S15, M15, Hh15, G15⟩ := id V14
  obtain ⟨T15, h15, X15, e15, W15, st15⟩ := stI X14 hx hZ e14 Ar15 (j := (13 : Int32)) (inb_of S15 ⟨by decide, by decide⟩) (g := (mkF m 91 #[.val (.int p1), .val (.int p2), .val (.int p3), .val (.int p4), .unset, .unset, .unset] [(.int (8191 : Int32)), (.int (13 : Int32)), (.ref o1), (.ref o1)])) rfl rfl (hb hby at_91)
  have V15 : Arv Z h15 o1 k1 .int (33 : Int32) [(.int (65 : Int32)), (.int (90 : Int32)), (.int (97 : Int32)), (.int (122 : Int32)), (.int (192 : Int32)), (.int (214 : Int32)), (.int (216 : Int32)), (.int (246 : Int32)), (.int (248 : Int32)), (.int (767 : Int32)), (.int (880 : Int32)), (.int (893 : Int32)), (.int (895 : Int32)), (.int (8191 : Int32)), (.int (0 : Int32)), (.int (0 : Int32)), (.int (0 : Int32)), (.int (0 : Int32)), (.int (0 : Int32)), (.int (0 : Int32)), (.int (0 : Int32)), (.int (0 : Int32)), (.int (0 : Int32)), (.int (0 : Int32)), (.int (0 : Int32)), (.int (0 : Int32)), (.int (0 : Int32)), (.int (0 : Int32)), (.int (0 : Int32)), (.int (0 : Int32)), (.int (0 : Int32)), (.int (0 : Int32)), (.int (0 : Int32))] (.int (0 : Int32)) := Arv.set Ar15 vq15 S15 M15 Hh15 G15 rfl W15 13 rfl (Nat.le_of_ble_eq_true rfl)
  have K15 : Keep h0 h15 [] := K14.wr W15 (Or.inr sz_o1)
  have N15 := Fr.snoc X15 N14 g_o1
  refine go (fun t k => st15 _ k) ?_
  show Gl _ _ _ _ _ _ _ _ (T15.setTop (mkF m 92 #[.val (.int p1), .val (.int p2), .val (.int p3), .val (.int p4), .unset, .unset, .unset] [(.ref o1)]))
  refine go (fun t k => XS.dup X15.here hx rfl (hb hby at_92) rfl rfl k) ?_
  show Gl _ _ _ _ _ _ _ _ (T15.setTop (mkF m 93 #[.val (.int p1), .val (.int p2), .val (.int p3), .val (.int p4), .unset, .unset, .unset] [(.ref o1), (.ref o1)]))
  refine go (fun t k => XS.bipush X15.here hx rfl (hb hby at_93) k) ?_
  show Gl _ _ _ _ _ _ _ _ (T15.setTop (mkF m 95 #[.val (.int p1), .val (.int p2), .val (.int p3), .val (.int p4), .unset, .unset, .unset] [(.int (14 : Int32)), (.ref o1), (.ref o1)]))
  refine go (fun t k => XS.sipush X15.here hx rfl (hb hby at_95) k) ?_
  show Gl _ _ _ _ _ _ _ _ (T15.setTop (mkF m 98 #[.val (.int p1), .val (.int p2), .val (.int p3), .val (.int p4), .unset, .unset, .unset] [(.int (8204 : Int32)), (.int (14 : Int32)), (.ref o1), (.ref o1)]))
  obtain ⟨cl16, Ar16, vq16, S16, M16, Hh16, G16⟩ := id V15
  obtain ⟨T16, h16, X16, e16, W16, st16⟩ := stI X15 hx hZ e15 Ar16 (j := (14 : Int32)) (inb_of S16 ⟨by decide, by decide⟩) (g := (mkF m 98 #[.val (.int p1), .val (.int p2), .val (.int p3), .val (.int p4), .unset, .unset, .unset] [(.int (8204 : Int32)), (.int (14 : Int32)), (.ref o1), (.ref o1)])) rfl rfl (hb hby at_98)
  have V16 : Arv Z h16 o1 k1 .int (33 : Int32) [(.int (65 : Int32)), (.int (90 : Int32)), (.int (97 : Int32)), (.int (122 : Int32)), (.int (192 : Int32)), (.int (214 : Int32)), (.int (216 : Int32)), (.int (246 : Int32)), (.int (248 : Int32)), (.int (767 : Int32)), (.int (880 : Int32)), (.int (893 : Int32)), (.int (895 : Int32)), (.int (8191 : Int32)), (.int (8204 : Int32)), (.int (0 : Int32)), (.int (0 : Int32)), (.int (0 : Int32)), (.int (0 : Int32)), (.int (0 : Int32)), (.int (0 : Int32)), (.int (0 : Int32)), (.int (0 : Int32)), (.int (0 : Int32)), (.int (0 : Int32)), (.int (0 : Int32)), (.int (0 : Int32)), (.int (0 : Int32)), (.int (0 : Int32)), (.int (0 : Int32)), (.int (0 : Int32)), (.int (0 : Int32)), (.int (0 : Int32))] (.int (0 : Int32)) := Arv.set Ar16 vq16 S16 M16 Hh16 G16 rfl W16 14 rfl (Nat.le_of_ble_eq_true rfl)
  have K16 : Keep h0 h16 [] := K15.wr W16 (Or.inr sz_o1)
  have N16 := Fr.snoc X16 N15 g_o1
  refine go (fun t k => st16 _ k) ?_
  show Gl _ _ _ _ _ _ _ _ (T16.setTop (mkF m 99 #[.val (.int p1), .val (.int p2), .val (.int p3), .val (.int p4), .unset, .unset, .unset] [(.ref o1)]))
  refine go (fun t k => XS.dup X16.here hx rfl (hb hby at_99) rfl rfl k) ?_
  show Gl _ _ _ _ _ _ _ _ (T16.setTop (mkF m 100 #[.val (.int p1), .val (.int p2), .val (.int p3), .val (.int p4), .unset, .unset, .unset] [(.ref o1), (.ref o1)]))
  refine go (fun t k => XS.bipush X16.here hx rfl (hb hby at_100) k) ?_
  show Gl _ _ _ _ _ _ _ _ (T16.setTop (mkF m 102 #[.val (.int p1), .val (.int p2), .val (.int p3), .val (.int p4), .unset, .unset, .unset] [(.int (15 : Int32)), (.ref o1), (.ref o1)]))
  refine go (fun t k => XS.sipush X16.here hx rfl (hb hby at_102) k) ?_
  show Gl _ _ _ _ _ _ _ _ (T16.setTop (mkF m 105 #[.val (.int p1), .val (.int p2), .val (.int p3), .val (.int p4), .unset, .unset, .unset] [(.int (8205 : Int32)), (.int (15 : Int32)), (.ref o1), (.ref o1)]))
  obtain ⟨cl17, Ar17, vq17, S17, M17, Hh17, G17⟩ := id V16
  obtain ⟨T17, h17, X17, e17, W17, st17⟩ := stI X16 hx hZ e16 Ar17 (j := (15 : Int32)) (inb_of S17 ⟨by decide, by decide⟩) (g := (mkF m 105 #[.val (.int p1), .val (.int p2), .val (.int p3), .val (.int p4), .unset, .unset, .unset] [(.int (8205 : Int32)), (.int (15 : Int32)), (.ref o1), (.ref o1)])) rfl rfl (hb hby at_105)
  have V17 : Arv Z h17 o1 k1 .int (33 : Int32) [(.int (65 : Int32)), (.int (90 : Int32)), (.int (97 : Int32)), (.int (122 : Int32)), (.int (192 : Int32)), (.int (214 : Int32)), (.int (216 : Int32)), (.int (246 : Int32)), (.int (248 : Int32)), (.int (767 : Int32)), (.int (880 : Int32)), (.int (893 : Int32)), (.int (895 : Int32)), (.int (8191 : Int32)), (.int (8204 : Int32)), (.int (8205 : Int32)), (.int (0 : Int32)), (.int (0 : Int32)), (.int (0 : Int32)), (.int (0 : Int32)), (.int (0 : Int32)), (.int (0 : Int32)), (.int (0 : Int32)), (.int (0 : Int32)), (.int (0 : Int32)), (.int (0 : Int32)), (.int (0 : Int32)), (.int (0 : Int32)), (.int (0 : Int32)), (.int (0 : Int32)), (.int (0 : Int32)), (.int (0 : Int32)), (.int (0 : Int32))] (.int (0 : Int32)) := Arv.set Ar17 vq17 S17 M17 Hh17 G17 rfl W17 15 rfl (Nat.le_of_ble_eq_true rfl)
  have K17 : Keep h0 h17 [] := K16.wr W17 (Or.inr sz_o1)
  have N17 := Fr.snoc X17 N16 g_o1
  refine go (fun t k => st17 _ k) ?_
  show Gl _ _ _ _ _ _ _ _ (T17.setTop (mkF m 106 #[.val (.int p1), .val (.int p2), .val (.int p3), .val (.int p4), .unset, .unset, .unset] [(.ref o1)]))
  refine go (fun t k => XS.dup X17.here hx rfl (hb hby at_106) rfl rfl k) ?_
  show Gl _ _ _ _ _ _ _ _ (T17.setTop (mkF m 107 #[.val (.int p1), .val (.int p2), .val (.int p3), .val (.int p4), .unset, .unset, .unset] [(.ref o1), (.ref o1)]))
  refine go (fun t k => XS.bipush X17.here hx rfl (hb hby at_107) k) ?_
  show Gl _ _ _ _ _ _ _ _ (T17.setTop (mkF m 109 #[.val (.int p1), .val (.int p2), .val (.int p3), .val (.int p4), .unset, .unset, .unset] [(.int (16 : Int32)), (.ref o1), (.ref o1)]))
  refine go (fun t k => XS.sipush X17.here hx rfl (hb hby at_109) k) ?_
  show Gl _ _ _ _ _ _ _ _ (T17.setTop (mkF m 112 #[.val (.int p1), .val (.int p2), .val (.int p3), .val (.int p4), .unset, .unset, .unset] [(.int (8304 : Int32)), (.int (16 : Int32)), (.ref o1), (.ref o1)]))
  obtain ⟨cl18, Ar18, vq18, S18, M18, Hh18, G18⟩ := id V17
  obtain ⟨T18, h18, X18, e18, W18, st18⟩ := stI X17 hx hZ e17 Ar18 (j := (16 : Int32)) (inb_of S18 ⟨by decide, by decide⟩) (g := (mkF m 112 #[.val (.int p1), .val (.int p2), .val (.int p3), .val (.int p4), .unset, .unset, .unset] [(.int (8304 : Int32)), (.int (16 : Int32)), (.ref o1), (.ref o1)])) rfl rfl (hb hby at_112)
  have V18 : Arv Z h18 o1 k1 .int (33 : Int32) [(.int (65 : Int32)), (.int (90 : Int32)), (.int (97 : Int32)), (.int (122 : Int32)), (.int (192 : Int32)), (.int (214 : Int32)), (.int (216 : Int32)), (.int (246 : Int32)), (.int (248 : Int32)), (.int (767 : Int32)), (.int (880 : Int32)), (.int (893 : Int32)), (.int (895 : Int32)), (.int (8191 : Int32)), (.int (8204 : Int32)), (.int (8205 : Int32)), (.int (8304 : Int32)), (.int (0 : Int32)), (.int (0 : Int32)), (.int (0 : Int32)), (.int (0 : Int32)), (.int (0 : Int32)), (.int (0 : Int32)), (.int (0 : Int32)), (.int (0 : Int32)), (.int (0 : Int32)), (.int (0 : Int32)), (.int (0 : Int32)), (.int (0 : Int32)), (.int (0 : Int32)), (.int (0 : Int32)), (.int (0 : Int32)), (.int (0 : Int32))] (.int (0 : Int32)) := Arv.set Ar18 vq18 S18 M18 Hh18 G18 rfl W18 16 rfl (Nat.le_of_ble_eq_true rfl)
  have K18 : Keep h0 h18 [] := K17.wr W18 (Or.inr sz_o1)
  have N18 := Fr.snoc X18 N17 g_o1
  refine go (fun t k => st18 _ k) ?_
  show Gl _ _ _ _ _ _ _ _ (T18.setTop (mkF m 113 #[.val (.int p1), .val (.int p2), .val (.int p3), .val (.int p4), .unset, .unset, .unset] [(.ref o1)]))
  refine go (fun t k => XS.dup X18.here hx rfl (hb hby at_113) rfl rfl k) ?_
  show Gl _ _ _ _ _ _ _ _ (T18.setTop (mkF m 114 #[.val (.int p1), .val (.int p2), .val (.int p3), .val (.int p4), .unset, .unset, .unset] [(.ref o1), (.ref o1)]))
  refine go (fun t k => XS.bipush X18.here hx rfl (hb hby at_114) k) ?_
  show Gl _ _ _ _ _ _ _ _ (T18.setTop (mkF m 116 #[.val (.int p1), .val (.int p2), .val (.int p3), .val (.int p4), .unset, .unset, .unset] [(.int (17 : Int32)), (.ref o1), (.ref o1)]))
  refine go (fun t k => XS.sipush X18.here hx rfl (hb hby at_116) k) ?_
  show Gl _ _ _ _ _ _ _ _ (T18.setTop (mkF m 119 #[.val (.int p1), .val (.int p2), .val (.int p3), .val (.int p4), .unset, .unset, .unset] [(.int (8591 : Int32)), (.int (17 : Int32)), (.ref o1), (.ref o1)]))
  obtain ⟨cl19, Ar19, vq19, S19, M19, Hh19, G19⟩ := id V18
  obtain ⟨T19, h19, X19, e19, W19, st19⟩ := stI X18 hx hZ e18 Ar19 (j := (17 : Int32)) (inb_of S19 ⟨by decide, by decide⟩) (g := (mkF m 119 #[.val (.int p1), .val (.int p2), .val (.int p3), .val (.int p4), .unset, .unset, .unset] [(.int (8591 : Int32)), (.int (17 : Int32)), (.ref o1), (.ref o1)])) rfl rfl (hb hby at_119)
  have V19 : Arv Z h19 o1 k1 .int (33 : Int32) [(.int (65 : Int32)), (.int (90 : Int32)), (.int (97 : Int32)), (.int (122 : Int32)), (.int (192 : Int32)), (.int (214 : Int32)), (.int (216 : Int32)), (.int (246 : Int32)), (.int (248 : Int32)), (.int (767 : Int32)), (.int (880 : Int32)), (.int (893 : Int32)), (.int (895 : Int32)), (.int (8191 : Int32)), (.int (8204 : Int32)), (.int (8205 : Int32)), (.int (8304 : Int32)), (.int (8591 : Int32)), (.int (0 : Int32)), (.int (0 : Int32)), (.int (0 : Int32)), (.int (0 : Int32)), (.int (0 : Int32)), (.int (0 : Int32)), (.int (0 : Int32)), (.int (0 : Int32)), (.int (0 : Int32)), (.int (0 : Int32)), (.int (0 : Int32)), (.int (0 : Int32)), (.int (0 : Int32)), (.int (0 : Int32)), (.int (0 : Int32))] (.int (0 : Int32)) := Arv.set Ar19 vq19 S19 M19 Hh19 G19 rfl W19 17 rfl (Nat.le_of_ble_eq_true rfl)
  have K19 : Keep h0 h19 [] := K18.wr W19 (Or.inr sz_o1)
  have N19 := Fr.snoc X19 N18 g_o1
  refine go (fun t k => st19 _ k) ?_
  show Gl _ _ _ _ _ _ _ _ (T19.setTop (mkF m 120 #[.val (.int p1), .val (.int p2), .val (.int p3), .val (.int p4), .unset, .unset, .unset] [(.ref o1)]))
  refine go (fun t k => XS.dup X19.here hx rfl (hb hby at_120) rfl rfl k) ?_
  show Gl _ _ _ _ _ _ _ _ (T19.setTop (mkF m 121 #[.val (.int p1), .val (.int p2), .val (.int p3), .val (.int p4), .unset, .unset, .unset] [(.ref o1), (.ref o1)]))
  refine go (fun t k => XS.bipush X19.here hx rfl (hb hby at_121) k) ?_
  show Gl _ _ _ _ _ _ _ _ (T19.setTop (mkF m 123 #[.val (.int p1), .val (.int p2), .val (.int p3), .val (.int p4), .unset, .unset, .unset] [(.int (18 : Int32)), (.ref o1), (.ref o1)]))
  refine go (fun t k => XS.sipush X19.here hx rfl (hb hby at_123) k) ?_
  show Gl _ _ _ _ _ _ _ _ (T19.setTop (mkF m 126 #[.val (.int p1), .val (.int p2), .val (.int p3), .val (.int p4), .unset, .unset, .unset] [(.int (11264 : Int32)), (.int (18 : Int32)), (.ref o1), (.ref o1)]))
  obtain ⟨cl20, Ar20, vq20, S20, M20, Hh20, G20⟩ := id V19
  obtain ⟨T20, h20, X20, e20, W20, st20⟩ := stI X19 hx hZ e19 Ar20 (j := (18 : Int32)) (inb_of S20 ⟨by decide, by decide⟩) (g := (mkF m 126 #[.val (.int p1), .val (.int p2), .val (.int p3), .val (.int p4), .unset, .unset, .unset] [(.int (11264 : Int32)), (.int (18 : Int32)), (.ref o1), (.ref o1)])) rfl rfl (hb hby at_126)
  have V20 : Arv Z h20 o1 k1 .int (33 : Int32) [(.int (65 : Int32)), (.int (90 : Int32)), (.int (97 : Int32)), (.int (122 : Int32)), (.int (192 : Int32)), (.int (214 : Int32)), (.int (216 : Int32)), (.int (246 : Int32)), (.int (248 : Int32)), (.int (767 : Int32)), (.int (880 : Int32)), (.int (893 : Int32)), (.int (895 : Int32)), (.int (8191 : Int32)), (.int (8204 : Int32)), (.int (8205 : Int32)), (.int (8304 : Int32)), (.int (8591 : Int32)), (.int (11264 : Int32)), (.int (0 : Int32)), (.int (0 : Int32)), (.int (0 : Int32)), (.int (0 : Int32)), (.int (0 : Int32)), (.int (0 : Int32)), (.int (0 : Int32)), (.int (0 : Int32)), (.int (0 : Int32)), (.int (0 : Int32)), (.int (0 : Int32)), (.int (0 : Int32)), (.int (0 : Int32)), (.int (0 : Int32))] (.int (0 : Int32)) := Arv.set Ar20 vq20 S20 M20 Hh20 G20 rfl W20 18 rfl (Nat.le_of_ble_eq_true rfl)
  have K20 : Keep h0 h20 [] := K19.wr W20 (Or.inr sz_o1)
  have N20 := Fr.snoc X20 N19 g_o1
  refine go (fun t k => st20 _ k) ?_
  show Gl _ _ _ _ _ _ _ _ (T20.setTop (mkF m 127 #[.val (.int p1), .val (.int p2), .val (.int p3), .val (.int p4), .unset, .unset, .unset] [(.ref o1)]))
  refine go (fun t k => XS.dup X20.here hx rfl (hb hby at_127) rfl rfl k) ?_
  show Gl _ _ _ _ _ _ _ _ (T20.setTop (mkF m 128 #[.val (.int p1), .val (.int p2), .val (.int p3), .val (.int p4), .unset, .unset, .unset] [(.ref o1), (.ref o1)]))
  refine go (fun t k => XS.bipush X20.here hx rfl (hb hby at_128) k) ?_
  show Gl _ _ _ _ _ _ _ _ (T20.setTop (mkF m 130 #[.val (.int p1), .val (.int p2), .val (.int p3), .val (.int p4), .unset, .unset, .unset] [(.int (19 : Int32)), (.ref o1), (.ref o1)]))
  refine go (fun t k => XS.sipush X20.here hx rfl (hb hby at_130) k) ?_
  show Gl _ _ _ _ _ _ _ _ (T20.setTop (mkF m 133 #[.val (.int p1), .val (.int p2), .val (.int p3), .val (.int p4), .unset, .unset, .unset] [(.int (12271 : Int32)), (.int (19 : Int32)), (.ref o1), (.ref o1)]))
  obtain ⟨cl21, Ar21, vq21, S21, M21, Hh21, G21⟩ := id V20
  obtain ⟨T21, h21, X21, e21, W21, st21⟩ := stI X20 hx hZ e20 Ar21 (j := (19 : Int32)) (inb_of S21 ⟨by decide, by decide⟩) (g := (mkF m 133 #[.val (.int p1), .val (.int p2), .val (.int p3), .val (.int p4), .unset, .unset, .unset] [(.int (12271 : Int32)), (.int (19 : Int32)), (.ref o1), (.ref o1)])) rfl rfl (hb hby at_133)
  have V21 : Arv Z h21 o1 k1 .int (33 : Int32) [(.int (65 : Int32)), (.int (90 : Int32)), (.int (97 : Int32)), (.int (122 : Int32)), (.int (192 : Int32)), (.int (214 : Int32)), (.int (216 : Int32)), (.int (246 : Int32)), (.int (248 : Int32)), (.int (767 : Int32)), (.int (880 : Int32)), (.int (893 : Int32)), (.int (895 : Int32)), (.int (8191 : Int32)), (.int (8204 : Int32)), (.int (8205 : Int32)), (.int (8304 : Int32)), (.int (8591 : Int32)), (.int (11264 : Int32)), (.int (12271 : Int32)), (.int (0 : Int32)), (.int (0 : Int32)), (.int (0 : Int32)), (.int (0 : Int32)), (.int (0 : Int32)), (.int (0 : Int32)), (.int (0 : Int32)), (.int (0 : Int32)), (.int (0 : Int32)), (.int (0 : Int32)), (.int (0 : Int32)), (.int (0 : Int32)), (.int (0 : Int32))] (.int (0 : Int32)) := Arv.set Ar21 vq21 S21 M21 Hh21 G21 rfl W21 19 rfl (Nat.le_of_ble_eq_true rfl)
  have K21 : Keep h0 h21 [] := K20.wr W21 (Or.inr sz_o1)
  have N21 := Fr.snoc X21 N20 g_o1
  refine go (fun t k => st21 _ k) ?_
  show Gl _ _ _ _ _ _ _ _ (T21.setTop (mkF m 134 #[.val (.int p1), .val (.int p2), .val (.int p3), .val (.int p4), .unset, .unset, .unset] [(.ref o1)]))
  refine go (fun t k => XS.dup X21.here hx rfl (hb hby at_134) rfl rfl k) ?_
  show Gl _ _ _ _ _ _ _ _ (T21.setTop (mkF m 135 #[.val (.int p1), .val (.int p2), .val (.int p3), .val (.int p4), .unset, .unset, .unset] [(.ref o1), (.ref o1)]))
  refine go (fun t k => XS.bipush X21.here hx rfl (hb hby at_135) k) ?_
  show Gl _ _ _ _ _ _ _ _ (T21.setTop (mkF m 137 #[.val (.int p1), .val (.int p2), .val (.int p3), .val (.int p4), .unset, .unset, .unset] [(.int (20 : Int32)), (.ref o1), (.ref o1)]))
  refine go (fun t k => XS.sipush X21.here hx rfl (hb hby at_137) k) ?_
  show Gl _ _ _ _ _ _ _ _ (T21.setTop (mkF m 140 #[.val (.int p1), .val (.int p2), .val (.int p3), .val (.int p4), .unset, .unset, .unset] [(.int (12289 : Int32)), (.int (20 : Int32)), (.ref o1), (.ref o1)]))
  obtain ⟨cl22, Ar22, vq22, S22, M22, Hh22, G22⟩ := id V21
  obtain ⟨T22, h22, X22, e22, W22, st22⟩ := stI X21 hx hZ e21 Ar22 (j := (20 : Int32)) (inb_of S22 ⟨by decide, by decide⟩) (g := (mkF m 140 #[.val (.int p1), .val (.int p2), .val (.int p3), .val (.int p4), .unset, .unset, .unset] [(.int (12289 : Int32)), (.int (20 : Int32)), (.ref o1), (.ref o1)])) rfl rfl (hb hby at_140)
  have V22 : Arv Z h22 o1 k1 .int (33 : Int32) [(.int (65 : Int32)), (.int (90 : Int32)), (.int (97 : Int32)), (.int (122 : Int32)), (.int (192 : Int32)), (.int (214 : Int32)), (.int (216 : Int32)), (.int (246 : Int32)), (.int (248 : Int32)), (.int (767 : Int32)), (.int (880 : Int32)), (.int (893 : Int32)), (.int (895 : Int32)), (.int (8191 : Int32)), (.int (8204 : Int32)), (.int (8205 : Int32)), (.int (8304 : Int32)), (.int (8591 : Int32)), (.int (11264 : Int32)), (.int (12271 : Int32)), (.int (12289 : Int32)), (.int (0 : Int32)), (.int (0 : Int32)), (.int (0 : Int32)), (.int (0 : Int32)), (.int (0 : Int32)), (.int (0 : Int32)), (.int (0 : Int32)), (.int (0 : Int32)), (.int (0 : Int32)), (.int (0 : Int32)), (.int (0 : Int32)), (.int (0 : Int32))] (.int (0 : Int32)) := Arv.set Ar22 vq22 S22 M22 Hh22 G22 rfl W22 20 rfl (Nat.le_of_ble_eq_true rfl)
  have K22 : Keep h0 h22 [] := K21.wr W22 (Or.inr sz_o1)
  have N22 := Fr.snoc X22 N21 g_o1
  refine go (fun t k => st22 _ k) ?_
  show Gl _ _ _ _ _ _ _ _ (T22.setTop (mkF m 141 #[.val (.int p1), .val (.int p2), .val (.int p3), .val (.int p4), .unset, .unset, .unset] [(.ref o1)]))
  refine go (fun t k => XS.dup X22.here hx rfl (hb hby at_141) rfl rfl k) ?_
  show Gl _ _ _ _ _ _ _ _ (T22.setTop (mkF m 142 #[.val (.int p1), .val (.int p2), .val (.int p3), .val (.int p4), .unset, .unset, .unset] [(.ref o1), (.ref o1)]))
  refine go (fun t k => XS.bipush X22.here hx rfl (hb hby at_142) k) ?_
  show Gl _ _ _ _ _ _ _ _ (T22.setTop (mkF m 144 #[.val (.int p1), .val (.int p2), .val (.int p3), .val (.int p4), .unset, .unset, .unset] [(.int (21 : Int32)), (.ref o1), (.ref o1)]))
  refine go (fun t k => X22.ldcInt hx hown (mvT hZ (hw _ (List.mem_of_getElem? (i := 1) rfl))) (g := (mkF m 144 #[.val (.int p1), .val (.int p2), .val (.int p3), .val (.int p4), .unset, .unset, .unset] [(.int (21 : Int32)), (.ref o1), (.ref o1)])) rfl (hb hby at_144) _ k) ?_
  show Gl _ _ _ _ _ _ _ _ (T22.setTop (mkF m 146 #[.val (.int p1), .val (.int p2), .val (.int p3), .val (.int p4), .unset, .unset, .unset] [(.int (55295 : Int32)), (.int (21 : Int32)), (.ref o1), (.ref o1)]))
  obtain ⟨cl23, Ar23, vq23, S23, M23, Hh23, G23⟩ := id V22
  obtain ⟨T23, h23, X23, e23, W23, st23⟩ := stI X22 hx hZ e22 Ar23 (j := (21 : Int32)) (inb_of S23 ⟨by decide, by decide⟩) (g := (mkF m 146 #[.val (.int p1), .val (.int p2), .val (.int p3), .val (.int p4), .unset, .unset, .unset] [(.int (55295 : Int32)), (.int (21 : Int32)), (.ref o1), (.ref o1)])) rfl rfl (hb hby at_146)
  have V23 : Arv Z h23 o1 k1 .int (33 : Int32) [(.int (65 : Int32)), (.int (90 : Int32)), (.int (97 : Int32)), (.int (122 : Int32)), (.int (192 : Int32)), (.int (214 : Int32)), (.int (216 : Int32)), (.int (246 : Int32)), (.int (248 : Int32)), (.int (767 : Int32)), (.int (880 : Int32)), (.int (893 : Int32)), (.int (895 : Int32)), (.int (8191 : Int32)), (.int (8204 : Int32)), (.int (8205 : Int32)), (.int (8304 : Int32)), (.int (8591 : Int32)), (.int (11264 : Int32)), (.int (12271 : Int32)), (.int (12289 : Int32)), (.int (55295 : Int32)), (.int (0 : Int32)), (.int (0 : Int32)), (.int (0 : Int32)), (.int (0 : Int32)), (.int (0 : Int32)), (.int (0 : Int32)), (.int (0 : Int32)), (.int (0 : Int32)), (.int (0 : Int32)), (.int (0 : Int32)), (.int (0 : Int32))] (.int (0 : Int32)) := Arv.set Ar23 vq23 S23 M23 Hh23 G23 rfl W23 21 rfl (Nat.le_of_ble_eq_true rfl)
  have K23 : Keep h0 h23 [] := K22.wr W23 (Or.inr sz_o1)
  have N23 := Fr.snoc X23 N22 g_o1
  refine go (fun t k => st23 _ k) ?_
  show Gl _ _ _ _ _ _ _ _ (T23.setTop (mkF m 147 #[.val (.int p1), .val (.int p2), .val (.int p3), .val (.int p4), .unset, .unset, .unset] [(.ref o1)]))
  refine go (fun t k => XS.dup X23.here hx rfl (hb hby at_147) rfl rfl k) ?_
  show Gl _ _ _ _ _ _ _ _ (T23.setTop (mkF m 148 #[.val (.int p1), .val (.int p2), .val (.int p3), .val (.int p4), .unset, .unset, .unset] [(.ref o1), (.ref o1)]))
  refine go (fun t k => XS.bipush X23.here hx rfl (hb hby at_148) k) ?_
  show Gl _ _ _ _ _ _ _ _ (T23.setTop (mkF m 150 #[.val (.int p1), .val (.int p2), .val (.int p3), .val (.int p4), .unset, .unset, .unset] [(.int (22 : Int32)), (.ref o1), (.ref o1)]))
  refine go (fun t k => X23.ldcInt hx hown (mvT hZ (hw _ (List.mem_of_getElem? (i := 2) rfl))) (g := (mkF m 150 #[.val (.int p1), .val (.int p2), .val (.int p3), .val (.int p4), .unset, .unset, .unset] [(.int (22 : Int32)), (.ref o1), (.ref o1)])) rfl (hb hby at_150) _ k) ?_
  show Gl _ _ _ _ _ _ _ _ (T23.setTop (mkF m 152 #[.val (.int p1), .val (.int p2), .val (.int p3), .val (.int p4), .unset, .unset, .unset] [(.int (63744 : Int32)), (.int (22 : Int32)), (.ref o1), (.ref o1)]))
  obtain ⟨cl24, Ar24, vq24, S24, M24, Hh24, G24⟩ := id V23
  obtain ⟨T24, h24, X24, e24, W24, st24⟩ := stI X23 hx hZ e23 Ar24 (j := (22 : Int32)) (inb_of S24 ⟨by decide, by decide⟩) (g := (mkF m 152 #[.val (.int p1), .val (.int p2), .val (.int p3), .val (.int p4), .unset, .unset, .unset] [(.int (63744 : Int32)), (.int (22 : Int32)), (.ref o1), (.ref o1)])) rfl rfl (hb hby at_152)
  have V24 : Arv Z h24 o1 k1 .int (33 : Int32) [(.int (65 : Int32)), (.int (90 : Int32)), (.int (97 : Int32)), (.int (122 : Int32)), (.int (192 : Int32)), (.int (214 : Int32)), (.int (216 : Int32)), (.int (246 : Int32)), (.int (248 : Int32)), (.int (767 : Int32)), (.int (880 : Int32)), (.int (893 : Int32)), (.int (895 : Int32)), (.int (8191 : Int32)), (.int (8204 : Int32)), (.int (8205 : Int32)), (.int (8304 : Int32)), (.int (8591 : Int32)), (.int (11264 : Int32)), (.int (12271 : Int32)), (.int (12289 : Int32)), (.int (55295 : Int32)), (.int (63744 : Int32)), (.int (0 : Int32)), (.int (0 : Int32)), (.int (0 : Int32)), (.int (0 : Int32)), (.int (0 : Int32)), (.int (0 : Int32)), (.int (0 : Int32)), (.int (0 : Int32)), (.int (0 : Int32)), (.int (0 : Int32))] (.int (0 : Int32)) := Arv.set Ar24 vq24 S24 M24 Hh24 G24 rfl W24 22 rfl (Nat.le_of_ble_eq_true rfl)
  have K24 : Keep h0 h24 [] := K23.wr W24 (Or.inr sz_o1)
  have N24 := Fr.snoc X24 N23 g_o1
  refine go (fun t k => st24 _ k) ?_
  show Gl _ _ _ _ _ _ _ _ (T24.setTop (mkF m 153 #[.val (.int p1), .val (.int p2), .val (.int p3), .val (.int p4), .unset, .unset, .unset] [(.ref o1)]))
  refine go (fun t k => XS.dup X24.here hx rfl (hb hby at_153) rfl rfl k) ?_
  show Gl _ _ _ _ _ _ _ _ (T24.setTop (mkF m 154 #[.val (.int p1), .val (.int p2), .val (.int p3), .val (.int p4), .unset, .unset, .unset] [(.ref o1), (.ref o1)]))
  refine go (fun t k => XS.bipush X24.here hx rfl (hb hby at_154) k) ?_
  show Gl _ _ _ _ _ _ _ _ (T24.setTop (mkF m 156 #[.val (.int p1), .val (.int p2), .val (.int p3), .val (.int p4), .unset, .unset, .unset] [(.int (23 : Int32)), (.ref o1), (.ref o1)]))
  refine go (fun t k => X24.ldcInt hx hown (mvT hZ (hw _ (List.mem_of_getElem? (i := 3) rfl))) (g := (mkF m 156 #[.val (.int p1), .val (.int p2), .val (.int p3), .val (.int p4), .unset, .unset, .unset] [(.int (23 : Int32)), (.ref o1), (.ref o1)])) rfl (hb hby at_156) _ k) ?_
  show Gl _ _ _ _ _ _ _ _ (T24.setTop (mkF m 158 #[.val (.int p1), .val (.int p2), .val (.int p3), .val (.int p4), .unset, .unset, .unset] [(.int (64975 : Int32)), (.int (23 : Int32)), (.ref o1), (.ref o1)]))
  obtain ⟨cl25, Ar25, vq25, S25, M25, Hh25, G25⟩ := id V24
  obtain ⟨T25, h25, X25, e25, W25, st25⟩ := stI X24 hx hZ e24 Ar25 (j := (23 : Int32)) (inb_of S25 ⟨by decide, by decide⟩) (g := (mkF m 158 #[.val (.int p1), .val (.int p2), .val (.int p3), .val (.int p4), .unset, .unset, .unset] [(.int (64975 : Int32)), (.int (23 : Int32)), (.ref o1), (.ref o1)])) rfl rfl (hb hby at_158)
  have V25 : Arv Z h25 o1 k1 .int (33 : Int32) [(.int (65 : Int32)), (.int (90 : Int32)), (.int (97 : Int32)), (.int (122 : Int32)), (.int (192 : Int32)), (.int (214 : Int32)), (.int (216 : Int32)), (.int (246 : Int32)), (.int (248 : Int32)), (.int (767 : Int32)), (.int (880 : Int32)), (.int (893 : Int32)), (.int (895 : Int32)), (.int (8191 : Int32)), (.int (8204 : Int32)), (.int (8205 : Int32)), (.int (8304 : Int32)), (.int (8591 : Int32)), (.int (11264 : Int32)), (.int (12271 : Int32)), (.int (12289 : Int32)), (.int (55295 : Int32)), (.int (63744 : Int32)), (.int (64975 : Int32)), (.int (0 : Int32)), (.int (0 : Int32)), (.int (0 : Int32)), (.int (0 : Int32)), (.int (0 : Int32)), (.int (0 : Int32)), (.int (0 : Int32)), (.int (0 : Int32)), (.int (0 : Int32))] (.int (0 : Int32)) := Arv.set Ar25 vq25 S25 M25 Hh25 G25 rfl W25 23 rfl (Nat.le_of_ble_eq_true rfl)
  have K25 : Keep h0 h25 [] := K24.wr W25 (Or.inr sz_o1)
  have N25 := Fr.snoc X25 N24 g_o1
  refine go (fun t k => st25 _ k) ?_
  show Gl _ _ _ _ _ _ _ _ (T25.setTop (mkF m 159 #[.val (.int p1), .val (.int p2), .val (.int p3), .val (.int p4), .unset, .unset, .unset] [(.ref o1)]))
  refine go (fun t k => XS.dup X25.here hx rfl (hb hby at_159) rfl rfl k) ?_
  show Gl _ _ _ _ _ _ _ _ (T25.setTop (mkF m 160 #[.val (.int p1), .val (.int p2), .val (.int p3), .val (.int p4), .unset, .unset, .unset] [(.ref o1), (.ref o1)]))
  refine go (fun t k => XS.bipush X25.here hx rfl (hb hby at_160) k) ?_
  show Gl _ _ _ _ _ _ _ _ (T25.setTop (mkF m 162 #[.val (.int p1), .val (.int p2), .val (.int p3), .val (.int p4), .unset, .unset, .unset] [(.int (24 : Int32)), (.ref o1), (.ref o1)]))
  refine go (fun t k => X25.ldcInt hx hown (mvT hZ (hw _ (List.mem_of_getElem? (i := 4) rfl))) (g := (mkF m 162 #[.val (.int p1), .val (.int p2), .val (.int p3), .val (.int p4), .unset, .unset, .unset] [(.int (24 : Int32)), (.ref o1), (.ref o1)])) rfl (hb hby at_162) _ k) ?_
  show Gl _ _ _ _ _ _ _ _ (T25.setTop (mkF m 164 #[.val (.int p1), .val (.int p2), .val (.int p3), .val (.int p4), .unset, .unset, .unset] [(.int (65008 : Int32)), (.int (24 : Int32)), (.ref o1), (.ref o1)]))
  obtain ⟨cl26, Ar26, vq26, S26, M26, Hh26, G26⟩ := id V25
  obtain ⟨T26, h26, X26, e26, W26, st26⟩ := stI X25 hx hZ e25 Ar26 (j := (24 : Int32)) (inb_of S26 ⟨by decide, by decide⟩) (g := (mkF m 164 #[.val (.int p1), .val (.int p2), .val (.int p3), .val (.int p4), .unset, .unset, .unset] [(.int (65008 : Int32)), (.int (24 : Int32)), (.ref o1), (.ref o1)])) rfl rfl (hb hby at_164)
  have V26 : Arv Z h26 o1 k1 .int (33 : Int32) [(.int (65 : Int32)), (.int (90 : Int32)), (.int (97 : Int32)), (.int (122 : Int32)), (.int (192 : Int32)), (.int (214 : Int32)), (.int (216 : Int32)), (.int (246 : Int32)), (.int (248 : Int32)), (.int (767 : Int32)), (.int (880 : Int32)), (.int (893 : Int32)), (.int (895 : Int32)), (.int (8191 : Int32)), (.int (8204 : Int32)), (.int (8205 : Int32)), (.int (8304 : Int32)), (.int (8591 : Int32)), (.int (11264 : Int32)), (.int (12271 : Int32)), (.int (12289 : Int32)), (.int (55295 : Int32)), (.int (63744 : Int32)), (.int (64975 : Int32)), (.int (65008 : Int32)), (.int (0 : Int32)), (.int (0 : Int32)), (.int (0 : Int32)), (.int (0 : Int32)), (.int (0 : Int32)), (.int (0 : Int32)), (.int (0 : Int32)), (.int (0 : Int32))] (.int (0 : Int32)) := Arv.set Ar26 vq26 S26 M26 Hh26 G26 rfl W26 24 rfl (Nat.le_of_ble_eq_true rfl)
  have K26 : Keep h0 h26 [] := K25.wr W26 (Or.inr sz_o1)
  have N26 := Fr.snoc X26 N25 g_o1
  refine go (fun t k => st26 _ k) ?_
  show Gl _ _ _ _ _ _ _ _ (T26.setTop (mkF m 165 #[.val (.int p1), .val (.int p2), .val (.int p3), .val (.int p4), .unset, .unset, .unset] [(.ref o1)]))
  refine go (fun t k => XS.dup X26.here hx rfl (hb hby at_165) rfl rfl k) ?_
  show Gl _ _ _ _ _ _ _ _ (T26.setTop (mkF m 166 #[.val (.int p1), .val (.int p2), .val (.int p3), .val (.int p4), .unset, .unset, .unset] [(.ref o1), (.ref o1)]))
  refine go (fun t k => XS.bipush X26.here hx rfl (hb hby at_166) k) ?_
  show Gl _ _ _ _ _ _ _ _ (T26.setTop (mkF m 168 #[.val (.int p1), .val (.int p2), .val (.int p3), .val (.int p4), .unset, .unset, .unset] [(.int (25 : Int32)), (.ref o1), (.ref o1)]))
  refine go (fun t k => X26.ldcInt hx hown (mvT hZ (hw _ (List.mem_of_getElem? (i := 5) rfl))) (g := (mkF m 168 #[.val (.int p1), .val (.int p2), .val (.int p3), .val (.int p4), .unset, .unset, .unset] [(.int (25 : Int32)), (.ref o1), (.ref o1)])) rfl (hb hby at_168) _ k) ?_
  show Gl _ _ _ _ _ _ _ _ (T26.setTop (mkF m 170 #[.val (.int p1), .val (.int p2), .val (.int p3), .val (.int p4), .unset, .unset, .unset] [(.int (65533 : Int32)), (.int (25 : Int32)), (.ref o1), (.ref o1)]))
  obtain ⟨cl27, Ar27, vq27, S27, M27, Hh27, G27⟩ := id V26
  obtain ⟨T27, h27, X27, e27, W27, st27⟩ := stI X26 hx hZ e26 Ar27 (j := (25 : Int32)) (inb_of S27 ⟨by decide, by decide⟩) (g := (mkF m 170 #[.val (.int p1), .val (.int p2), .val (.int p3), .val (.int p4), .unset, .unset, .unset] [(.int (65533 : Int32)), (.int (25 : Int32)), (.ref o1), (.ref o1)])) rfl rfl (hb hby at_170)
  have V27 : Arv Z h27 o1 k1 .int (33 : Int32) [(.int (65 : Int32)), (.int (90 : Int32)), (.int (97 : Int32)), (.int (122 : Int32)), (.int (192 : Int32)), (.int (214 : Int32)), (.int (216 : Int32)), (.int (246 : Int32)), (.int (248 : Int32)), (.int (767 : Int32)), (.int (880 : Int32)), (.int (893 : Int32)), (.int (895 : Int32)), (.int (8191 : Int32)), (.int (8204 : Int32)), (.int (8205 : Int32)), (.int (8304 : Int32)), (.int (8591 : Int32)), (.int (11264 : Int32)), (.int (12271 : Int32)), (.int (12289 : Int32)), (.int (55295 : Int32)), (.int (63744 : Int32)), (.int (64975 : Int32)), (.int (65008 : Int32)), (.int (65533 : Int32)), (.int (0 : Int32)), (.int (0 : Int32)), (.int (0 : Int32)), (.int (0 : Int32)), (.int (0 : Int32)), (.int (0 : Int32)), (.int (0 : Int32))] (.int (0 : Int32)) := Arv.set Ar27 vq27 S27 M27 Hh27 G27 rfl W27 25 rfl (Nat.le_of_ble_eq_true rfl)
  have K27 : Keep h0 h27 [] := K26.wr W27 (Or.inr sz_o1)
  have N27 := Fr.snoc X27 N26 g_o1
  refine go (fun t k => st27 _ k) ?_
  show Gl _ _ _ _ _ _ _ _ (T27.setTop (mkF m 171 #[.val (.int p1), .val (.int p2), .val (.int p3), .val (.int p4), .unset, .unset, .unset] [(.ref o1)]))
  refine go (fun t k => XS.dup X27.here hx rfl (hb hby at_171) rfl rfl k) ?_
  show Gl _ _ _ _ _ _ _ _ (T27.setTop (mkF m 172 #[.val (.int p1), .val (.int p2), .val (.int p3), .val (.int p4), .unset, .unset, .unset] [(.ref o1), (.ref o1)]))
  refine go (fun t k => XS.bipush X27.here hx rfl (hb hby at_172) k) ?_
  show Gl _ _ _ _ _ _ _ _ (T27.setTop (mkF m 174 #[.val (.int p1), .val (.int p2), .val (.int p3), .val (.int p4), .unset, .unset, .unset] [(.int (26 : Int32)), (.ref o1), (.ref o1)]))
  refine go (fun t k => X27.ldcInt hx hown (mvT hZ (hw _ (List.mem_of_getElem? (i := 6) rfl))) (g := (mkF m 174 #[.val (.int p1), .val (.int p2), .val (.int p3), .val (.int p4), .unset, .unset, .unset] [(.int (26 : Int32)), (.ref o1), (.ref o1)])) rfl (hb hby at_174) _ k) ?_
  show Gl _ _ _ _ _ _ _ _ (T27.setTop (mkF m 176 #[.val (.int p1), .val (.int p2), .val (.int p3), .val (.int p4), .unset, .unset, .unset] [(.int (65536 : Int32)), (.int (26 : Int32)), (.ref o1), (.ref o1)]))
  obtain ⟨cl28, Ar28, vq28, S28, M28, Hh28, G28⟩ := id V27
  obtain ⟨T28, h28, X28, e28, W28, st28⟩ := stI X27 hx hZ e27 Ar28 (j := (26 : Int32)) (inb_of S28 ⟨by decide, by decide⟩) (g := (mkF m 176 #[.val (.int p1), .val (.int p2), .val (.int p3), .val (.int p4), .unset, .unset, .unset] [(.int (65536 : Int32)), (.int (26 : Int32)), (.ref o1), (.ref o1)])) rfl rfl (hb hby at_176)
  have V28 : Arv Z h28 o1 k1 .int (33 : Int32) [(.int (65 : Int32)), (.int (90 : Int32)), (.int (97 : Int32)), (.int (122 : Int32)), (.int (192 : Int32)), (.int (214 : Int32)), (.int (216 : Int32)), (.int (246 : Int32)), (.int (248 : Int32)), (.int (767 : Int32)), (.int (880 : Int32)), (.int (893 : Int32)), (.int (895 : Int32)), (.int (8191 : Int32)), (.int (8204 : Int32)), (.int (8205 : Int32)), (.int (8304 : Int32)), (.int (8591 : Int32)), (.int (11264 : Int32)), (.int (12271 : Int32)), (.int (12289 : Int32)), (.int (55295 : Int32)), (.int (63744 : Int32)), (.int (64975 : Int32)), (.int (65008 : Int32)), (.int (65533 : Int32)), (.int (65536 : Int32)), (.int (0 : Int32)), (.int (0 : Int32)), (.int (0 : Int32)), (.int (0 : Int32)), (.int (0 : Int32)), (.int (0 : Int32))] (.int (0 : Int32)) := Arv.set Ar28 vq28 S28 M28 Hh28 G28 rfl W28 26 rfl (Nat.le_of_ble_eq_true rfl)
  have K28 : Keep h0 h28 [] := K27.wr W28 (Or.inr sz_o1)
  have N28 := Fr.snoc X28 N27 g_o1
  refine go (fun t k => st28 _ k) ?_
  show Gl _ _ _ _ _ _ _ _ (T28.setTop (mkF m 177 #[.val (.int p1), .val (.int p2), .val (.int p3), .val (.int p4), .unset, .unset, .unset] [(.ref o1)]))
  refine go (fun t k => XS.dup X28.here hx rfl (hb hby at_177) rfl rfl k) ?_
  show Gl _ _ _ _ _ _ _ _ (T28.setTop (mkF m 178 #[.val (.int p1), .val (.int p2), .val (.int p3), .val (.int p4), .unset, .unset, .unset] [(.ref o1), (.ref o1)]))
  refine go (fun t k => XS.bipush X28.here hx rfl (hb hby at_178) k) ?_
  show Gl _ _ _ _ _ _ _ _ (T28.setTop (mkF m 180 #[.val (.int p1), .val (.int p2), .val (.int p3), .val (.int p4), .unset, .unset, .unset] [(.int (27 : Int32)), (.ref o1), (.ref o1)]))
  refine go (fun t k => X28.ldcInt hx hown (mvT hZ (hw _ (List.mem_of_getElem? (i := 7) rfl))) (g := (mkF m 180 #[.val (.int p1), .val (.int p2), .val (.int p3), .val (.int p4), .unset, .unset, .unset] [(.int (27 : Int32)), (.ref o1), (.ref o1)])) rfl (hb hby at_180) _ k) ?_
  show Gl _ _ _ _ _ _ _ _ (T28.setTop (mkF m 182 #[.val (.int p1), .val (.int p2), .val (.int p3), .val (.int p4), .unset, .unset, .unset] [(.int (983039 : Int32)), (.int (27 : Int32)), (.ref o1), (.ref o1)]))
  obtain ⟨cl29, Ar29, vq29, S29, M29, Hh29, G29⟩ := id V28
  obtain ⟨T29, h29, X29, e29, W29, st29⟩ := stI X28 hx hZ e28 Ar29 (j := (27 : Int32)) (inb_of S29 ⟨by decide, by decide⟩) (g := (mkF m 182 #[.val (.int p1), .val (.int p2), .val (.int p3), .val (.int p4), .unset, .unset, .unset] [(.int (983039 : Int32)), (.int (27 : Int32)), (.ref o1), (.ref o1)])) rfl rfl (hb hby at_182)
  have V29 : Arv Z h29 o1 k1 .int (33 : Int32) [(.int (65 : Int32)), (.int (90 : Int32)), (.int (97 : Int32)), (.int (122 : Int32)), (.int (192 : Int32)), (.int (214 : Int32)), (.int (216 : Int32)), (.int (246 : Int32)), (.int (248 : Int32)), (.int (767 : Int32)), (.int (880 : Int32)), (.int (893 : Int32)), (.int (895 : Int32)), (.int (8191 : Int32)), (.int (8204 : Int32)), (.int (8205 : Int32)), (.int (8304 : Int32)), (.int (8591 : Int32)), (.int (11264 : Int32)), (.int (12271 : Int32)), (.int (12289 : Int32)), (.int (55295 : Int32)), (.int (63744 : Int32)), (.int (64975 : Int32)), (.int (65008 : Int32)), (.int (65533 : Int32)), (.int (65536 : Int32)), (.int (983039 : Int32)), (.int (0 : Int32)), (.int (0 : Int32)), (.int (0 : Int32)), (.int (0 : Int32)), (.int (0 : Int32))] (.int (0 : Int32)) := Arv.set Ar29 vq29 S29 M29 Hh29 G29 rfl W29 27 rfl (Nat.le_of_ble_eq_true rfl)
  have K29 : Keep h0 h29 [] := K28.wr W29 (Or.inr sz_o1)
  have N29 := Fr.snoc X29 N28 g_o1
  refine go (fun t k => st29 _ k) ?_
  show Gl _ _ _ _ _ _ _ _ (T29.setTop (mkF m 183 #[.val (.int p1), .val (.int p2), .val (.int p3), .val (.int p4), .unset, .unset, .unset] [(.ref o1)]))
  refine go (fun t k => XS.dup X29.here hx rfl (hb hby at_183) rfl rfl k) ?_
  show Gl _ _ _ _ _ _ _ _ (T29.setTop (mkF m 184 #[.val (.int p1), .val (.int p2), .val (.int p3), .val (.int p4), .unset, .unset, .unset] [(.ref o1), (.ref o1)]))
  refine go (fun t k => XS.bipush X29.here hx rfl (hb hby at_184) k) ?_
  show Gl _ _ _ _ _ _ _ _ (T29.setTop (mkF m 186 #[.val (.int p1), .val (.int p2), .val (.int p3), .val (.int p4), .unset, .unset, .unset] [(.int (28 : Int32)), (.ref o1), (.ref o1)]))
  refine go (fun t k => XS.bipush X29.here hx rfl (hb hby at_186) k) ?_
  show Gl _ _ _ _ _ _ _ _ (T29.setTop (mkF m 188 #[.val (.int p1), .val (.int p2), .val (.int p3), .val (.int p4), .unset, .unset, .unset] [(.int (58 : Int32)), (.int (28 : Int32)), (.ref o1), (.ref o1)]))
  obtain ⟨cl30, Ar30, vq30, S30, M30, Hh30, G30⟩ := id V29
  obtain ⟨T30, h30, X30, e30, W30, st30⟩ := stI X29 hx hZ e29 Ar30 (j := (28 : Int32)) (inb_of S30 ⟨by decide, by decide⟩) (g := (mkF m 188 #[.val (.int p1), .val (.int p2), .val (.int p3), .val (.int p4), .unset, .unset, .unset] [(.int (58 : Int32)), (.int (28 : Int32)), (.ref o1), (.ref o1)])) rfl rfl (hb hby at_188)
  have V30 : Arv Z h30 o1 k1 .int (33 : Int32) [(.int (65 : Int32)), (.int (90 : Int32)), (.int (97 : Int32)), (.int (122 : Int32)), (.int (192 : Int32)), (.int (214 : Int32)), (.int (216 : Int32)), (.int (246 : Int32)), (.int (248 : Int32)), (.int (767 : Int32)), (.int (880 : Int32)), (.int (893 : Int32)), (.int (895 : Int32)), (.int (8191 : Int32)), (.int (8204 : Int32)), (.int (8205 : Int32)), (.int (8304 : Int32)), (.int (8591 : Int32)), (.int (11264 : Int32)), (.int (12271 : Int32)), (.int (12289 : Int32)), (.int (55295 : Int32)), (.int (63744 : Int32)), (.int (64975 : Int32)), (.int (65008 : Int32)), (.int (65533 : Int32)), (.int (65536 : Int32)), (.int (983039 : Int32)), (.int (58 : Int32)), (.int (0 : Int32)), (.int (0 : Int32)), (.int (0 : Int32)), (.int (0 : Int32))] (.int (0 : Int32)) := Arv.set Ar30 vq30 S30 M30 Hh30 G30 rfl W30 28 rfl (Nat.le_of_ble_eq_true rfl)
  have K30 : Keep h0 h30 [] := K29.wr W30 (Or.inr sz_o1)
  have N30 := Fr.snoc X30 N29 g_o1
  refine go (fun t k => st30 _ k) ?_
  show Gl _ _ _ _ _ _ _ _ (T30.setTop (mkF m 189 #[.val (.int p1), .val (.int p2), .val (.int p3), .val (.int p4), .unset, .unset, .unset] [(.ref o1)]))
  refine go (fun t k => XS.dup X30.here hx rfl (hb hby at_189) rfl rfl k) ?_
  show Gl _ _ _ _ _ _ _ _ (T30.setTop (mkF m 190 #[.val (.int p1), .val (.int p2), .val (.int p3), .val (.int p4), .unset, .unset, .unset] [(.ref o1), (.ref o1)]))
  refine go (fun t k => XS.bipush X30.here hx rfl (hb hby at_190) k) ?_
  show Gl _ _ _ _ _ _ _ _ (T30.setTop (mkF m 192 #[.val (.int p1), .val (.int p2), .val (.int p3), .val (.int p4), .unset, .unset, .unset] [(.int (29 : Int32)), (.ref o1), (.ref o1)]))
  refine go (fun t k => XS.bipush X30.here hx rfl (hb hby at_192) k) ?_
  show Gl _ _ _ _ _ _ _ _ (T30.setTop (mkF m 194 #[.val (.int p1), .val (.int p2), .val (.int p3), .val (.int p4), .unset, .unset, .unset] [(.int (95 : Int32)), (.int (29 : Int32)), (.ref o1), (.ref o1)]))
  obtain ⟨cl31, Ar31, vq31, S31, M31, Hh31, G31⟩ := id V30
  obtain ⟨T31, h31, X31, e31, W31, st31⟩ := stI X30 hx hZ e30 Ar31 (j := (29 : Int32)) (inb_of S31 ⟨by decide, by decide⟩) (g := (mkF m 194 #[.val (.int p1), .val (.int p2), .val (.int p3), .val (.int p4), .unset, .unset, .unset] [(.int (95 : Int32)), (.int (29 : Int32)), (.ref o1), (.ref o1)])) rfl rfl (hb hby at_194)
  have V31 : Arv Z h31 o1 k1 .int (33 : Int32) [(.int (65 : Int32)), (.int (90 : Int32)), (.int (97 : Int32)), (.int (122 : Int32)), (.int (192 : Int32)), (.int (214 : Int32)), (.int (216 : Int32)), (.int (246 : Int32)), (.int (248 : Int32)), (.int (767 : Int32)), (.int (880 : Int32)), (.int (893 : Int32)), (.int (895 : Int32)), (.int (8191 : Int32)), (.int (8204 : Int32)), (.int (8205 : Int32)), (.int (8304 : Int32)), (.int (8591 : Int32)), (.int (11264 : Int32)), (.int (12271 : Int32)), (.int (12289 : Int32)), (.int (55295 : Int32)), (.int (63744 : Int32)), (.int (64975 : Int32)), (.int (65008 : Int32)), (.int (65533 : Int32)), (.int (65536 : Int32)), (.int (983039 : Int32)), (.int (58 : Int32)), (.int (95 : Int32)), (.int (0 : Int32)), (.int (0 : Int32)), (.int (0 : Int32))] (.int (0 : Int32)) := Arv.set Ar31 vq31 S31 M31 Hh31 G31 rfl W31 29 rfl (Nat.le_of_ble_eq_true rfl)
  have K31 : Keep h0 h31 [] := K30.wr W31 (Or.inr sz_o1)
  have N31 := Fr.snoc X31 N30 g_o1
  refine go (fun t k => st31 _ k) ?_
  show Gl _ _ _ _ _ _ _ _ (T31.setTop (mkF m 195 #[.val (.int p1), .val (.int p2), .val (.int p3), .val (.int p4), .unset, .unset, .unset] [(.ref o1)]))
  refine go (fun t k => XS.dup X31.here hx rfl (hb hby at_195) rfl rfl k) ?_
  show Gl _ _ _ _ _ _ _ _ (T31.setTop (mkF m 196 #[.val (.int p1), .val (.int p2), .val (.int p3), .val (.int p4), .unset, .unset, .unset] [(.ref o1), (.ref o1)]))
  refine go (fun t k => XS.bipush X31.here hx rfl (hb hby at_196) k) ?_
  show Gl _ _ _ _ _ _ _ _ (T31.setTop (mkF m 198 #[.val (.int p1), .val (.int p2), .val (.int p3), .val (.int p4), .unset, .unset, .unset] [(.int (30 : Int32)), (.ref o1), (.ref o1)]))
  refine go (fun t k => XS.iconst X31.here hx rfl (hb hby at_198) k) ?_
  show Gl _ _ _ _ _ _ _ _ (T31.setTop (mkF m 199 #[.val (.int p1), .val (.int p2), .val (.int p3), .val (.int p4), .unset, .unset, .unset] [(.int (0 : Int32)), (.int (30 : Int32)), (.ref o1), (.ref o1)]))
  obtain ⟨cl32, Ar32, vq32, S32, M32, Hh32, G32⟩ := id V31
  obtain ⟨T32, h32, X32, e32, W32, st32⟩ := stI X31 hx hZ e31 Ar32 (j := (30 : Int32)) (inb_of S32 ⟨by decide, by decide⟩) (g := (mkF m 199 #[.val (.int p1), .val (.int p2), .val (.int p3), .val (.int p4), .unset, .unset, .unset] [(.int (0 : Int32)), (.int (30 : Int32)), (.ref o1), (.ref o1)])) rfl rfl (hb hby at_199)
  have V32 : Arv Z h32 o1 k1 .int (33 : Int32) [(.int (65 : Int32)), (.int (90 : Int32)), (.int (97 : Int32)), (.int (122 : Int32)), (.int (192 : Int32)), (.int (214 : Int32)), (.int (216 : Int32)), (.int (246 : Int32)), (.int (248 : Int32)), (.int (767 : Int32)), (.int (880 : Int32)), (.int (893 : Int32)), (.int (895 : Int32)), (.int (8191 : Int32)), (.int (8204 : Int32)), (.int (8205 : Int32)), (.int (8304 : Int32)), (.int (8591 : Int32)), (.int (11264 : Int32)), (.int (12271 : Int32)), (.int (12289 : Int32)), (.int (55295 : Int32)), (.int (63744 : Int32)), (.int (64975 : Int32)), (.int (65008 : Int32)), (.int (65533 : Int32)), (.int (65536 : Int32)), (.int (983039 : Int32)), (.int (58 : Int32)), (.int (95 : Int32)), (.int (0 : Int32)), (.int (0 : Int32)), (.int (0 : Int32))] (.int (0 : Int32)) := Arv.set Ar32 vq32 S32 M32 Hh32 G32 rfl W32 30 rfl (Nat.le_of_ble_eq_true rfl)
  have K32 : Keep h0 h32 [] := K31.wr W32 (Or.inr sz_o1)
  have N32 := Fr.snoc X32 N31 g_o1
  refine go (fun t k => st32 _ k) ?_
  show Gl _ _ _ _ _ _ _ _ (T32.setTop (mkF m 200 #[.val (.int p1), .val (.int p2), .val (.int p3), .val (.int p4), .unset, .unset, .unset] [(.ref o1)]))
  refine go (fun t k => XS.dup X32.here hx rfl (hb hby at_200) rfl rfl k) ?_
  show Gl _ _ _ _ _ _ _ _ (T32.setTop (mkF m 201 #[.val (.int p1), .val (.int p2), .val (.int p3), .val (.int p4), .unset, .unset, .unset] [(.ref o1), (.ref o1)]))
  refine go (fun t k => XS.bipush X32.here hx rfl (hb hby at_201) k) ?_
  show Gl _ _ _ _ _ _ _ _ (T32.setTop (mkF m 203 #[.val (.int p1), .val (.int p2), .val (.int p3), .val (.int p4), .unset, .unset, .unset] [(.int (31 : Int32)), (.ref o1), (.ref o1)]))
  refine go (fun t k => X32.ldcInt hx hown (mvT hZ (hw _ (List.mem_of_getElem? (i := 8) rfl))) (g := (mkF m 203 #[.val (.int p1), .val (.int p2), .val (.int p3), .val (.int p4), .unset, .unset, .unset] [(.int (31 : Int32)), (.ref o1), (.ref o1)])) rfl (hb hby at_203) _ k) ?_
  show Gl _ _ _ _ _ _ _ _ (T32.setTop (mkF m 205 #[.val (.int p1), .val (.int p2), .val (.int p3), .val (.int p4), .unset, .unset, .unset] [(.int (-2147483648 : Int32)), (.int (31 : Int32)), (.ref o1), (.ref o1)]))
  obtain ⟨cl33, Ar33, vq33, S33, M33, Hh33, G33⟩ := id V32
  obtain ⟨T33, h33, X33, e33, W33, st33⟩ := stI X32 hx hZ e32 Ar33 (j := (31 : Int32)) (inb_of S33 ⟨by decide, by decide⟩) (g := (mkF m 205 #[.val (.int p1), .val (.int p2), .val (.int p3), .val (.int p4), .unset, .unset, .unset] [(.int (-2147483648 : Int32)), (.int (31 : Int32)), (.ref o1), (.ref o1)])) rfl rfl (hb hby at_205)
  have V33 : Arv Z h33 o1 k1 .int (33 : Int32) [(.int (65 : Int32)), (.int (90 : Int32)), (.int (97 : Int32)), (.int (122 : Int32)), (.int (192 : Int32)), (.int (214 : Int32)), (.int (216 : Int32)), (.int (246 : Int32)), (.int (248 : Int32)), (.int (767 : Int32)), (.int (880 : Int32)), (.int (893 : Int32)), (.int (895 : Int32)), (.int (8191 : Int32)), (.int (8204 : Int32)), (.int (8205 : Int32)), (.int (8304 : Int32)), (.int (8591 : Int32)), (.int (11264 : Int32)), (.int (12271 : Int32)), (.int (12289 : Int32)), (.int (55295 : Int32)), (.int (63744 : Int32)), (.int (64975 : Int32)), (.int (65008 : Int32)), (.int (65533 : Int32)), (.int (65536 : Int32)), (.int (983039 : Int32)), (.int (58 : Int32)), (.int (95 : Int32)), (.int (0 : Int32)), (.int (-2147483648 : Int32)), (.int (0 : Int32))] (.int (0 : Int32)) := Arv.set Ar33 vq33 S33 M33 Hh33 G33 rfl W33 31 rfl (Nat.le_of_ble_eq_true rfl)
  have K33 : Keep h0 h33 [] := K32.wr W33 (Or.inr sz_o1)
  have N33 := Fr.snoc X33 N32 g_o1
  refine go (fun t k => st33 _ k) ?_
  show Gl _ _ _ _ _ _ _ _ (T33.setTop (mkF m 206 #[.val (.int p1), .val (.int p2), .val (.int p3), .val (.int p4), .unset, .unset, .unset] [(.ref o1)]))
  refine go (fun t k => XS.dup X33.here hx rfl (hb hby at_206) rfl rfl k) ?_
  show Gl _ _ _ _ _ _ _ _ (T33.setTop (mkF m 207 #[.val (.int p1), .val (.int p2), .val (.int p3), .val (.int p4), .unset, .unset, .unset] [(.ref o1), (.ref o1)]))
  refine go (fun t k => XS.bipush X33.here hx rfl (hb hby at_207) k) ?_
  show Gl _ _ _ _ _ _ _ _ (T33.setTop (mkF m 209 #[.val (.int p1), .val (.int p2), .val (.int p3), .val (.int p4), .unset, .unset, .unset] [(.int (32 : Int32)), (.ref o1), (.ref o1)]))
  refine go (fun t k => X33.ldcInt hx hown (mvT hZ (hw _ (List.mem_of_getElem? (i := 9) rfl))) (g := (mkF m 209 #[.val (.int p1), .val (.int p2), .val (.int p3), .val (.int p4), .unset, .unset, .unset] [(.int (32 : Int32)), (.ref o1), (.ref o1)])) rfl (hb hby at_209) _ k) ?_
  show Gl _ _ _ _ _ _ _ _ (T33.setTop (mkF m 211 #[.val (.int p1), .val (.int p2), .val (.int p3), .val (.int p4), .unset, .unset, .unset] [(.int (2147483647 : Int32)), (.int (32 : Int32)), (.ref o1), (.ref o1)]))
  obtain ⟨cl34, Ar34, vq34, S34, M34, Hh34, G34⟩ := id V33
  obtain ⟨T34, h34, X34, e34, W34, st34⟩ := stI X33 hx hZ e33 Ar34 (j := (32 : Int32)) (inb_of S34 ⟨by decide, by decide⟩) (g := (mkF m 211 #[.val (.int p1), .val (.int p2), .val (.int p3), .val (.int p4), .unset, .unset, .unset] [(.int (2147483647 : Int32)), (.int (32 : Int32)), (.ref o1), (.ref o1)])) rfl rfl (hb hby at_211)
  have V34 : Arv Z h34 o1 k1 .int (33 : Int32) [(.int (65 : Int32)), (.int (90 : Int32)), (.int (97 : Int32)), (.int (122 : Int32)), (.int (192 : Int32)), (.int (214 : Int32)), (.int (216 : Int32)), (.int (246 : Int32)), (.int (248 : Int32)), (.int (767 : Int32)), (.int (880 : Int32)), (.int (893 : Int32)), (.int (895 : Int32)), (.int (8191 : Int32)), (.int (8204 : Int32)), (.int (8205 : Int32)), (.int (8304 : Int32)), (.int (8591 : Int32)), (.int (11264 : Int32)), (.int (12271 : Int32)), (.int (12289 : Int32)), (.int (55295 : Int32)), (.int (63744 : Int32)), (.int (64975 : Int32)), (.int (65008 : Int32)), (.int (65533 : Int32)), (.int (65536 : Int32)), (.int (983039 : Int32)), (.int (58 : Int32)), (.int (95 : Int32)), (.int (0 : Int32)), (.int (-2147483648 : Int32)), (.int (2147483647 : Int32))] (.int (0 : Int32)) := Arv.set Ar34 vq34 S34 M34 Hh34 G34 rfl W34 32 rfl (Nat.le_of_ble_eq_true rfl)
  have K34 : Keep h0 h34 [] := K33.wr W34 (Or.inr sz_o1)
  have N34 := Fr.snoc X34 N33 g_o1
  refine go (fun t k => st34 _ k) ?_
  show Gl _ _ _ _ _ _ _ _ (T34.setTop (mkF m 212 #[.val (.int p1), .val (.int p2), .val (.int p3), .val (.int p4), .unset, .unset, .unset] [(.ref o1)]))
  refine go (fun t k => XS.astore X34.here hx rfl (hb hby at_212) rfl rfl (l' := #[.val (.int p1), .val (.int p2), .val (.int p3), .val (.int p4), .val (.ref o1), .unset, .unset]) rfl k) ?_
  show Gl _ _ _ _ _ _ _ _ (T34.setTop (mkF m 214 #[.val (.int p1), .val (.int p2), .val (.int p3), .val (.int p4), .val (.ref o1), .unset, .unset] []))
  refine go (fun t k => XS.iloadN X34.here hx rfl (hb hby at_214) rfl  k) ?_
  show Gl _ _ _ _ _ _ _ _ (T34.setTop (mkF m 215 #[.val (.int p1), .val (.int p2), .val (.int p3), .val (.int p4), .val (.ref o1), .unset, .unset] [(.int p4)]))
  refine go (fun t k => XS.iconst X34.here hx rfl (hb hby at_215) k) ?_
  show Gl _ _ _ _ _ _ _ _ (T34.setTop (mkF m 216 #[.val (.int p1), .val (.int p2), .val (.int p3), .val (.int p4), .val (.ref o1), .unset, .unset] [(.int (1 : Int32)), (.int p4)]))
  refine go (fun t k => XS.iand X34.here hx rfl (hb hby at_216) rfl k) ?_
  show Gl _ _ _ _ _ _ _ _ (T34.setTop (mkF m 217 #[.val (.int p1), .val (.int p2), .val (.int p3), .val (.int p4), .val (.ref o1), .unset, .unset] [(.int (p4 &&& (1 : Int32)))]))
  have J250 : ∀ (v5_250 : Int32) (v6_250 : Slot) (TJ250 : State) (lJ250 : List Loc) (XJ250 : Stand p l e room_1 s m #[(.int p1), (.int p2), (.int p3), (.int p4)] below meth c TJ250 lJ250 1 33) (eJ250 : TJ250.heap = h34) (NJ250 : Fr n0 lJ250), Gl p e below s n0 room_1.cells room_1.slots (Kv (some (.int (b0_250 v5_250))) (fun _ => True)) (TJ250.setTop (mkF m 250 #[.val (.int p1), .val (.int p2), .val (.int p3), .val (.int p4), .val (.ref o1), .val (.int v5_250), v6_250] [])) := by
    intro v5_250 v6_250 TJ250 lJ250 XJ250 eJ250 NJ250
    show Gl _ _ _ _ _ _ _ (Kv (some (.int (if (b2_0 v5_250) = (0 : Int32) then (b0_268 v5_250 (1 : Int32)) else (b0_268 v5_250 (0 : Int32))))) _) _
    refine go (fun t k => XS.iload XJ250.here hx rfl (hb hby at_250) rfl  k) ?_
    show Gl _ _ _ _ _ _ _ _ (TJ250.setTop (mkF m 252 #[.val (.int p1), .val (.int p2), .val (.int p3), .val (.int p4), .val (.ref o1), .val (.int v5_250), v6_250] [(.int v5_250)]))
    obtain ⟨_, _, ⟨T36, L36, k36, n36⟩, -, X36, ⟨Lc36, hQ36, l36, y36, z36⟩, st36⟩ := Jvm.LawKit.callS XJ250 hx (y := (⟨"com/example/tercet/tercet/XmlNameCharacters", "isNameLetter", "(I)Z"⟩ : MethodName)) hown (mvT hZ (hw _ (List.mem_of_getElem? (i := 10) rfl))) (mvT hZ (hw _ (List.mem_of_getElem? (i := 11) rfl))) (mvT hZ (hw _ (List.mem_of_getElem? (i := 12) rfl))) (mvT hZ (hw _ (List.mem_of_getElem? (i := 13) rfl))) (by decide) (backOf (W := 0) (rm1 l Z a0 hw [] v5_250 h34 n0 (Nat.le_trans (Nat.le_trans (Nat.le_trans (Nat.le_trans (Nat.le_trans (Nat.le_trans (Nat.le_trans (Nat.le_trans (Nat.le_trans (Nat.le_trans (Nat.le_trans (Nat.le_trans (Nat.le_trans (Nat.le_trans (Nat.le_trans (Nat.le_trans (Nat.le_trans (Nat.le_trans (Nat.le_trans (Nat.le_trans (Nat.le_trans (Nat.le_trans (Nat.le_trans (Nat.le_trans (Nat.le_trans (Nat.le_trans (Nat.le_trans (Nat.le_trans (Nat.le_trans (Nat.le_trans (Nat.le_trans (Nat.le_trans (Nat.le_trans (Nat.le_trans Z0 E1.1) (Keep.of_wr W2).1) (Keep.of_wr W3).1) (Keep.of_wr W4).1) (Keep.of_wr W5).1) (Keep.of_wr W6).1) (Keep.of_wr W7).1) (Keep.of_wr W8).1) (Keep.of_wr W9).1) (Keep.of_wr W10).1) (Keep.of_wr W11).1) (Keep.of_wr W12).1) (Keep.of_wr W13).1) (Keep.of_wr W14).1) (Keep.of_wr W15).1) (Keep.of_wr W16).1) (Keep.of_wr W17).1) (Keep.of_wr W18).1) (Keep.of_wr W19).1) (Keep.of_wr W20).1) (Keep.of_wr W21).1) (Keep.of_wr W22).1) (Keep.of_wr W23).1) (Keep.of_wr W24).1) (Keep.of_wr W25).1) (Keep.of_wr W26).1) (Keep.of_wr W27).1) (Keep.of_wr W28).1) (Keep.of_wr W29).1) (Keep.of_wr W30).1) (Keep.of_wr W31).1) (Keep.of_wr W32).1) (Keep.of_wr W33).1) (Keep.of_wr W34).1) ) hZ (hw _ (List.mem_of_getElem? (i := 13) rfl)) (hw _ (List.mem_of_getElem? (i := 12) rfl)) (by decide) (by decide)) (g := (mkF m 252 #[.val (.int p1), .val (.int p2), .val (.int p3), .val (.int p4), .val (.ref o1), .val (.int v5_250), v6_250] [(.int v5_250)])) rfl (by rw [hml]; rfl) (argsL := [(.int v5_250)]) (rest := []) (lenOf pd_0 rfl) rfl (by show 2 * 0 + _ ≤ _; exact Nat.le_of_eq rfl) (hb hby at_252) (fun _ _ => ⟨rfl, eJ250, (by decide : 1 + 0 ≤ _), (by decide : 33 + 0 ≤ _)⟩)
    dsimp only [Pt.U, Pt.locs, Pt.cells, Pt.slots] at X36 l36 y36 z36 st36 hQ36
    subst l36 y36 z36
    have X36 : Stand p l e room_1 s m #[(.int p1), (.int p2), (.int p3), (.int p4)] below meth c T36 _ 1 33 := X36
    obtain ⟨⟨rfl, e36'⟩, N36q⟩ := hQ36
    have e36 : T36.heap = h34 := e36'
    have N36 := Fr.app NJ250 N36q
    refine go (fun t k => st36 _ k) ?_
    show Gl _ _ _ _ _ _ _ _ (T36.setTop (mkF m 255 #[.val (.int p1), .val (.int p2), .val (.int p3), .val (.int p4), .val (.ref o1), .val (.int v5_250), v6_250] [(.int (b1_0 v5_250))]))
    refine go (fun t k => XS.iload X36.here hx rfl (hb hby at_255) rfl  k) ?_
    show Gl _ _ _ _ _ _ _ _ (T36.setTop (mkF m 257 #[.val (.int p1), .val (.int p2), .val (.int p3), .val (.int p4), .val (.ref o1), .val (.int v5_250), v6_250] [(.int v5_250), (.int (b1_0 v5_250))]))
    obtain ⟨_, _, ⟨T37, L37, k37, n37⟩, -, X37, ⟨Lc37, hQ37, l37, y37, z37⟩, st37⟩ := Jvm.LawKit.callS X36 hx (y := (⟨"com/example/tercet/tercet/XmlNameCharactersIsNameLetterPinLaw", "excluded", "(I)Z"⟩ : MethodName)) hown (mvT hZ (hw _ (List.mem_of_getElem? (i := 17) rfl))) (mvT hZ (hw _ (List.mem_of_getElem? (i := 18) rfl))) (mvT hZ (hw _ (List.mem_of_getElem? (i := 19) rfl))) (mvT hZ (hw _ (List.mem_of_getElem? (i := 20) rfl))) (by decide) (backOf (W := 1) (rm2 l Z a0 hw [] v5_250 h34 n0 (Nat.le_trans (Nat.le_trans (Nat.le_trans (Nat.le_trans (Nat.le_trans (Nat.le_trans (Nat.le_trans (Nat.le_trans (Nat.le_trans (Nat.le_trans (Nat.le_trans (Nat.le_trans (Nat.le_trans (Nat.le_trans (Nat.le_trans (Nat.le_trans (Nat.le_trans (Nat.le_trans (Nat.le_trans (Nat.le_trans (Nat.le_trans (Nat.le_trans (Nat.le_trans (Nat.le_trans (Nat.le_trans (Nat.le_trans (Nat.le_trans (Nat.le_trans (Nat.le_trans (Nat.le_trans (Nat.le_trans (Nat.le_trans (Nat.le_trans (Nat.le_trans Z0 E1.1) (Keep.of_wr W2).1) (Keep.of_wr W3).1) (Keep.of_wr W4).1) (Keep.of_wr W5).1) (Keep.of_wr W6).1) (Keep.of_wr W7).1) (Keep.of_wr W8).1) (Keep.of_wr W9).1) (Keep.of_wr W10).1) (Keep.of_wr W11).1) (Keep.of_wr W12).1) (Keep.of_wr W13).1) (Keep.of_wr W14).1) (Keep.of_wr W15).1) (Keep.of_wr W16).1) (Keep.of_wr W17).1) (Keep.of_wr W18).1) (Keep.of_wr W19).1) (Keep.of_wr W20).1) (Keep.of_wr W21).1) (Keep.of_wr W22).1) (Keep.of_wr W23).1) (Keep.of_wr W24).1) (Keep.of_wr W25).1) (Keep.of_wr W26).1) (Keep.of_wr W27).1) (Keep.of_wr W28).1) (Keep.of_wr W29).1) (Keep.of_wr W30).1) (Keep.of_wr W31).1) (Keep.of_wr W32).1) (Keep.of_wr W33).1) (Keep.of_wr W34).1) ) hZ (hw _ (List.mem_of_getElem? (i := 20) rfl)) (hw _ (List.mem_of_getElem? (i := 19) rfl)) (by decide) (by decide)) (g := (mkF m 257 #[.val (.int p1), .val (.int p2), .val (.int p3), .val (.int p4), .val (.ref o1), .val (.int v5_250), v6_250] [(.int v5_250), (.int (b1_0 v5_250))])) rfl (by rw [hml]; rfl) (argsL := [(.int v5_250)]) (rest := [(.int (b1_0 v5_250))]) (lenOf pd_0 rfl) rfl (by show 2 * 0 + _ ≤ _; exact Nat.le_of_eq rfl) (hb hby at_257) (fun _ _ => ⟨rfl, e36, (by decide : 1 + 0 ≤ _), (by decide : 33 + 0 ≤ _)⟩)
    dsimp only [Pt.U, Pt.locs, Pt.cells, Pt.slots] at X37 l37 y37 z37 st37 hQ37
    subst l37 y37 z37
    have X37 : Stand p l e room_1 s m #[(.int p1), (.int p2), (.int p3), (.int p4)] below meth c T37 _ 1 33 := X37
    obtain ⟨⟨rfl, e37'⟩, N37q⟩ := hQ37
    have e37 : T37.heap = h34 := e37'
    have N37 := Fr.app N36 N37q
    refine go (fun t k => st37 _ k) ?_
    show Gl _ _ _ _ _ _ _ _ (T37.setTop (mkF m 260 #[.val (.int p1), .val (.int p2), .val (.int p3), .val (.int p4), .val (.ref o1), .val (.int v5_250), v6_250] [(.int (b2_0 v5_250)), (.int (b1_0 v5_250))]))
    have J268 : ∀ (s1_268 : Int32) (TJ268 : State) (lJ268 : List Loc) (XJ268 : Stand p l e room_1 s m #[(.int p1), (.int p2), (.int p3), (.int p4)] below meth c TJ268 lJ268 1 33) (eJ268 : TJ268.heap = h34) (NJ268 : Fr n0 lJ268), Gl p e below s n0 room_1.cells room_1.slots (Kv (some (.int (b0_268 v5_250 s1_268))) (fun _ => True)) (TJ268.setTop (mkF m 268 #[.val (.int p1), .val (.int p2), .val (.int p3), .val (.int p4), .val (.ref o1), .val (.int v5_250), v6_250] [(.int s1_268), (.int (b1_0 v5_250))])) := by
      intro s1_268 TJ268 lJ268 XJ268 eJ268 NJ268
      show Gl _ _ _ _ _ _ _ (Kv (some (.int (if (b1_0 v5_250) = s1_268 then (b0_276 (1 : Int32)) else (b0_276 (0 : Int32))))) _) _
      have J276 : ∀ (s0_276 : Int32) (TJ276 : State) (lJ276 : List Loc) (XJ276 : Stand p l e room_1 s m #[(.int p1), (.int p2), (.int p3), (.int p4)] below meth c TJ276 lJ276 1 33) (eJ276 : TJ276.heap = h34) (NJ276 : Fr n0 lJ276), Gl p e below s n0 room_1.cells room_1.slots (Kv (some (.int (b0_276 s0_276))) (fun _ => True)) (TJ276.setTop (mkF m 276 #[.val (.int p1), .val (.int p2), .val (.int p3), .val (.int p4), .val (.ref o1), .val (.int v5_250), v6_250] [(.int s0_276)])) := by
        intro s0_276 TJ276 lJ276 XJ276 eJ276 NJ276
        show Gl _ _ _ _ _ _ _ (Kv (some (.int (nar .boolean s0_276))) _) _
        exact endN XJ276 hx Bd (t := .boolean) (by simp) (hb hby at_276) ⟨rfl, trivial⟩ NJ276 (by decide) (by decide)
      refine gI (c := (b1_0 v5_250) = s1_268) (fun hc268 => ?_) (fun hc268 => ?_)
      · refine go (fun t k => XS.icmpNo XJ268.here hx rfl (hb hby at_268) rfl (teq hc268).2 k) ?_
        show Gl _ _ _ _ _ _ _ _ (TJ268.setTop (mkF m 271 #[.val (.int p1), .val (.int p2), .val (.int p3), .val (.int p4), .val (.ref o1), .val (.int v5_250), v6_250] []))
        refine go (fun t k => XS.iconst XJ268.here hx rfl (hb hby at_271) k) ?_
        show Gl _ _ _ _ _ _ _ _ (TJ268.setTop (mkF m 272 #[.val (.int p1), .val (.int p2), .val (.int p3), .val (.int p4), .val (.ref o1), .val (.int v5_250), v6_250] [(.int (1 : Int32))]))
        refine go (fun t k => XS.goto XJ268.here hx rfl (pc0 := 272) (pc' := 276) rfl (hb hby at_272) (by decide) (by decide) k) ?_
        show Gl _ _ _ _ _ _ _ _ (TJ268.setTop (mkF m 276 #[.val (.int p1), .val (.int p2), .val (.int p3), .val (.int p4), .val (.ref o1), .val (.int v5_250), v6_250] [(.int (1 : Int32))]))
        exact J276 (1 : Int32) TJ268 _ XJ268 eJ268 NJ268
      · refine go (fun t k => XS.icmpYes XJ268.here hx rfl (pc0 := 268) (pc' := 275) rfl (hb hby at_268) rfl (feq hc268).2 (by decide) (by decide) k) ?_
        show Gl _ _ _ _ _ _ _ _ (TJ268.setTop (mkF m 275 #[.val (.int p1), .val (.int p2), .val (.int p3), .val (.int p4), .val (.ref o1), .val (.int v5_250), v6_250] []))
        refine go (fun t k => XS.iconst XJ268.here hx rfl (hb hby at_275) k) ?_
        show Gl _ _ _ _ _ _ _ _ (TJ268.setTop (mkF m 276 #[.val (.int p1), .val (.int p2), .val (.int p3), .val (.int p4), .val (.ref o1), .val (.int v5_250), v6_250] [(.int (0 : Int32))]))
        exact J276 (0 : Int32) TJ268 _ XJ268 eJ268 NJ268
    refine gI (c := (b2_0 v5_250) = (0 : Int32)) (fun hc260 => ?_) (fun hc260 => ?_)
    · refine go (fun t k => XS.ifNo X37.here hx rfl (hb hby at_260) rfl ((if0 _ _).trans (teq hc260).2) k) ?_
      show Gl _ _ _ _ _ _ _ _ (T37.setTop (mkF m 263 #[.val (.int p1), .val (.int p2), .val (.int p3), .val (.int p4), .val (.ref o1), .val (.int v5_250), v6_250] [(.int (b1_0 v5_250))]))
      refine go (fun t k => XS.iconst X37.here hx rfl (hb hby at_263) k) ?_
      show Gl _ _ _ _ _ _ _ _ (T37.setTop (mkF m 264 #[.val (.int p1), .val (.int p2), .val (.int p3), .val (.int p4), .val (.ref o1), .val (.int v5_250), v6_250] [(.int (1 : Int32)), (.int (b1_0 v5_250))]))
      refine go (fun t k => XS.goto X37.here hx rfl (pc0 := 264) (pc' := 268) rfl (hb hby at_264) (by decide) (by decide) k) ?_
      show Gl _ _ _ _ _ _ _ _ (T37.setTop (mkF m 268 #[.val (.int p1), .val (.int p2), .val (.int p3), .val (.int p4), .val (.ref o1), .val (.int v5_250), v6_250] [(.int (1 : Int32)), (.int (b1_0 v5_250))]))
      exact J268 (1 : Int32) T37 _ X37 e37 N37
    · refine go (fun t k => XS.ifYes X37.here hx rfl (pc0 := 260) (pc' := 267) rfl (hb hby at_260) rfl ((if0 _ _).trans (feq hc260).2) (by decide) (by decide) k) ?_
      show Gl _ _ _ _ _ _ _ _ (T37.setTop (mkF m 267 #[.val (.int p1), .val (.int p2), .val (.int p3), .val (.int p4), .val (.ref o1), .val (.int v5_250), v6_250] [(.int (b1_0 v5_250))]))
      refine go (fun t k => XS.iconst X37.here hx rfl (hb hby at_267) k) ?_
      show Gl _ _ _ _ _ _ _ _ (T37.setTop (mkF m 268 #[.val (.int p1), .val (.int p2), .val (.int p3), .val (.int p4), .val (.ref o1), .val (.int v5_250), v6_250] [(.int (0 : Int32)), (.int (b1_0 v5_250))]))
      exact J268 (0 : Int32) T37 _ X37 e37 N37
  refine gI (c := (p4 &&& (1 : Int32)) = (0 : Int32)) (fun hc217 => ?_) (fun hc217 => ?_)
  · refine go (fun t k => XS.ifYes X34.here hx rfl (pc0 := 217) (pc' := 226) rfl (hb hby at_217) rfl ((if0 _ _).trans (teq hc217).1) (by decide) (by decide) k) ?_
    show Gl _ _ _ _ _ _ _ _ (T34.setTop (mkF m 226 #[.val (.int p1), .val (.int p2), .val (.int p3), .val (.int p4), .val (.ref o1), .unset, .unset] []))
    refine go (fun t k => XS.iloadN X34.here hx rfl (hb hby at_226) rfl  k) ?_
    show Gl _ _ _ _ _ _ _ _ (T34.setTop (mkF m 227 #[.val (.int p1), .val (.int p2), .val (.int p3), .val (.int p4), .val (.ref o1), .unset, .unset] [(.int p2)]))
    refine go (fun t k => X34.ldcInt hx hown (mvT hZ (hw _ (List.mem_of_getElem? (i := 9) rfl))) (g := (mkF m 227 #[.val (.int p1), .val (.int p2), .val (.int p3), .val (.int p4), .val (.ref o1), .unset, .unset] [(.int p2)])) rfl (hb hby at_227) _ k) ?_
    show Gl _ _ _ _ _ _ _ _ (T34.setTop (mkF m 229 #[.val (.int p1), .val (.int p2), .val (.int p3), .val (.int p4), .val (.ref o1), .unset, .unset] [(.int (2147483647 : Int32)), (.int p2)]))
    refine go (fun t k => XS.iand X34.here hx rfl (hb hby at_229) rfl k) ?_
    show Gl _ _ _ _ _ _ _ _ (T34.setTop (mkF m 230 #[.val (.int p1), .val (.int p2), .val (.int p3), .val (.int p4), .val (.ref o1), .unset, .unset] [(.int (p2 &&& (2147483647 : Int32)))]))
    refine go (fun t k => XS.aload X34.here hx rfl (hb hby at_230) rfl rfl k) ?_
    show Gl _ _ _ _ _ _ _ _ (T34.setTop (mkF m 232 #[.val (.int p1), .val (.int p2), .val (.int p3), .val (.int p4), .val (.ref o1), .unset, .unset] [(.ref o1), (.int (p2 &&& (2147483647 : Int32)))]))
    obtain ⟨cl40, Ar40, vq40, S40, M40, Hh40, G40⟩ := id V34
    have hl40 : cl40.slots.size.toInt32 = (33 : Int32) := len_of S40 M40
    refine go (fun t k => X34.arraylength hx (by rw [e34]; exact Ar40.1) (State.isArrayOf_alike hZ.alike Ar40.2.1) (g := (mkF m 232 #[.val (.int p1), .val (.int p2), .val (.int p3), .val (.int p4), .val (.ref o1), .unset, .unset] [(.ref o1), (.int (p2 &&& (2147483647 : Int32)))])) rfl rfl (hb hby at_232) _ (by rw [hl40]; exact k)) ?_
    show Gl _ _ _ _ _ _ _ _ (T34.setTop (mkF m 233 #[.val (.int p1), .val (.int p2), .val (.int p3), .val (.int p4), .val (.ref o1), .unset, .unset] [(.int (33 : Int32)), (.int (p2 &&& (2147483647 : Int32)))]))
    refine go (fun t k => iremM X34 hx rfl (hb hby at_233) rfl (by decide) k) ?_
    show Gl _ _ _ _ _ _ _ _ (T34.setTop (mkF m 234 #[.val (.int p1), .val (.int p2), .val (.int p3), .val (.int p4), .val (.ref o1), .unset, .unset] [(.int ((p2 &&& (2147483647 : Int32)) % (33 : Int32)))]))
    refine go (fun t k => XS.istore X34.here hx rfl (hb hby at_234) rfl (l' := #[.val (.int p1), .val (.int p2), .val (.int p3), .val (.int p4), .val (.ref o1), .unset, .val (.int ((p2 &&& (2147483647 : Int32)) % (33 : Int32)))]) rfl k) ?_
    show Gl _ _ _ _ _ _ _ _ (T34.setTop (mkF m 236 #[.val (.int p1), .val (.int p2), .val (.int p3), .val (.int p4), .val (.ref o1), .unset, .val (.int ((p2 &&& (2147483647 : Int32)) % (33 : Int32)))] []))
    refine go (fun t k => XS.aload X34.here hx rfl (hb hby at_236) rfl rfl k) ?_
    show Gl _ _ _ _ _ _ _ _ (T34.setTop (mkF m 238 #[.val (.int p1), .val (.int p2), .val (.int p3), .val (.int p4), .val (.ref o1), .unset, .val (.int ((p2 &&& (2147483647 : Int32)) % (33 : Int32)))] [(.ref o1)]))
    refine go (fun t k => XS.iload X34.here hx rfl (hb hby at_238) rfl  k) ?_
    show Gl _ _ _ _ _ _ _ _ (T34.setTop (mkF m 240 #[.val (.int p1), .val (.int p2), .val (.int p3), .val (.int p4), .val (.ref o1), .unset, .val (.int ((p2 &&& (2147483647 : Int32)) % (33 : Int32)))] [(.int ((p2 &&& (2147483647 : Int32)) % (33 : Int32))), (.ref o1)]))
    obtain ⟨cl41, Ar41, q41, S41, M41, Hh41, G41⟩ := V34
    have hin41 := inb_of S41 (own_idx p2)
    have hat41 := own_hat Hh41 (own_idx p2) S41
    refine go (fun t k => X34.iaload hx (j := ((p2 &&& (2147483647 : Int32)) % (33 : Int32))) (v := (.int (own_mark ((p2 &&& (2147483647 : Int32)) % (33 : Int32))))) (by rw [e34]; exact Ar41.1) (State.isArrayOf_alike hZ.alike Ar41.2.1) Ar41.2.2 hin41 hat41 (g := (mkF m 240 #[.val (.int p1), .val (.int p2), .val (.int p3), .val (.int p4), .val (.ref o1), .unset, .val (.int ((p2 &&& (2147483647 : Int32)) % (33 : Int32)))] [(.int ((p2 &&& (2147483647 : Int32)) % (33 : Int32))), (.ref o1)])) rfl rfl (hb hby at_240) _ k) ?_
    show Gl _ _ _ _ _ _ _ _ (T34.setTop (mkF m 241 #[.val (.int p1), .val (.int p2), .val (.int p3), .val (.int p4), .val (.ref o1), .unset, .val (.int ((p2 &&& (2147483647 : Int32)) % (33 : Int32)))] [(.int (own_mark ((p2 &&& (2147483647 : Int32)) % (33 : Int32))))]))
    refine go (fun t k => XS.iloadN X34.here hx rfl (hb hby at_241) rfl  k) ?_
    show Gl _ _ _ _ _ _ _ _ (T34.setTop (mkF m 242 #[.val (.int p1), .val (.int p2), .val (.int p3), .val (.int p4), .val (.ref o1), .unset, .val (.int ((p2 &&& (2147483647 : Int32)) % (33 : Int32)))] [(.int p3), (.int (own_mark ((p2 &&& (2147483647 : Int32)) % (33 : Int32))))]))
    refine go (fun t k => XS.bipush X34.here hx rfl (hb hby at_242) k) ?_
    show Gl _ _ _ _ _ _ _ _ (T34.setTop (mkF m 244 #[.val (.int p1), .val (.int p2), .val (.int p3), .val (.int p4), .val (.ref o1), .unset, .val (.int ((p2 &&& (2147483647 : Int32)) % (33 : Int32)))] [(.int (7 : Int32)), (.int p3), (.int (own_mark ((p2 &&& (2147483647 : Int32)) % (33 : Int32))))]))
    refine go (fun t k => XS.iand X34.here hx rfl (hb hby at_244) rfl k) ?_
    show Gl _ _ _ _ _ _ _ _ (T34.setTop (mkF m 245 #[.val (.int p1), .val (.int p2), .val (.int p3), .val (.int p4), .val (.ref o1), .unset, .val (.int ((p2 &&& (2147483647 : Int32)) % (33 : Int32)))] [(.int (p3 &&& (7 : Int32))), (.int (own_mark ((p2 &&& (2147483647 : Int32)) % (33 : Int32))))]))
    refine go (fun t k => XS.iconst X34.here hx rfl (hb hby at_245) k) ?_
    show Gl _ _ _ _ _ _ _ _ (T34.setTop (mkF m 246 #[.val (.int p1), .val (.int p2), .val (.int p3), .val (.int p4), .val (.ref o1), .unset, .val (.int ((p2 &&& (2147483647 : Int32)) % (33 : Int32)))] [(.int (3 : Int32)), (.int (p3 &&& (7 : Int32))), (.int (own_mark ((p2 &&& (2147483647 : Int32)) % (33 : Int32))))]))
    refine go (fun t k => XS.isub X34.here hx rfl (hb hby at_246) rfl k) ?_
    show Gl _ _ _ _ _ _ _ _ (T34.setTop (mkF m 247 #[.val (.int p1), .val (.int p2), .val (.int p3), .val (.int p4), .val (.ref o1), .unset, .val (.int ((p2 &&& (2147483647 : Int32)) % (33 : Int32)))] [(.int ((p3 &&& (7 : Int32)) - (3 : Int32))), (.int (own_mark ((p2 &&& (2147483647 : Int32)) % (33 : Int32))))]))
    refine go (fun t k => XS.iadd X34.here hx rfl (hb hby at_247) rfl k) ?_
    show Gl _ _ _ _ _ _ _ _ (T34.setTop (mkF m 248 #[.val (.int p1), .val (.int p2), .val (.int p3), .val (.int p4), .val (.ref o1), .unset, .val (.int ((p2 &&& (2147483647 : Int32)) % (33 : Int32)))] [(.int ((own_mark ((p2 &&& (2147483647 : Int32)) % (33 : Int32))) + ((p3 &&& (7 : Int32)) - (3 : Int32))))]))
    refine go (fun t k => XS.istore X34.here hx rfl (hb hby at_248) rfl (l' := #[.val (.int p1), .val (.int p2), .val (.int p3), .val (.int p4), .val (.ref o1), .val (.int ((own_mark ((p2 &&& (2147483647 : Int32)) % (33 : Int32))) + ((p3 &&& (7 : Int32)) - (3 : Int32)))), .val (.int ((p2 &&& (2147483647 : Int32)) % (33 : Int32)))]) rfl k) ?_
    show Gl _ _ _ _ _ _ _ _ (T34.setTop (mkF m 250 #[.val (.int p1), .val (.int p2), .val (.int p3), .val (.int p4), .val (.ref o1), .val (.int ((own_mark ((p2 &&& (2147483647 : Int32)) % (33 : Int32))) + ((p3 &&& (7 : Int32)) - (3 : Int32)))), .val (.int ((p2 &&& (2147483647 : Int32)) % (33 : Int32)))] []))
    exact J250 ((own_mark ((p2 &&& (2147483647 : Int32)) % (33 : Int32))) + ((p3 &&& (7 : Int32)) - (3 : Int32))) (.val (.int ((p2 &&& (2147483647 : Int32)) % (33 : Int32)))) T34 _ X34 e34 N34
  · refine go (fun t k => XS.ifNo X34.here hx rfl (hb hby at_217) rfl ((if0 _ _).trans (feq hc217).1) k) ?_
    show Gl _ _ _ _ _ _ _ _ (T34.setTop (mkF m 220 #[.val (.int p1), .val (.int p2), .val (.int p3), .val (.int p4), .val (.ref o1), .unset, .unset] []))
    refine go (fun t k => XS.iloadN X34.here hx rfl (hb hby at_220) rfl  k) ?_
    show Gl _ _ _ _ _ _ _ _ (T34.setTop (mkF m 221 #[.val (.int p1), .val (.int p2), .val (.int p3), .val (.int p4), .val (.ref o1), .unset, .unset] [(.int p1)]))
    refine go (fun t k => XS.istore X34.here hx rfl (hb hby at_221) rfl (l' := #[.val (.int p1), .val (.int p2), .val (.int p3), .val (.int p4), .val (.ref o1), .val (.int p1), .unset]) rfl k) ?_
    show Gl _ _ _ _ _ _ _ _ (T34.setTop (mkF m 223 #[.val (.int p1), .val (.int p2), .val (.int p3), .val (.int p4), .val (.ref o1), .val (.int p1), .unset] []))
    refine go (fun t k => XS.goto X34.here hx rfl (pc0 := 223) (pc' := 250) rfl (hb hby at_223) (by decide) (by decide) k) ?_
    show Gl _ _ _ _ _ _ _ _ (T34.setTop (mkF m 250 #[.val (.int p1), .val (.int p2), .val (.int p3), .val (.int p4), .val (.ref o1), .val (.int p1), .unset] []))
    exact J250 p1 (.unset) T34 _ X34 e34 N34
theorem own_k1 : b1_185 = 1 := rfl
theorem own_k2 : b1_189 = 0 := rfl
theorem own_k3 : b2_164 = 1 := rfl
theorem own_k4 : b2_169 0 = 0 := rfl
theorem own_b1_173 (c : Int32) : b1_173 c = if (65536 ≤ c.toInt ∧ c.toInt ≤ 983039) then 1 else 0 := by
  unfold b1_173
  simp only [own_k1, own_k2, own_k3, own_k4, Int32.lt_iff_toInt_lt, ← Int32.toInt_inj, Int32.reduceToInt]
  have h1 := c.toInt_lt
  have h2 := c.le_toInt
  (repeat' split) <;> first | rfl | (exfalso; omega)
theorem own_b1_161 (c : Int32) : b1_161 c = if (65008 ≤ c.toInt ∧ c.toInt ≤ 65533) ∨ (65536 ≤ c.toInt ∧ c.toInt ≤ 983039) then 1 else 0 := by
  unfold b1_161
  simp only [own_k1, own_k2, own_k3, own_k4, own_b1_173 c, Int32.lt_iff_toInt_lt, ← Int32.toInt_inj, Int32.reduceToInt]
  have h1 := c.toInt_lt
  have h2 := c.le_toInt
  (repeat' split) <;> first | rfl | (exfalso; omega)
theorem own_b1_149 (c : Int32) : b1_149 c = if (63744 ≤ c.toInt ∧ c.toInt ≤ 64975) ∨ (65008 ≤ c.toInt ∧ c.toInt ≤ 65533) ∨ (65536 ≤ c.toInt ∧ c.toInt ≤ 983039) then 1 else 0 := by
  unfold b1_149
  simp only [own_k1, own_k2, own_k3, own_k4, own_b1_161 c, Int32.lt_iff_toInt_lt, ← Int32.toInt_inj, Int32.reduceToInt]
  have h1 := c.toInt_lt
  have h2 := c.le_toInt
  (repeat' split) <;> first | rfl | (exfalso; omega)
theorem own_b1_136 (c : Int32) : b1_136 c = if (12289 ≤ c.toInt ∧ c.toInt ≤ 55295) ∨ (63744 ≤ c.toInt ∧ c.toInt ≤ 64975) ∨ (65008 ≤ c.toInt ∧ c.toInt ≤ 65533) ∨ (65536 ≤ c.toInt ∧ c.toInt ≤ 983039) then 1 else 0 := by
  unfold b1_136
  simp only [own_k1, own_k2, own_k3, own_k4, own_b1_149 c, Int32.lt_iff_toInt_lt, ← Int32.toInt_inj, Int32.reduceToInt]
  have h1 := c.toInt_lt
  have h2 := c.le_toInt
  (repeat' split) <;> first | rfl | (exfalso; omega)
theorem own_b1_122 (c : Int32) : b1_122 c = if (11264 ≤ c.toInt ∧ c.toInt ≤ 12271) ∨ (12289 ≤ c.toInt ∧ c.toInt ≤ 55295) ∨ (63744 ≤ c.toInt ∧ c.toInt ≤ 64975) ∨ (65008 ≤ c.toInt ∧ c.toInt ≤ 65533) ∨ (65536 ≤ c.toInt ∧ c.toInt ≤ 983039) then 1 else 0 := by
  unfold b1_122
  simp only [own_k1, own_k2, own_k3, own_k4, own_b1_136 c, Int32.lt_iff_toInt_lt, ← Int32.toInt_inj, Int32.reduceToInt]
  have h1 := c.toInt_lt
  have h2 := c.le_toInt
  (repeat' split) <;> first | rfl | (exfalso; omega)
theorem own_b1_108 (c : Int32) : b1_108 c = if (8304 ≤ c.toInt ∧ c.toInt ≤ 8591) ∨ (11264 ≤ c.toInt ∧ c.toInt ≤ 12271) ∨ (12289 ≤ c.toInt ∧ c.toInt ≤ 55295) ∨ (63744 ≤ c.toInt ∧ c.toInt ≤ 64975) ∨ (65008 ≤ c.toInt ∧ c.toInt ≤ 65533) ∨ (65536 ≤ c.toInt ∧ c.toInt ≤ 983039) then 1 else 0 := by
  unfold b1_108
  simp only [own_k1, own_k2, own_k3, own_k4, own_b1_122 c, Int32.lt_iff_toInt_lt, ← Int32.toInt_inj, Int32.reduceToInt]
  have h1 := c.toInt_lt
  have h2 := c.le_toInt
  (repeat' split) <;> first | rfl | (exfalso; omega)
theorem own_b1_94 (c : Int32) : b1_94 c = if (8204 ≤ c.toInt ∧ c.toInt ≤ 8205) ∨ (8304 ≤ c.toInt ∧ c.toInt ≤ 8591) ∨ (11264 ≤ c.toInt ∧ c.toInt ≤ 12271) ∨ (12289 ≤ c.toInt ∧ c.toInt ≤ 55295) ∨ (63744 ≤ c.toInt ∧ c.toInt ≤ 64975) ∨ (65008 ≤ c.toInt ∧ c.toInt ≤ 65533) ∨ (65536 ≤ c.toInt ∧ c.toInt ≤ 983039) then 1 else 0 := by
  unfold b1_94
  simp only [own_k1, own_k2, own_k3, own_k4, own_b1_108 c, Int32.lt_iff_toInt_lt, ← Int32.toInt_inj, Int32.reduceToInt]
  have h1 := c.toInt_lt
  have h2 := c.le_toInt
  (repeat' split) <;> first | rfl | (exfalso; omega)
theorem own_b1_80 (c : Int32) : b1_80 c = if (895 ≤ c.toInt ∧ c.toInt ≤ 8191) ∨ (8204 ≤ c.toInt ∧ c.toInt ≤ 8205) ∨ (8304 ≤ c.toInt ∧ c.toInt ≤ 8591) ∨ (11264 ≤ c.toInt ∧ c.toInt ≤ 12271) ∨ (12289 ≤ c.toInt ∧ c.toInt ≤ 55295) ∨ (63744 ≤ c.toInt ∧ c.toInt ≤ 64975) ∨ (65008 ≤ c.toInt ∧ c.toInt ≤ 65533) ∨ (65536 ≤ c.toInt ∧ c.toInt ≤ 983039) then 1 else 0 := by
  unfold b1_80
  simp only [own_k1, own_k2, own_k3, own_k4, own_b1_94 c, Int32.lt_iff_toInt_lt, ← Int32.toInt_inj, Int32.reduceToInt]
  have h1 := c.toInt_lt
  have h2 := c.le_toInt
  (repeat' split) <;> first | rfl | (exfalso; omega)
theorem own_b1_66 (c : Int32) : b1_66 c = if (880 ≤ c.toInt ∧ c.toInt ≤ 893) ∨ (895 ≤ c.toInt ∧ c.toInt ≤ 8191) ∨ (8204 ≤ c.toInt ∧ c.toInt ≤ 8205) ∨ (8304 ≤ c.toInt ∧ c.toInt ≤ 8591) ∨ (11264 ≤ c.toInt ∧ c.toInt ≤ 12271) ∨ (12289 ≤ c.toInt ∧ c.toInt ≤ 55295) ∨ (63744 ≤ c.toInt ∧ c.toInt ≤ 64975) ∨ (65008 ≤ c.toInt ∧ c.toInt ≤ 65533) ∨ (65536 ≤ c.toInt ∧ c.toInt ≤ 983039) then 1 else 0 := by
  unfold b1_66
  simp only [own_k1, own_k2, own_k3, own_k4, own_b1_80 c, Int32.lt_iff_toInt_lt, ← Int32.toInt_inj, Int32.reduceToInt]
  have h1 := c.toInt_lt
  have h2 := c.le_toInt
  (repeat' split) <;> first | rfl | (exfalso; omega)
theorem own_b1_52 (c : Int32) : b1_52 c = if (248 ≤ c.toInt ∧ c.toInt ≤ 767) ∨ (880 ≤ c.toInt ∧ c.toInt ≤ 893) ∨ (895 ≤ c.toInt ∧ c.toInt ≤ 8191) ∨ (8204 ≤ c.toInt ∧ c.toInt ≤ 8205) ∨ (8304 ≤ c.toInt ∧ c.toInt ≤ 8591) ∨ (11264 ≤ c.toInt ∧ c.toInt ≤ 12271) ∨ (12289 ≤ c.toInt ∧ c.toInt ≤ 55295) ∨ (63744 ≤ c.toInt ∧ c.toInt ≤ 64975) ∨ (65008 ≤ c.toInt ∧ c.toInt ≤ 65533) ∨ (65536 ≤ c.toInt ∧ c.toInt ≤ 983039) then 1 else 0 := by
  unfold b1_52
  simp only [own_k1, own_k2, own_k3, own_k4, own_b1_66 c, Int32.lt_iff_toInt_lt, ← Int32.toInt_inj, Int32.reduceToInt]
  have h1 := c.toInt_lt
  have h2 := c.le_toInt
  (repeat' split) <;> first | rfl | (exfalso; omega)
theorem own_b1_38 (c : Int32) : b1_38 c = if (216 ≤ c.toInt ∧ c.toInt ≤ 246) ∨ (248 ≤ c.toInt ∧ c.toInt ≤ 767) ∨ (880 ≤ c.toInt ∧ c.toInt ≤ 893) ∨ (895 ≤ c.toInt ∧ c.toInt ≤ 8191) ∨ (8204 ≤ c.toInt ∧ c.toInt ≤ 8205) ∨ (8304 ≤ c.toInt ∧ c.toInt ≤ 8591) ∨ (11264 ≤ c.toInt ∧ c.toInt ≤ 12271) ∨ (12289 ≤ c.toInt ∧ c.toInt ≤ 55295) ∨ (63744 ≤ c.toInt ∧ c.toInt ≤ 64975) ∨ (65008 ≤ c.toInt ∧ c.toInt ≤ 65533) ∨ (65536 ≤ c.toInt ∧ c.toInt ≤ 983039) then 1 else 0 := by
  unfold b1_38
  simp only [own_k1, own_k2, own_k3, own_k4, own_b1_52 c, Int32.lt_iff_toInt_lt, ← Int32.toInt_inj, Int32.reduceToInt]
  have h1 := c.toInt_lt
  have h2 := c.le_toInt
  (repeat' split) <;> first | rfl | (exfalso; omega)
theorem own_b1_24 (c : Int32) : b1_24 c = if (192 ≤ c.toInt ∧ c.toInt ≤ 214) ∨ (216 ≤ c.toInt ∧ c.toInt ≤ 246) ∨ (248 ≤ c.toInt ∧ c.toInt ≤ 767) ∨ (880 ≤ c.toInt ∧ c.toInt ≤ 893) ∨ (895 ≤ c.toInt ∧ c.toInt ≤ 8191) ∨ (8204 ≤ c.toInt ∧ c.toInt ≤ 8205) ∨ (8304 ≤ c.toInt ∧ c.toInt ≤ 8591) ∨ (11264 ≤ c.toInt ∧ c.toInt ≤ 12271) ∨ (12289 ≤ c.toInt ∧ c.toInt ≤ 55295) ∨ (63744 ≤ c.toInt ∧ c.toInt ≤ 64975) ∨ (65008 ≤ c.toInt ∧ c.toInt ≤ 65533) ∨ (65536 ≤ c.toInt ∧ c.toInt ≤ 983039) then 1 else 0 := by
  unfold b1_24
  simp only [own_k1, own_k2, own_k3, own_k4, own_b1_38 c, Int32.lt_iff_toInt_lt, ← Int32.toInt_inj, Int32.reduceToInt]
  have h1 := c.toInt_lt
  have h2 := c.le_toInt
  (repeat' split) <;> first | rfl | (exfalso; omega)
theorem own_b1_12 (c : Int32) : b1_12 c = if (65 ≤ c.toInt ∧ c.toInt ≤ 90) ∨ (192 ≤ c.toInt ∧ c.toInt ≤ 214) ∨ (216 ≤ c.toInt ∧ c.toInt ≤ 246) ∨ (248 ≤ c.toInt ∧ c.toInt ≤ 767) ∨ (880 ≤ c.toInt ∧ c.toInt ≤ 893) ∨ (895 ≤ c.toInt ∧ c.toInt ≤ 8191) ∨ (8204 ≤ c.toInt ∧ c.toInt ≤ 8205) ∨ (8304 ≤ c.toInt ∧ c.toInt ≤ 8591) ∨ (11264 ≤ c.toInt ∧ c.toInt ≤ 12271) ∨ (12289 ≤ c.toInt ∧ c.toInt ≤ 55295) ∨ (63744 ≤ c.toInt ∧ c.toInt ≤ 64975) ∨ (65008 ≤ c.toInt ∧ c.toInt ≤ 65533) ∨ (65536 ≤ c.toInt ∧ c.toInt ≤ 983039) then 1 else 0 := by
  unfold b1_12
  simp only [own_k1, own_k2, own_k3, own_k4, own_b1_24 c, Int32.lt_iff_toInt_lt, ← Int32.toInt_inj, Int32.reduceToInt]
  have h1 := c.toInt_lt
  have h2 := c.le_toInt
  (repeat' split) <;> first | rfl | (exfalso; omega)
theorem own_b1_0 (c : Int32) : b1_0 c = if (65 ≤ c.toInt ∧ c.toInt ≤ 90) ∨ (97 ≤ c.toInt ∧ c.toInt ≤ 122) ∨ (192 ≤ c.toInt ∧ c.toInt ≤ 214) ∨ (216 ≤ c.toInt ∧ c.toInt ≤ 246) ∨ (248 ≤ c.toInt ∧ c.toInt ≤ 767) ∨ (880 ≤ c.toInt ∧ c.toInt ≤ 893) ∨ (895 ≤ c.toInt ∧ c.toInt ≤ 8191) ∨ (8204 ≤ c.toInt ∧ c.toInt ≤ 8205) ∨ (8304 ≤ c.toInt ∧ c.toInt ≤ 8591) ∨ (11264 ≤ c.toInt ∧ c.toInt ≤ 12271) ∨ (12289 ≤ c.toInt ∧ c.toInt ≤ 55295) ∨ (63744 ≤ c.toInt ∧ c.toInt ≤ 64975) ∨ (65008 ≤ c.toInt ∧ c.toInt ≤ 65533) ∨ (65536 ≤ c.toInt ∧ c.toInt ≤ 983039) then 1 else 0 := by
  unfold b1_0
  simp only [own_k1, own_k2, own_k3, own_k4, own_b1_12 c, Int32.lt_iff_toInt_lt, ← Int32.toInt_inj, Int32.reduceToInt]
  have h1 := c.toInt_lt
  have h2 := c.le_toInt
  (repeat' split) <;> first | rfl | (exfalso; omega)
theorem own_b2_158 (c : Int32) : b2_158 c = if (983040 ≤ c.toInt) then 1 else 0 := by
  unfold b2_158
  simp only [own_k1, own_k2, own_k3, own_k4, Int32.lt_iff_toInt_lt, ← Int32.toInt_inj, Int32.reduceToInt]
  have h1 := c.toInt_lt
  have h2 := c.le_toInt
  (repeat' split) <;> first | rfl | (exfalso; omega)
theorem own_b2_146 (c : Int32) : b2_146 c = if (65534 ≤ c.toInt ∧ c.toInt ≤ 65535) ∨ (983040 ≤ c.toInt) then 1 else 0 := by
  unfold b2_146
  simp only [own_k1, own_k2, own_k3, own_k4, own_b2_158 c, Int32.lt_iff_toInt_lt, ← Int32.toInt_inj, Int32.reduceToInt]
  have h1 := c.toInt_lt
  have h2 := c.le_toInt
  (repeat' split) <;> first | rfl | (exfalso; omega)
theorem own_b2_134 (c : Int32) : b2_134 c = if (64976 ≤ c.toInt ∧ c.toInt ≤ 65007) ∨ (65534 ≤ c.toInt ∧ c.toInt ≤ 65535) ∨ (983040 ≤ c.toInt) then 1 else 0 := by
  unfold b2_134
  simp only [own_k1, own_k2, own_k3, own_k4, own_b2_146 c, Int32.lt_iff_toInt_lt, ← Int32.toInt_inj, Int32.reduceToInt]
  have h1 := c.toInt_lt
  have h2 := c.le_toInt
  (repeat' split) <;> first | rfl | (exfalso; omega)
theorem own_b2_122 (c : Int32) : b2_122 c = if (55296 ≤ c.toInt ∧ c.toInt ≤ 63743) ∨ (64976 ≤ c.toInt ∧ c.toInt ≤ 65007) ∨ (65534 ≤ c.toInt ∧ c.toInt ≤ 65535) ∨ (983040 ≤ c.toInt) then 1 else 0 := by
  unfold b2_122
  simp only [own_k1, own_k2, own_k3, own_k4, own_b2_134 c, Int32.lt_iff_toInt_lt, ← Int32.toInt_inj, Int32.reduceToInt]
  have h1 := c.toInt_lt
  have h2 := c.le_toInt
  (repeat' split) <;> first | rfl | (exfalso; omega)
theorem own_b2_108 (c : Int32) : b2_108 c = if (12272 ≤ c.toInt ∧ c.toInt ≤ 12288) ∨ (55296 ≤ c.toInt ∧ c.toInt ≤ 63743) ∨ (64976 ≤ c.toInt ∧ c.toInt ≤ 65007) ∨ (65534 ≤ c.toInt ∧ c.toInt ≤ 65535) ∨ (983040 ≤ c.toInt) then 1 else 0 := by
  unfold b2_108
  simp only [own_k1, own_k2, own_k3, own_k4, own_b2_122 c, Int32.lt_iff_toInt_lt, ← Int32.toInt_inj, Int32.reduceToInt]
  have h1 := c.toInt_lt
  have h2 := c.le_toInt
  (repeat' split) <;> first | rfl | (exfalso; omega)
theorem own_b2_94 (c : Int32) : b2_94 c = if (8592 ≤ c.toInt ∧ c.toInt ≤ 11263) ∨ (12272 ≤ c.toInt ∧ c.toInt ≤ 12288) ∨ (55296 ≤ c.toInt ∧ c.toInt ≤ 63743) ∨ (64976 ≤ c.toInt ∧ c.toInt ≤ 65007) ∨ (65534 ≤ c.toInt ∧ c.toInt ≤ 65535) ∨ (983040 ≤ c.toInt) then 1 else 0 := by
  unfold b2_94
  simp only [own_k1, own_k2, own_k3, own_k4, own_b2_108 c, Int32.lt_iff_toInt_lt, ← Int32.toInt_inj, Int32.reduceToInt]
  have h1 := c.toInt_lt
  have h2 := c.le_toInt
  (repeat' split) <;> first | rfl | (exfalso; omega)
theorem own_b2_80 (c : Int32) : b2_80 c = if (8206 ≤ c.toInt ∧ c.toInt ≤ 8303) ∨ (8592 ≤ c.toInt ∧ c.toInt ≤ 11263) ∨ (12272 ≤ c.toInt ∧ c.toInt ≤ 12288) ∨ (55296 ≤ c.toInt ∧ c.toInt ≤ 63743) ∨ (64976 ≤ c.toInt ∧ c.toInt ≤ 65007) ∨ (65534 ≤ c.toInt ∧ c.toInt ≤ 65535) ∨ (983040 ≤ c.toInt) then 1 else 0 := by
  unfold b2_80
  simp only [own_k1, own_k2, own_k3, own_k4, own_b2_94 c, Int32.lt_iff_toInt_lt, ← Int32.toInt_inj, Int32.reduceToInt]
  have h1 := c.toInt_lt
  have h2 := c.le_toInt
  (repeat' split) <;> first | rfl | (exfalso; omega)
theorem own_b2_59 (c : Int32) : b2_59 c = if (894 ≤ c.toInt ∧ c.toInt ≤ 894) ∨ (8192 ≤ c.toInt ∧ c.toInt ≤ 8203) ∨ (8206 ≤ c.toInt ∧ c.toInt ≤ 8303) ∨ (8592 ≤ c.toInt ∧ c.toInt ≤ 11263) ∨ (12272 ≤ c.toInt ∧ c.toInt ≤ 12288) ∨ (55296 ≤ c.toInt ∧ c.toInt ≤ 63743) ∨ (64976 ≤ c.toInt ∧ c.toInt ≤ 65007) ∨ (65534 ≤ c.toInt ∧ c.toInt ≤ 65535) ∨ (983040 ≤ c.toInt) then 1 else 0 := by
  unfold b2_59
  simp only [own_k1, own_k2, own_k3, own_k4, own_b2_80 c, Int32.lt_iff_toInt_lt, ← Int32.toInt_inj, Int32.reduceToInt]
  have h1 := c.toInt_lt
  have h2 := c.le_toInt
  (repeat' split) <;> first | rfl | (exfalso; omega)
theorem own_b2_31 (c : Int32) : b2_31 c = if (215 ≤ c.toInt ∧ c.toInt ≤ 215) ∨ (247 ≤ c.toInt ∧ c.toInt ≤ 247) ∨ (768 ≤ c.toInt ∧ c.toInt ≤ 879) ∨ (894 ≤ c.toInt ∧ c.toInt ≤ 894) ∨ (8192 ≤ c.toInt ∧ c.toInt ≤ 8203) ∨ (8206 ≤ c.toInt ∧ c.toInt ≤ 8303) ∨ (8592 ≤ c.toInt ∧ c.toInt ≤ 11263) ∨ (12272 ≤ c.toInt ∧ c.toInt ≤ 12288) ∨ (55296 ≤ c.toInt ∧ c.toInt ≤ 63743) ∨ (64976 ≤ c.toInt ∧ c.toInt ≤ 65007) ∨ (65534 ≤ c.toInt ∧ c.toInt ≤ 65535) ∨ (983040 ≤ c.toInt) then 1 else 0 := by
  unfold b2_31
  simp only [own_k1, own_k2, own_k3, own_k4, own_b2_59 c, Int32.lt_iff_toInt_lt, ← Int32.toInt_inj, Int32.reduceToInt]
  have h1 := c.toInt_lt
  have h2 := c.le_toInt
  (repeat' split) <;> first | rfl | (exfalso; omega)
theorem own_b2_18 (c : Int32) : b2_18 c = if (123 ≤ c.toInt ∧ c.toInt ≤ 191) ∨ (215 ≤ c.toInt ∧ c.toInt ≤ 215) ∨ (247 ≤ c.toInt ∧ c.toInt ≤ 247) ∨ (768 ≤ c.toInt ∧ c.toInt ≤ 879) ∨ (894 ≤ c.toInt ∧ c.toInt ≤ 894) ∨ (8192 ≤ c.toInt ∧ c.toInt ≤ 8203) ∨ (8206 ≤ c.toInt ∧ c.toInt ≤ 8303) ∨ (8592 ≤ c.toInt ∧ c.toInt ≤ 11263) ∨ (12272 ≤ c.toInt ∧ c.toInt ≤ 12288) ∨ (55296 ≤ c.toInt ∧ c.toInt ≤ 63743) ∨ (64976 ≤ c.toInt ∧ c.toInt ≤ 65007) ∨ (65534 ≤ c.toInt ∧ c.toInt ≤ 65535) ∨ (983040 ≤ c.toInt) then 1 else 0 := by
  unfold b2_18
  simp only [own_k1, own_k2, own_k3, own_k4, own_b2_31 c, Int32.lt_iff_toInt_lt, ← Int32.toInt_inj, Int32.reduceToInt]
  have h1 := c.toInt_lt
  have h2 := c.le_toInt
  (repeat' split) <;> first | rfl | (exfalso; omega)
theorem own_b2_0 (c : Int32) : b2_0 c = if (c.toInt ≤ 64) ∨ (91 ≤ c.toInt ∧ c.toInt ≤ 96) ∨ (123 ≤ c.toInt ∧ c.toInt ≤ 191) ∨ (215 ≤ c.toInt ∧ c.toInt ≤ 215) ∨ (247 ≤ c.toInt ∧ c.toInt ≤ 247) ∨ (768 ≤ c.toInt ∧ c.toInt ≤ 879) ∨ (894 ≤ c.toInt ∧ c.toInt ≤ 894) ∨ (8192 ≤ c.toInt ∧ c.toInt ≤ 8203) ∨ (8206 ≤ c.toInt ∧ c.toInt ≤ 8303) ∨ (8592 ≤ c.toInt ∧ c.toInt ≤ 11263) ∨ (12272 ≤ c.toInt ∧ c.toInt ≤ 12288) ∨ (55296 ≤ c.toInt ∧ c.toInt ≤ 63743) ∨ (64976 ≤ c.toInt ∧ c.toInt ≤ 65007) ∨ (65534 ≤ c.toInt ∧ c.toInt ≤ 65535) ∨ (983040 ≤ c.toInt) then 1 else 0 := by
  unfold b2_0
  simp only [own_k1, own_k2, own_k3, own_k4, own_b2_18 c, Int32.lt_iff_toInt_lt, ← Int32.toInt_inj, Int32.reduceToInt]
  have h1 := c.toInt_lt
  have h2 := c.le_toInt
  (repeat' split) <;> first | rfl | (exfalso; omega)
theorem own_same (c : Int32) : b0_250 c = 1 := by
  have k0 : b0_276 0 = 0 := rfl
  have k1 : b0_276 1 = 1 := rfl
  unfold b0_250 b0_268
  rw [own_b1_0 c, own_b2_0 c, k0, k1]
  have h1 := c.toInt_lt
  have h2 := c.le_toInt
  by_cases q1 : (65 ≤ c.toInt ∧ c.toInt ≤ 90) ∨ (97 ≤ c.toInt ∧ c.toInt ≤ 122) ∨ (192 ≤ c.toInt ∧ c.toInt ≤ 214) ∨ (216 ≤ c.toInt ∧ c.toInt ≤ 246) ∨ (248 ≤ c.toInt ∧ c.toInt ≤ 767) ∨ (880 ≤ c.toInt ∧ c.toInt ≤ 893) ∨ (895 ≤ c.toInt ∧ c.toInt ≤ 8191) ∨ (8204 ≤ c.toInt ∧ c.toInt ≤ 8205) ∨ (8304 ≤ c.toInt ∧ c.toInt ≤ 8591) ∨ (11264 ≤ c.toInt ∧ c.toInt ≤ 12271) ∨ (12289 ≤ c.toInt ∧ c.toInt ≤ 55295) ∨ (63744 ≤ c.toInt ∧ c.toInt ≤ 64975) ∨ (65008 ≤ c.toInt ∧ c.toInt ≤ 65533) ∨ (65536 ≤ c.toInt ∧ c.toInt ≤ 983039)
  · rw [if_pos q1]
    have q2 : ¬ ((c.toInt ≤ 64) ∨ (91 ≤ c.toInt ∧ c.toInt ≤ 96) ∨ (123 ≤ c.toInt ∧ c.toInt ≤ 191) ∨ (215 ≤ c.toInt ∧ c.toInt ≤ 215) ∨ (247 ≤ c.toInt ∧ c.toInt ≤ 247) ∨ (768 ≤ c.toInt ∧ c.toInt ≤ 879) ∨ (894 ≤ c.toInt ∧ c.toInt ≤ 894) ∨ (8192 ≤ c.toInt ∧ c.toInt ≤ 8203) ∨ (8206 ≤ c.toInt ∧ c.toInt ≤ 8303) ∨ (8592 ≤ c.toInt ∧ c.toInt ≤ 11263) ∨ (12272 ≤ c.toInt ∧ c.toInt ≤ 12288) ∨ (55296 ≤ c.toInt ∧ c.toInt ≤ 63743) ∨ (64976 ≤ c.toInt ∧ c.toInt ≤ 65007) ∨ (65534 ≤ c.toInt ∧ c.toInt ≤ 65535) ∨ (983040 ≤ c.toInt)) := by omega
    rw [if_neg q2]; rfl
  · rw [if_neg q1]
    have q2 : (c.toInt ≤ 64) ∨ (91 ≤ c.toInt ∧ c.toInt ≤ 96) ∨ (123 ≤ c.toInt ∧ c.toInt ≤ 191) ∨ (215 ≤ c.toInt ∧ c.toInt ≤ 215) ∨ (247 ≤ c.toInt ∧ c.toInt ≤ 247) ∨ (768 ≤ c.toInt ∧ c.toInt ≤ 879) ∨ (894 ≤ c.toInt ∧ c.toInt ≤ 894) ∨ (8192 ≤ c.toInt ∧ c.toInt ≤ 8203) ∨ (8206 ≤ c.toInt ∧ c.toInt ≤ 8303) ∨ (8592 ≤ c.toInt ∧ c.toInt ≤ 11263) ∨ (12272 ≤ c.toInt ∧ c.toInt ≤ 12288) ∨ (55296 ≤ c.toInt ∧ c.toInt ≤ 63743) ∨ (64976 ≤ c.toInt ∧ c.toInt ≤ 65007) ∨ (65534 ≤ c.toInt ∧ c.toInt ≤ 65535) ∨ (983040 ≤ c.toInt) := by omega
    rw [if_pos q2]; rfl
theorem law_eq (p1 p2 p3 p4 : Int32) : b0_0 p1 p2 p3 p4 = 1 := by
  unfold b0_0
  rw [own_same, own_same, ite_self]
set_option maxRecDepth 65536 in
set_option maxHeartbeats 40000000 in
theorem comes_1 {Post : Tables → Env → Array Value → State → Outcome → State → Prop} (hpost : ∀ tb e args s v u, (limb_1_1.after args s (.returned v) u = true ∧ limb_1_2.after args s (.returned v) u = true ∧ True) → FrameEnd s (.returned v) u (Jvm.fieldLocs frame_1_writes args s ++ Jvm.arrayLocs frame_1_arrays args s ++ Jvm.staticLocs frame_1_statics s) 16 192 → Post tb e args s (.returned v) u) :
    ArmFor flags0 classFile x code maxLocals ret World_1 tables_1 room_1 Calls_1 rest_1 Pre_1 Post := by
  intro l hfl _ _ p e ha hc hk s m args below hf hA hF happ hP
  obtain ⟨hcalls, hrest, hpre⟩ := hP
  obtain ⟨-, -, -, hnamed, -, -, -, hat⟩ := (Spec.applies_iff hf).mp happ
  obtain ⟨hg, hn⟩ := and_e (Cond.before_iff.mp (show (Jvm.Cond.and given_1 narrow_1).before args s = true from hpre))
  obtain ⟨g1, g2⟩ := and_e hg
  obtain ⟨g3, g4⟩ := and_e g2
  obtain ⟨g5, g6⟩ := and_e g4
  obtain ⟨g7, g8⟩ := and_e g6
  obtain ⟨w0, w1, w2, w3, rfl⟩ : ∃ w0 w1 w2 w3 : Value, args = #[w0, w1, w2, w3] := by
    have hs : args.size = 4 := by simpa [Cond.value, given_1] using g1
    obtain ⟨L⟩ := args
    match L, hs with
    | [w0, w1, w2, w3], _ => exact ⟨w0, w1, w2, w3, rfl⟩
  have hw := fun d (hd : d ∈ tables_1) => atoms_spec (ws := Jvm.Cond.code x code maxLocals ret :: tables_1) hat d (List.mem_cons_of_mem _ hd)
  have hfit : Fit s := fun {y c} hc i hi => by
    obtain ⟨ha, rfl⟩ := Array.getElem?_eq_some_iff.mp hc
    have q := List.all_eq_true.mp ((Array.all_eq_true_iff_forall_mem.mp hF) _ (Array.getElem_mem ha)) i (List.mem_range.mpr hi)
    simpa [Array.getElem?_eq_getElem hi] using q
  obtain ⟨i0, ei0⟩ := is_v g3
  obtain rfl : w0 = (.int i0) := Option.some.inj ei0
  obtain ⟨i1, ei1⟩ := is_v g5
  obtain rfl : w1 = (.int i1) := Option.some.inj ei1
  obtain ⟨i2, ei2⟩ := is_v g7
  obtain rfl : w2 = (.int i2) := Option.some.inj ei2
  obtain ⟨i3, ei3⟩ := is_v g8
  obtain rfl : w3 = (.int i3) := Option.some.inj ei3
  obtain ⟨n, o, h1, h2, h3, _, L, rfl, ⟨⟨hv, -⟩, N⟩, hq⟩ := rm0 l s _ hw tables_1 i0 i1 i2 i3  s.heap s.heap.size (Nat.le_refl _)  p e ha hc hk s m _ below hf ((Spec.applies_iff_loose hf).mp happ).1 ⟨rfl, State.Warmed39.refl s, rfl⟩ trivial
  rw [law_eq] at hv
  subst hv
  refine ⟨n, _, h1, h2, h3, hpost _ _ _ _ _ _ ⟨Cond.after_iff.mpr rfl, Cond.after_iff.mpr (eq_i res_at (Term.int_eval (1)) rfl), trivial⟩ ⟨hq.1, hq.2.1, (hq.2.2.sift fun y hy => Or.inr (N y hy)).mono (by decide) (by decide)⟩⟩
theorem main_1_1 : Claimed_1_1 := comes_1 fun _ _ _ _ _ _ h hF => ⟨h.1, hF⟩
theorem main_1_2 : Claimed_1_2 := comes_1 fun _ _ _ _ _ _ h hF => ⟨h.2.1, hF⟩
end Jvm.Pilot.@@N@@
namespace Jvm.Pilot.@@N@@
open Jvm Jvm.ClassFile Sem Op Lib Jvm.Free Jvm.Stand Jvm.Pilot.@@N@@.Jvm.D
/-! MADE BY PROGRAM (witnessworld.py) out of the Statement's table words and the real class files: 9 classes; the members and pool entries that the words name. The judged class is class 1, her method 2. -/
namespace start1
open Jvm.ClassFile
def u (s : String) : CpInfo := .utf8 (stringToUtf16 s)
/-- a pool by its gaps: so many unusable entries, then the entry; so many at the end -/
def gap : Nat → List CpInfo → List CpInfo
  | 0, r => r
  | n + 1, r => .unusable :: gap n r
def poolList (es : List (Nat × CpInfo)) (last : Nat) : List CpInfo := es.foldr (fun e r => gap e.1 (e.2 :: r)) (gap last [])
def pool (es : List (Nat × CpInfo)) (last : Nat) : Array CpInfo := ⟨poolList es last⟩
def fileOf (pool : Array CpInfo) (this : Nat) (attrs : Array Attribute := #[]) (ms : Array MethodInfo := #[]) (fl : Nat := 33) (sup : Nat := 0) (ifs : Array Nat := #[]) (fds : Array FieldInfo := #[]) : ClassFile where
  minorVersion := 0
  majorVersion := 65
  constantPool := pool
  accessFlags := fl
  thisClass := this
  superClass := sup
  interfaces := ifs
  fields := fds
  methods := ms
  attributes := attrs
def plain (name : String) (sup : Option ClassId) : Class where
  name := name
  kind := .ordinary
  loader := none
  accessFlags := 33
  super := sup
  interfaces := #[]
  cf := none
  fields := #[]
  methods := #[]
  instanceTypes := #[]
  staticTypes := #[]
  resolved := #[]
  callSites := []
  init := .initialized
  statics := none
  mirror := none

def pool0 : Array CpInfo := pool [(5, u "<init>"), (0, u "()V"), (1, .class_ 10), (1, u "java/lang/Object")] 113

def k0m0 : Method := { name := "<init>", desc := "()V", sig := { parameters := [], returnType := none }, accessFlags := 1, code := none }
/-- java/lang/Object -/
def k0 : Class := { plain "java/lang/Object" none with
  accessFlags := 33
  interfaces := #[]
  cf := some (fileOf pool0 8 #[] #[{ accessFlags := 1, nameIndex := 5, descriptorIndex := 6, attributes := #[] }] 33 0 #[] #[])
  fields := #[]
  methods := #[k0m0]
  instanceTypes := #[]
  staticTypes := #[]
  resolved := Array.replicate 124 none
  statics := none }

def pool1 : Array CpInfo := pool [(2, .class_ 4), (1, u "java/lang/Object"), (0, u "<init>"), (0, u "()V"), (0, .integer 55296), (0, .integer 63743), (0, .integer 64976), (0, .integer 65007), (0, .integer 65534), (0, .integer 65535), (0, .integer 983039), (0, .integer 55295), (0, .integer 63744), (0, .integer 64975), (0, .integer 65008), (0, .integer 65533), (0, .integer 65536), (2, .integer 2147483648), (0, .integer 2147483647), (0, .methodref 25 26), (0, .class_ 27), (0, .nameAndType 28 29), (0, u "com/example/tercet/tercet/XmlNameCharacters"), (0, u "isNameLetter"), (0, u "(I)Z"), (0, .methodref 31 32), (0, .class_ 33), (0, .nameAndType 34 29), (0, u "com/example/tercet/tercet/XmlNameCharactersIsNameLetterPinLaw"), (0, u "excluded"), (3, u "law"), (0, u "(IIII)Z")] 4

def k1m0 : Method := { name := "<init>", desc := "()V", sig := { parameters := [], returnType := none }, accessFlags := 2, code := none }
def k1c1 : Code := { maxStack := 2, maxLocals := 1, code := method_2_code, exceptionTable := #[], attributes := #[] }
def k1m1 : Method := { name := "excluded", desc := "(I)Z", sig := { parameters := [.int], returnType := some .boolean }, accessFlags := 10, code := some k1c1 }
def k1c2 : Code := { maxStack := 4, maxLocals := 7, code := code, exceptionTable := #[], attributes := #[] }
def k1m2 : Method := { name := "law", desc := "(IIII)Z", sig := { parameters := [.int, .int, .int, .int], returnType := some .boolean }, accessFlags := 9, code := some k1c2 }
/-- com/example/tercet/tercet/XmlNameCharactersIsNameLetterPinLaw -/
def k1 : Class := { plain "com/example/tercet/tercet/XmlNameCharactersIsNameLetterPinLaw" (some 0) with
  accessFlags := 49
  interfaces := #[]
  cf := some (fileOf pool1 31 #[] #[{ accessFlags := 2, nameIndex := 5, descriptorIndex := 6, attributes := #[] }, { accessFlags := 10, nameIndex := 34, descriptorIndex := 29, attributes := #[] }, { accessFlags := 9, nameIndex := 38, descriptorIndex := 39, attributes := #[] }] 49 2 #[] #[])
  fields := #[]
  methods := #[k1m0, k1m1, k1m2]
  instanceTypes := #[]
  staticTypes := #[]
  resolved := Array.replicate 44 none
  statics := none }

def pool2 : Array CpInfo := pool [(2, .class_ 4), (1, u "java/lang/Object"), (0, u "<init>"), (0, u "()V"), (0, .integer 55295), (0, .integer 63744), (0, .integer 64975), (0, .integer 65008), (0, .integer 65533), (0, .integer 65536), (0, .integer 983039), (0, .class_ 15), (0, u "com/example/tercet/tercet/XmlNameCharacters"), (2, u "isNameLetter"), (0, u "(I)Z")] 3

def k2m0 : Method := { name := "<init>", desc := "()V", sig := { parameters := [], returnType := none }, accessFlags := 2, code := none }
def k2c1 : Code := { maxStack := 2, maxLocals := 1, code := prog_21_method_2_code, exceptionTable := #[], attributes := #[] }
def k2m1 : Method := { name := "isNameLetter", desc := "(I)Z", sig := { parameters := [.int], returnType := some .boolean }, accessFlags := 9, code := some k2c1 }
/-- com/example/tercet/tercet/XmlNameCharacters -/
def k2 : Class := { plain "com/example/tercet/tercet/XmlNameCharacters" (some 0) with
  accessFlags := 49
  interfaces := #[]
  cf := some (fileOf pool2 14 #[] #[{ accessFlags := 2, nameIndex := 5, descriptorIndex := 6, attributes := #[] }, { accessFlags := 9, nameIndex := 18, descriptorIndex := 19, attributes := #[] }] 49 2 #[] #[])
  fields := #[]
  methods := #[k2m0, k2m1]
  instanceTypes := #[]
  staticTypes := #[]
  resolved := Array.replicate 23 none
  statics := none }

def pool3 : Array CpInfo := pool [(1, u "java/lang/Cloneable"), (0, .class_ 1), (0, u "java/lang/Object"), (0, .class_ 3)] 3

/-- java/lang/Cloneable -/
def k3 : Class := { plain "java/lang/Cloneable" (some 0) with
  accessFlags := 1537
  interfaces := #[]
  cf := some (fileOf pool3 2 #[] #[] 1537 4 #[] #[])
  fields := #[]
  methods := #[]
  instanceTypes := #[]
  staticTypes := #[]
  resolved := Array.replicate 8 none
  statics := none }

def pool4 : Array CpInfo := pool [(1, u "java/io/Serializable"), (0, .class_ 1), (0, u "java/lang/Object"), (0, .class_ 3)] 3

/-- java/io/Serializable -/
def k4 : Class := { plain "java/io/Serializable" (some 0) with
  accessFlags := 1537
  interfaces := #[]
  cf := some (fileOf pool4 2 #[] #[] 1537 4 #[] #[])
  fields := #[]
  methods := #[]
  instanceTypes := #[]
  staticTypes := #[]
  resolved := Array.replicate 8 none
  statics := none }

/-- the primitive byte -/
def k5 : Class := { plain "byte" none with kind := .primitive 'B', accessFlags := 0x411 }
/-- [B -/
def k6 : Class := { plain "[B" (some 0) with kind := .array 5 .byte, interfaces := #[3, 4], accessFlags := 1041 }

/-- the primitive int -/
def k7 : Class := { plain "int" none with kind := .primitive 'I', accessFlags := 0x411 }
/-- [I -/
def k8 : Class := { plain "[I" (some 0) with kind := .array 7 .int, interfaces := #[3, 4], accessFlags := 1041 }

def heap : Heap := #[]
def classes : Array Class := #[k0, k1, k2, k3, k4, k5, k6, k7, k8]
def interned : List (Array UInt16 × Addr) := []
def slotsUsed : Nat := 0
def theMethod : MethodId := ⟨1, 2⟩
def args0 : Array Value := #[.int 5, .int 6, .int 7, .int 8]
def aboutOver (below : List Frame) : State where
  vm := { classes := classes, interned := interned.toArray }
  heap := heap
  slotsUsed := slotsUsed
  threads := #[{ frames := .invoking theMethod args0 :: below }]
def below0 : List Frame := [.native { method := ⟨0, 0⟩, args := #[] }]
def about1 : State := aboutOver below0
def p0 : Program := .bare "" "" ""
def e0 : Env := launch0.env 0 0 0
theorem w_frames : about1.frames = Frame.invoking theMethod args0 :: below0 := rfl
set_option maxRecDepth 65536 in
theorem w_args : argsFit about1.vm theMethod args0 = true := by decide +kernel
set_option maxRecDepth 65536 in
theorem w_heap : heapFits about1 = true := by decide +kernel
set_option maxRecDepth 65536 in
theorem w_runnable : about1.curStatus? = some .runnable := by decide +kernel
set_option maxRecDepth 65536 in
theorem w_alone : about1.alone = true := by decide +kernel
set_option maxRecDepth 65536 in
theorem w_named : about1.methodNamed? x = some theMethod := by decide +kernel
set_option maxRecDepth 65536 in
theorem w_hears : about1.hears theMethod below0 = true := by decide +kernel
set_option maxRecDepth 65536 in
theorem w_ripe : about1.ripe theMethod args0 below0 = true := by decide +kernel
theorem w_running : about1.status = .running := rfl
set_option maxRecDepth 65536 in
theorem w_room : about1.hasRoom e0.platform room_1 = true :=
  launch0.hasRoom_least _ room_1 (by decide +kernel) (by decide +kernel) (by decide +kernel) (by decide +kernel) (by decide +kernel) (by decide +kernel)
theorem allAtoms_all (ts : List Jvm.Cond) (a : Array Jvm.Value) (st : Jvm.State) : (allAtoms ts).before a st = ts.all (fun c => c.before a st) := by
  induction ts with
  | nil => rfl
  | cons c t ih =>
    show (Jvm.Cond.and c (allAtoms t)).before a st = _
    rw [Jvm.Cond.before_and, ih, List.all_cons]
def words1 : List Jvm.Cond := Jvm.Cond.code x code maxLocals ret :: tables_1
/-- a 'code' word, met by the world's own term for the bytes: nothing is compared byte by byte -/
theorem code_word {y : MethodName} {bytes : ByteArray} {mx : Nat} {rt : Option FieldType} {a : Array Value} {s : State} {m : MethodId} {meth : Method} {c : Code} (h1 : s.methodNamed? y = some m) (h2 : s.vm.method? m = some meth) (h3 : meth.code = some c) (h4 : c.code = bytes)
    (h5 : (c.maxLocals == mx && c.exceptionTable.isEmpty && decide (c.maxStack ≤ mostOperands) && decide (meth.sig.returnType = rt) && !meth.locks && decide (parseMethodDescriptor y.desc = some meth.sig)) = true) : (Jvm.Cond.code y bytes mx rt).before a s = true := by
  simp only [Bool.and_eq_true, beq_iff_eq, Bool.not_eq_true', decide_eq_true_eq] at h5
  obtain ⟨⟨⟨⟨⟨g1, g2⟩, g3⟩, g4⟩, g5⟩, g6⟩ := h5
  simp [Cond.before, Cond.holds, Cond.value, h1, h2, h3, h4, g1, g2, g3, g4, g5, g6]
def isCode : Jvm.Cond → Bool
  | .code _ _ _ _ => true
  | _ => false
theorem all_split {L : List Jvm.Cond} {P : Jvm.Cond → Bool} (h1 : L.all (fun c => isCode c || P c) = true) (h2 : ∀ c ∈ L.filter isCode, P c = true) : L.all P = true := by
  refine List.all_eq_true.mpr fun c hc => ?_
  have h := List.all_eq_true.mp h1 c hc
  rcases Bool.eq_false_or_eq_true (isCode c) with hi | hi
  · exact h2 c (List.mem_filter.mpr ⟨hc, hi⟩)
  · simpa [hi] using h
set_option maxRecDepth 65536 in
theorem w_c0 : (Jvm.Cond.code x code maxLocals ret).before args0 about1 = true := code_word (m := ⟨1, 2⟩) (meth := k1m2) (c := k1c2) (by decide +kernel) rfl rfl rfl (by decide +kernel)
set_option maxRecDepth 65536 in
theorem w_c1 : (Jvm.Cond.code ({ cls := "com/example/tercet/tercet/XmlNameCharacters", name := "isNameLetter", desc := "(I)Z" } : Jvm.MethodName) prog_21_method_2_code (1 : Nat) (Option.some Jvm.ClassFile.FieldType.boolean)).before args0 about1 = true := code_word (m := ⟨2, 1⟩) (meth := k2m1) (c := k2c1) (by decide +kernel) rfl rfl rfl (by decide +kernel)
set_option maxRecDepth 65536 in
theorem w_c2 : (Jvm.Cond.code ({ cls := "com/example/tercet/tercet/XmlNameCharactersIsNameLetterPinLaw", name := "excluded", desc := "(I)Z" } : Jvm.MethodName) method_2_code (1 : Nat) (Option.some Jvm.ClassFile.FieldType.boolean)).before args0 about1 = true := code_word (m := ⟨1, 1⟩) (meth := k1m1) (c := k1c1) (by decide +kernel) rfl rfl rfl (by decide +kernel)
def codes1 : List Jvm.Cond := [Jvm.Cond.code x code maxLocals ret, Jvm.Cond.code ({ cls := "com/example/tercet/tercet/XmlNameCharacters", name := "isNameLetter", desc := "(I)Z" } : Jvm.MethodName) prog_21_method_2_code (1 : Nat) (Option.some Jvm.ClassFile.FieldType.boolean), Jvm.Cond.code ({ cls := "com/example/tercet/tercet/XmlNameCharactersIsNameLetterPinLaw", name := "excluded", desc := "(I)Z" } : Jvm.MethodName) method_2_code (1 : Nat) (Option.some Jvm.ClassFile.FieldType.boolean)]
set_option maxRecDepth 65536 in
theorem codes_eq : words1.filter isCode = codes1 := rfl
theorem w_codes : ∀ c ∈ words1.filter isCode, c.before args0 about1 = true := by
  rw [codes_eq]
  intro c hc
  simp only [codes1, List.mem_cons, List.not_mem_nil, or_false] at hc
  rcases hc with rfl | rfl | rfl
  · exact w_c0
  · exact w_c1
  · exact w_c2
set_option maxRecDepth 65536 in
theorem w_t1 : (words1.take 24).all (fun c => isCode c || c.before args0 about1) = true := by decide +kernel
set_option maxRecDepth 65536 in
theorem w_t2 : (words1.drop 24).all (fun c => isCode c || c.before args0 about1) = true := by decide +kernel
theorem w_tables : (allAtoms (Jvm.Cond.code x code maxLocals ret :: tables_1)).before args0 about1 = true := by
  rw [allAtoms_all]
  show words1.all (fun c => c.before args0 about1) = true
  refine all_split ?_ w_codes
  rw [← List.take_append_drop 24 words1, List.all_append, w_t1, w_t2]
  rfl
set_option maxRecDepth 65536 in
theorem w_case : (Jvm.Cond.and given_1 narrow_1).before args0 about1 = true := by decide +kernel
theorem w_applies : (headSpec (Jvm.Cond.code x code maxLocals ret :: tables_1) room_1).applies x e0.platform about1 = true :=
  (Spec.applies_iff w_frames).mpr ⟨w_running, w_runnable, w_alone, w_named, w_hears, w_ripe, w_room, w_tables⟩
theorem atStart : AtStart classFile x code maxLocals ret World_1 tables_1 room_1 Calls_1 rest_1 Pre_1 launch0 p0 e0 about1 theMethod args0 below0 :=
  ⟨lists_1, trivial, launch0.admits_env _ _ _, launch0.least_env, fairChoices_fair.cas, fairChoices_fair.clock, w_frames, w_args, w_heap, w_applies, trivial, trivial, w_case⟩
end start1
theorem witness_1 : WitnessClaimed_1 := ⟨start1.p0, start1.e0, start1.about1, start1.theMethod, start1.args0, start1.below0, start1.atStart⟩
end Jvm.Pilot.@@N@@
