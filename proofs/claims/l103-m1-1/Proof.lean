import JvmDerived
import JvmDerived.Pilot.@@N@@Statement
import JvmDerived.Pilot.@@N@@Code
set_option linter.unusedVariables false
set_option linter.unusedSimpArgs false
@@BLOCK:NumsL.lean.txt@@
namespace Jvm.Pilot.@@N@@
open Jvm Jvm.ClassFile Sem Op Lib Jvm.Free Jvm.Stand Jvm.LawKit Jvm.RoadKit Bundle Jvm.Pilot.@@N@@.Jvm.D
section OwnKit
variable {p : Program} {l : Launch} {e : Env} {R : Room} {s : State} {m : MethodId} {args : Array Value} {below : List Frame} {meth : Method} {c : Code} {T : State} {locs : List Loc} {cells slots : Nat} {n0 cc nn : Nat} {K : Option Value → Heap → Prop} {P : Heap → Prop} {A B : State}
/-- what a contract says of the value, the heap and the places written -/
def QK (n0 : Nat) (K : Option Value → Heap → Prop) (v : Option Value) (h : Heap) (L : List Loc) : Prop := K v h ∧ Fr n0 L
def Kv (w : Option Value) (P : Heap → Prop) (v : Option Value) (h : Heap) : Prop := v = w ∧ P h
/-- from A the run comes to this body's end, and K holds there -/
def Gl (p : Program) (e : Env) (below : List Frame) (s : State) (n0 cc nn : Nat) (K : Option Value → Heap → Prop) (A : State) : Prop :=
  ∃ t o, Steps p.tables e below A t ∧ t.status = .running ∧ Ended t below o ∧ ∃ v L, o = .returned v ∧ QK n0 K v t.heap L ∧ FrameEnd s o t L cc nn
theorem go (st : ∀ t, Steps p.tables e below B t → Steps p.tables e below A t) (h : Gl p e below s n0 cc nn K B) : Gl p e below s n0 cc nn K A := by
  obtain ⟨t, o, h1, h2⟩ := h; exact ⟨t, o, st t h1, h2⟩
theorem gl_start {g g' : JFrame} (q : g = g') (h : Gl p e below s n0 cc nn K (T.setTop g')) :
    ∃ t o, Steps p.tables e below (T.setTop g) t ∧ t.status = .running ∧ Ended t below o ∧ ∃ v L, o = .returned v ∧ QK n0 K v t.heap L ∧ FrameEnd s o t L cc nn := by
  subst q; exact h
theorem gI {c : Prop} [Decidable c] {a b : Int32} (h1 : c → Gl p e below s n0 cc nn (Kv (some (.int a)) P) A) (h2 : ¬ c → Gl p e below s n0 cc nn (Kv (some (.int b)) P) A) : Gl p e below s n0 cc nn (Kv (some (.int (if c then a else b))) P) A := by
  by_cases h : c
  · rw [if_pos h]; exact h1 h
  · rw [if_neg h]; exact h2 h
theorem gJ {c : Prop} [Decidable c] {a b : Int64} (h1 : c → Gl p e below s n0 cc nn (Kv (some (.long a)) P) A) (h2 : ¬ c → Gl p e below s n0 cc nn (Kv (some (.long b)) P) A) : Gl p e below s n0 cc nn (Kv (some (.long (if c then a else b))) P) A := by
  by_cases h : c
  · rw [if_pos h]; exact h1 h
  · rw [if_neg h]; exact h2 h
theorem gR {c : Prop} [Decidable c] {a b : Addr} (h1 : c → Gl p e below s n0 cc nn (Kv (some (.ref a)) P) A) (h2 : ¬ c → Gl p e below s n0 cc nn (Kv (some (.ref b)) P) A) : Gl p e below s n0 cc nn (Kv (some (.ref (if c then a else b))) P) A := by
  by_cases h : c
  · rw [if_pos h]; exact h1 h
  · rw [if_neg h]; exact h2 h
theorem gV {c : Prop} [Decidable c] (h1 : c → Gl p e below s n0 cc nn K A) (h2 : ¬ c → Gl p e below s n0 cc nn K A) : Gl p e below s n0 cc nn K A := by
  by_cases h : c
  · exact h1 h
  · exact h2 h
variable {x : MethodName} {S : Spec} {code' : ByteArray} {ml : Nat} {s₁ : State} {pc : Nat} {Ls : Array Slot} {rest : List Value}
theorem endN (X : Stand p l e R s m args below meth c T locs cells slots) (hx : p.tables.exec = Jvm.exec) {t : FieldType} (Bd : BodyLoose p l x S code' ml (some t) e s m args below meth c s₁) (ht : t = .boolean ∨ t = .byte ∨ t = .char ∨ t = .short) {z : Int32}
    (hd : decode c.code pc = .ok (.ireturn, 1)) (hK : K (some (.int (nar t z))) T.heap) (N : Fr n0 locs) (hc : cells ≤ cc) (hs : slots ≤ nn) : Gl p e below s n0 cc nn K (T.setTop (mkF m pc Ls (.int z :: rest))) := by
  obtain ⟨fs, hr, hrun, hended, hW, hsame⟩ := X.leave (v := some (.int (nar t z))) (fun h => by rw [Bd.returns] at h; cases h)
  exact ⟨_, _, retN X hx Bd.returns ht hd hr, hrun, hended, _, _, rfl, ⟨hK, N⟩, ⟨_, rfl⟩, hW, hsame.mono hc hs⟩
theorem endO (X : Stand p l e R s m args below meth c T locs cells slots) (hx : p.tables.exec = Jvm.exec) {t : FieldType} (Bd : BodyLoose p l x S code' ml (some t) e s m args below meth c s₁) {w : Value} {i : Instr} (hn : narrow t w = w)
    (hi : (i = .ireturn ∧ (t = .int ∨ t = .boolean ∨ t = .byte ∨ t = .char ∨ t = .short) ∧ ∃ z, w = .int z) ∨ (i = .lreturn ∧ t = .long ∧ ∃ z, w = .long z) ∨ (i = .dreturn ∧ t = .double ∧ ∃ z, w = .double z) ∨ (i = .freturn ∧ t = .float ∧ ∃ z, w = .float z) ∨ (i = .areturn ∧ t.isReference = true ∧ w.isRef = true))
    (hd : decode c.code pc = .ok (i, 1)) (hK : K (some w) T.heap) (N : Fr n0 locs) (hc : cells ≤ cc) (hs : slots ≤ nn) : Gl p e below s n0 cc nn K (T.setTop (mkF m pc Ls (w :: rest))) := by
  obtain ⟨fs, hr, hrun, hended, hW, hsame⟩ := X.leave (v := some w) (fun h => by rw [Bd.returns] at h; cases h)
  exact ⟨_, _, retOut X hx Bd.returns hn hi hd hr, hrun, hended, _, _, rfl, ⟨hK, N⟩, ⟨_, rfl⟩, hW, hsame.mono hc hs⟩
theorem endI (X : Stand p l e R s m args below meth c T locs cells slots) (hx : p.tables.exec = Jvm.exec) (Bd : BodyLoose p l x S code' ml (some .int) e s m args below meth c s₁) {z : Int32}
    (hd : decode c.code pc = .ok (.ireturn, 1)) (hK : K (some (.int z)) T.heap) (N : Fr n0 locs) (hc : cells ≤ cc) (hs : slots ≤ nn) : Gl p e below s n0 cc nn K (T.setTop (mkF m pc Ls (.int z :: rest))) :=
  endO X hx Bd rfl (Or.inl ⟨rfl, Or.inl rfl, z, rfl⟩) hd hK N hc hs
theorem endJ (X : Stand p l e R s m args below meth c T locs cells slots) (hx : p.tables.exec = Jvm.exec) (Bd : BodyLoose p l x S code' ml (some .long) e s m args below meth c s₁) {z : Int64}
    (hd : decode c.code pc = .ok (.lreturn, 1)) (hK : K (some (.long z)) T.heap) (N : Fr n0 locs) (hc : cells ≤ cc) (hs : slots ≤ nn) : Gl p e below s n0 cc nn K (T.setTop (mkF m pc Ls (.long z :: rest))) :=
  endO X hx Bd rfl (Or.inr (Or.inl ⟨rfl, rfl, z, rfl⟩)) hd hK N hc hs
theorem endR (X : Stand p l e R s m args below meth c T locs cells slots) (hx : p.tables.exec = Jvm.exec) {t : FieldType} (Bd : BodyLoose p l x S code' ml (some t) e s m args below meth c s₁) (ht : t.isReference = true) {a : Addr}
    (hd : decode c.code pc = .ok (.areturn, 1)) (hK : K (some (.ref a)) T.heap) (N : Fr n0 locs) (hc : cells ≤ cc) (hs : slots ≤ nn) : Gl p e below s n0 cc nn K (T.setTop (mkF m pc Ls (.ref a :: rest))) :=
  endO X hx Bd (by cases t <;> first | rfl | cases ht) (Or.inr (Or.inr (Or.inr (Or.inr ⟨rfl, ht, rfl⟩)))) hd hK N hc hs
theorem endV (X : Stand p l e R s m args below meth c T locs cells slots) (hx : p.tables.exec = Jvm.exec) (Bd : BodyLoose p l x S code' ml none e s m args below meth c s₁)
    (hd : decode c.code pc = .ok (.return_, 1)) (hK : K none T.heap) (N : Fr n0 locs) (hc : cells ≤ cc) (hs : slots ≤ nn) : Gl p e below s n0 cc nn K (T.setTop (mkF m pc Ls [])) := by
  obtain ⟨fs, hr, hrun, hended, hW, hsame⟩ := X.leave (v := none) (fun _ => rfl)
  exact ⟨_, _, X.returnOut hx Bd.returns hd hr, hrun, hended, _, _, rfl, ⟨hK, N⟩, ⟨_, rfl⟩, hW, hsame.mono hc hs⟩
theorem lremM {g : JFrame} {target : State} (X : Stand p l e R s m args below meth c T locs cells slots) (hx : p.tables.exec = Jvm.exec) (hg : g.method = m) {x y : Int64} {rest : List Value} (hd : decode c.code g.pc = .ok (.lrem, 1)) (hs : g.stack = .long y :: .long x :: rest) (hy : y ≠ 0)
    (hr : Steps p.tables e below (T.setTop { g with pc := g.pc + 1, stack := .long (x % y) :: rest }) target) : Steps p.tables e below (T.setTop g) target := by
  have q := lrem_mod x y
  exact XS.lrem X.here hx hg hd hs hy (by rw [q]; exact hr)
theorem sta_keep {Z : State} {h h' : Heap} {a : Addr} {C n d D : String} {w : Value} (F : Sta Z h C n d w) (Kp : Keep h h' [a]) (E : Exa Z h a D) : Sta Z h' C n d w := by
  obtain ⟨cf, i, k, f, st, cell, h1, h2, h3, h4, h5, h6, h7⟩ := F
  obtain ⟨cell', k', e1, -, -, e4, -⟩ := E
  refine ⟨cf, i, k, f, st, cell, h1, h2, h3, h4, Kp.2.1 st cell h5 (ninS (fun q => ?_) nin0), h6, h7⟩
  subst q; cases h5.symm.trans e1; rw [h6] at e4; cases e4
theorem sta_keepN {Z : State} {h h' : Heap} {ws : List Addr} {C n d : String} {w : Value} (F : Sta Z h C n d w) (Kp : Keep h h' ws) (hn : ∀ x ∈ ws, ∀ cell : Cell, h[x]? = some cell → cell.vm.isStatics = false) : Sta Z h' C n d w := by
  obtain ⟨cf, i, k, f, st, cell, h1, h2, h3, h4, h5, h6, h7⟩ := F
  refine ⟨cf, i, k, f, st, cell, h1, h2, h3, h4, Kp.2.1 st cell h5 (fun q => ?_), h6, h7⟩
  have := hn st q cell h5
  rw [h6] at this; cases this
theorem sta_keep0 {Z : State} {h h' : Heap} {C n d : String} {w : Value} (F : Sta Z h C n d w) (Kp : Keep h h' []) : Sta Z h' C n d w := by
  obtain ⟨cf, i, k, f, st, cell, h1, h2, h3, h4, h5, h6, h7⟩ := F
  exact ⟨cf, i, k, f, st, cell, h1, h2, h3, h4, Kp.2.1 st cell h5 nin0, h6, h7⟩
theorem sel_priv {Z s : State} {a0 args : Array Value} {y : MethodName} {n : Nat} (hZ : Z.Warmed39 s.vm) (wi : (Cond.instantiable y.cls n).before a0 Z = true) (wp : (Cond.privateMethod y).before a0 Z = true) (wm : (Cond.instanceMethod y).before a0 Z = true) (hy : y.cls ≠ "java/lang/invoke/MethodHandle" ∧ y.cls ≠ "java/lang/invoke/VarHandle") : (Cond.selects y.cls y y).before args s = true := by
  obtain ⟨c, k, h1, h2, -, h4, -⟩ := Cond.instantiable_spec (show (Cond.instantiable y.cls n).before args s = true from mvT hZ wi)
  exact Jvm.Stand.selects_self_of_private h1 h2 (by simp only [Bool.or_eq_false_iff] at h4; exact h4.1) (Cond.privateMethod_at (mvP hZ wp (args := args))) (mvT hZ wm) hy
theorem eqL_v {t : Term} {k : Int64} {a0 : Array Value} {first u : State} {o : Option Outcome} {idx : List Nat} (h : (Cond.eq t (.long k)).value a0 first o u idx = some true) : t.eval a0 first o idx u = some (.long k) := by
  simp only [Cond.value, Term.eval] at h
  cases ht : t.eval a0 first o idx u with
  | none => simp [ht] at h
  | some x => cases x <;> simp [ht] at h ⊢; exact h
theorem eqI_v {t : Term} {k : Int32} {a0 : Array Value} {first u : State} {o : Option Outcome} {idx : List Nat} (h : (Cond.eq t (.int k)).value a0 first o u idx = some true) : t.eval a0 first o idx u = some (.int k) := by
  simp only [Cond.value, Term.eval] at h
  cases ht : t.eval a0 first o idx u with
  | none => simp [ht] at h
  | some x => cases x <;> simp [ht] at h ⊢; exact h
end OwnKit
def own_pks : List Int32 := [nar .byte (60 : Int32), nar .byte (32 : Int32), nar .byte (9 : Int32), nar .byte (13 : Int32), nar .byte (10 : Int32), nar .byte (0 : Int32), nar .byte (-17 : Int32), nar .byte (-69 : Int32), nar .byte (-65 : Int32), nar .byte (-2 : Int32), nar .byte (-1 : Int32)]
def own_pk (j : Int32) : Int32 := own_pks.getD j.toNatClampNeg 0
theorem own_getD : ∀ (l : List Int32) (k : Nat), (l.map Value.int).getD k (.int (0 : Int32)) = .int (l.getD k 0)
  | [], _ => rfl
  | _ :: _, 0 => rfl
  | _ :: t, k + 1 => own_getD t k
theorem own_idx {a : Int32} (h : (a &&& (15 : Int32)) < (11 : Int32)) : ¬ ((a &&& (15 : Int32)) < 0) ∧ (a &&& (15 : Int32)) < (11 : Int32) := by
  have e2 := Jvm.Kit.i32_mask a 15 (k := 4) (by decide) (by decide)
  refine ⟨?_, h⟩
  rw [Int32.lt_iff_toInt_lt, e2]; simp only [Int32.reduceToInt]; omega
theorem own_hat {c : Cell} {j : Int32} (Hh : Has c [(.int (nar .byte (60 : Int32))), (.int (nar .byte (32 : Int32))), (.int (nar .byte (9 : Int32))), (.int (nar .byte (13 : Int32))), (.int (nar .byte (10 : Int32))), (.int (nar .byte (0 : Int32))), (.int (nar .byte (-17 : Int32))), (.int (nar .byte (-69 : Int32))), (.int (nar .byte (-65 : Int32))), (.int (nar .byte (-2 : Int32))), (.int (nar .byte (-1 : Int32)))] (.int (0 : Int32))) (hj : ¬ j < 0 ∧ j < (11 : Int32)) (S : c.slots.size = (11 : Int32).toNatClampNeg) : c.slots[j.toNatClampNeg]? = some (.int (own_pk j)) := by
  have h := inb_of S hj
  have q := Hh j.toNatClampNeg (by omega)
  exact q.trans (congrArg some (own_getD own_pks _))
theorem d1_0 : decode method_2_code 0 = .ok (.bipush 11, 2) := by decide +kernel
theorem d1_2 : decode method_2_code 2 = .ok (.newarray .byte, 2) := by decide +kernel
theorem d1_4 : decode method_2_code 4 = .ok (.dup, 1) := by decide +kernel
theorem d1_5 : decode method_2_code 5 = .ok (.iconst 0, 1) := by decide +kernel
theorem d1_6 : decode method_2_code 6 = .ok (.bipush 60, 2) := by decide +kernel
theorem d1_8 : decode method_2_code 8 = .ok (.bastore, 1) := by decide +kernel
theorem d1_9 : decode method_2_code 9 = .ok (.dup, 1) := by decide +kernel
theorem d1_10 : decode method_2_code 10 = .ok (.iconst 1, 1) := by decide +kernel
theorem d1_11 : decode method_2_code 11 = .ok (.bipush 32, 2) := by decide +kernel
theorem d1_13 : decode method_2_code 13 = .ok (.bastore, 1) := by decide +kernel
theorem d1_14 : decode method_2_code 14 = .ok (.dup, 1) := by decide +kernel
theorem d1_15 : decode method_2_code 15 = .ok (.iconst 2, 1) := by decide +kernel
theorem d1_16 : decode method_2_code 16 = .ok (.bipush 9, 2) := by decide +kernel
theorem d1_18 : decode method_2_code 18 = .ok (.bastore, 1) := by decide +kernel
theorem d1_19 : decode method_2_code 19 = .ok (.dup, 1) := by decide +kernel
theorem d1_20 : decode method_2_code 20 = .ok (.iconst 3, 1) := by decide +kernel
theorem d1_21 : decode method_2_code 21 = .ok (.bipush 13, 2) := by decide +kernel
theorem d1_23 : decode method_2_code 23 = .ok (.bastore, 1) := by decide +kernel
theorem d1_24 : decode method_2_code 24 = .ok (.dup, 1) := by decide +kernel
theorem d1_25 : decode method_2_code 25 = .ok (.iconst 4, 1) := by decide +kernel
theorem d1_26 : decode method_2_code 26 = .ok (.bipush 10, 2) := by decide +kernel
theorem d1_28 : decode method_2_code 28 = .ok (.bastore, 1) := by decide +kernel
theorem d1_29 : decode method_2_code 29 = .ok (.dup, 1) := by decide +kernel
theorem d1_30 : decode method_2_code 30 = .ok (.iconst 5, 1) := by decide +kernel
theorem d1_31 : decode method_2_code 31 = .ok (.iconst 0, 1) := by decide +kernel
theorem d1_32 : decode method_2_code 32 = .ok (.bastore, 1) := by decide +kernel
theorem d1_33 : decode method_2_code 33 = .ok (.dup, 1) := by decide +kernel
theorem d1_34 : decode method_2_code 34 = .ok (.bipush 6, 2) := by decide +kernel
theorem d1_36 : decode method_2_code 36 = .ok (.bipush (-17), 2) := by decide +kernel
theorem d1_38 : decode method_2_code 38 = .ok (.bastore, 1) := by decide +kernel
theorem d1_39 : decode method_2_code 39 = .ok (.dup, 1) := by decide +kernel
theorem d1_40 : decode method_2_code 40 = .ok (.bipush 7, 2) := by decide +kernel
theorem d1_42 : decode method_2_code 42 = .ok (.bipush (-69), 2) := by decide +kernel
theorem d1_44 : decode method_2_code 44 = .ok (.bastore, 1) := by decide +kernel
theorem d1_45 : decode method_2_code 45 = .ok (.dup, 1) := by decide +kernel
theorem d1_46 : decode method_2_code 46 = .ok (.bipush 8, 2) := by decide +kernel
theorem d1_48 : decode method_2_code 48 = .ok (.bipush (-65), 2) := by decide +kernel
theorem d1_50 : decode method_2_code 50 = .ok (.bastore, 1) := by decide +kernel
theorem d1_51 : decode method_2_code 51 = .ok (.dup, 1) := by decide +kernel
theorem d1_52 : decode method_2_code 52 = .ok (.bipush 9, 2) := by decide +kernel
theorem d1_54 : decode method_2_code 54 = .ok (.bipush (-2), 2) := by decide +kernel
theorem d1_56 : decode method_2_code 56 = .ok (.bastore, 1) := by decide +kernel
theorem d1_57 : decode method_2_code 57 = .ok (.dup, 1) := by decide +kernel
theorem d1_58 : decode method_2_code 58 = .ok (.bipush 10, 2) := by decide +kernel
theorem d1_60 : decode method_2_code 60 = .ok (.iconst (-1), 1) := by decide +kernel
theorem d1_61 : decode method_2_code 61 = .ok (.bastore, 1) := by decide +kernel
theorem d1_62 : decode method_2_code 62 = .ok (.astore_n 1, 1) := by decide +kernel
theorem d1_63 : decode method_2_code 63 = .ok (.iload_n 0, 1) := by decide +kernel
theorem d1_64 : decode method_2_code 64 = .ok (.bipush 15, 2) := by decide +kernel
theorem d1_66 : decode method_2_code 66 = .ok (.iand, 1) := by decide +kernel
theorem d1_67 : decode method_2_code 67 = .ok (.istore_n 2, 1) := by decide +kernel
theorem d1_68 : decode method_2_code 68 = .ok (.iload_n 2, 1) := by decide +kernel
theorem d1_69 : decode method_2_code 69 = .ok (.bipush 11, 2) := by decide +kernel
theorem d1_71 : decode method_2_code 71 = .ok (.if_icmp .ge 7, 3) := by decide +kernel
theorem d1_74 : decode method_2_code 74 = .ok (.aload_n 1, 1) := by decide +kernel
theorem d1_75 : decode method_2_code 75 = .ok (.iload_n 2, 1) := by decide +kernel
theorem d1_76 : decode method_2_code 76 = .ok (.baload, 1) := by decide +kernel
theorem d1_77 : decode method_2_code 77 = .ok (.ireturn, 1) := by decide +kernel
theorem d1_78 : decode method_2_code 78 = .ok (.iload_n 0, 1) := by decide +kernel
theorem d1_79 : decode method_2_code 79 = .ok (.iconst 4, 1) := by decide +kernel
theorem d1_80 : decode method_2_code 80 = .ok (.iushr, 1) := by decide +kernel
theorem d1_81 : decode method_2_code 81 = .ok (.i2b, 1) := by decide +kernel
theorem d1_82 : decode method_2_code 82 = .ok (.ireturn, 1) := by decide +kernel
theorem pn_0 : plainName "com/example/policylint/policylint/PolicySyntaxOfPinLaw" = true := by first | (simp [plainName, overriddenIn]; done) | decide +kernel
theorem ef_1 (m : MethodId) (p1 : Int32) : entryFrame m #[(.int p1)] 3 = mkF m 0 #[.val (.int p1), .unset, .unset] [] := by first | (simp [entryFrame, mkF, argsToLocals, Value.category]; done) | rfl
def b1_0 (p1 : Int32) : Int32 := (if (p1 &&& (15 : Int32)) < (11 : Int32) then (nar .byte (own_pk (p1 &&& (15 : Int32)))) else (nar .byte (((p1.toUInt32 >>> ((4 : Int32) &&& 31).toUInt32).toInt32).toInt8.toInt32)))
set_option maxRecDepth 65536 in
set_option maxHeartbeats 40000000 in
theorem rm1 (l : Launch) (Z : State) (a0 : Array Value) (hw : ∀ d ∈ tables_1, d.before a0 Z = true) (ws : List Jvm.Cond) (p1 : Int32) (h0 : Heap) (n0 : Nat) (Z0 : n0 ≤ h0.size) :
    MetFree l (⟨"com/example/policylint/policylint/PolicySyntaxOfPinLaw", "pick", "(I)B"⟩ : MethodName) (head1 (Jvm.Cond.code (⟨"com/example/policylint/policylint/PolicySyntaxOfPinLaw", "pick", "(I)B"⟩ : MethodName) method_2_code 3 (some .byte) :: ws) ({ frames := 0, cells := 1, slots := 11, locals := 0 } : Room)) (fun a U => a = #[(.int p1)] ∧ Z.Warmed39 U.vm ∧ U.heap = h0) (fun _ _ _ _ _ => True) (fun _ U o U' => ∃ v L, o = .returned v ∧ QK n0 (Kv (some (.int (b1_0 p1))) (fun h => Keep h0 h [])) v U'.heap L ∧ FrameEnd U o U' L ({ frames := 0, cells := 1, slots := 11, locals := 0 } : Room).cells ({ frames := 0, cells := 1, slots := 11, locals := 0 } : Room).slots) := by
  refine MetFree.of_bodySF (plainFor_of_name pn_0) hisR ?_
  intro p e s m args below meth c s₁ Bd hml0 hP hK
  obtain ⟨rfl, hZ, hh⟩ := hP
  have hx := Bd.exec
  have hby := Bd.bytes
  have hml : c.maxLocals = 3 := hml0
  have hown : s.vm.findClass "com/example/policylint/policylint/PolicySyntaxOfPinLaw" = some m.cls := findClass_of_methodNamed Bd.named
  have hnm := (name_of_methodNamed Bd.named Bd.method).1
  have X0 : Stand p l e ({ frames := 0, cells := 1, slots := 11, locals := 0 } : Room) s m #[(.int p1)] below meth c s₁ [] 0 0 := Stand.of_body Bd
  have e0 : s₁.heap = h0 := by rw [← hh, Bd.state]; rfl
  have N0 := Fr.nil n0
  refine gl_start (ef_1 m p1) ?_
  show Gl p e below s n0 ({ frames := 0, cells := 1, slots := 11, locals := 0 } : Room).cells ({ frames := 0, cells := 1, slots := 11, locals := 0 } : Room).slots (Kv (some (.int (if (p1 &&& (15 : Int32)) < (11 : Int32) then (nar .byte (own_pk (p1 &&& (15 : Int32)))) else (nar .byte (((p1.toUInt32 >>> ((4 : Int32) &&& 31).toUInt32).toInt32).toInt8.toInt32))))) (fun h => Keep h0 h [])) (s₁.setTop (mkF m 0 #[.val (.int p1), .unset, .unset] []))
  refine go (fun t k => XS.bipush X0.here hx rfl (hb hby d1_0) k) ?_
  show Gl _ _ _ _ _ _ _ _ (s₁.setTop (mkF m 2 #[.val (.int p1), .unset, .unset] [(.int (11 : Int32))]))
  obtain ⟨T1, h1, k1, X1, e1, E1, A1, st1⟩ := newP X0 hx hZ (hw _ (List.mem_of_getElem? (i := 5) rfl)) e0 (g := (mkF m 2 #[.val (.int p1), .unset, .unset] [(.int (11 : Int32))])) rfl (hb hby d1_2) rfl (by decide) (cap := 11) (by decide) (by decide) (by decide) (by decide)
  obtain ⟨o1, gq1⟩ : ∃ z, z = h0.size := ⟨_, rfl⟩
  rw [← gq1] at A1 st1
  have g_o1 : n0 ≤ o1 := Nat.le_trans Z0 (Nat.le_of_eq gq1.symm)
  have V_o1 : Arv Z h1 o1 k1 .byte (11 : Int32) [(.int (0 : Int32)), (.int (0 : Int32)), (.int (0 : Int32)), (.int (0 : Int32)), (.int (0 : Int32)), (.int (0 : Int32)), (.int (0 : Int32)), (.int (0 : Int32)), (.int (0 : Int32)), (.int (0 : Int32)), (.int (0 : Int32))] (.int (0 : Int32)) := (Arv.new A1 (by decide)).pad (pad_rep [] (.int (0 : Int32)) 11)
  have K1 : Keep h0 h1 [] := (Keep.refl h0 []).ext E1
  have sz_o1 : h0.size ≤ o1 := Nat.le_trans (Keep.refl h0 []).1 (Nat.le_of_eq gq1.symm)
  refine go (fun t k => st1 _ k) ?_
  show Gl _ _ _ _ _ _ _ _ (T1.setTop (mkF m 4 #[.val (.int p1), .unset, .unset] [(.ref o1)]))
  refine go (fun t k => XS.dup X1.here hx rfl (hb hby d1_4) rfl rfl k) ?_
  show Gl _ _ _ _ _ _ _ _ (T1.setTop (mkF m 5 #[.val (.int p1), .unset, .unset] [(.ref o1), (.ref o1)]))
  refine go (fun t k => XS.iconst X1.here hx rfl (hb hby d1_5) k) ?_
  show Gl _ _ _ _ _ _ _ _ (T1.setTop (mkF m 6 #[.val (.int p1), .unset, .unset] [(.int (0 : Int32)), (.ref o1), (.ref o1)]))
  refine go (fun t k => XS.bipush X1.here hx rfl (hb hby d1_6) k) ?_
  show Gl _ _ _ _ _ _ _ _ (T1.setTop (mkF m 8 #[.val (.int p1), .unset, .unset] [(.int (60 : Int32)), (.int (0 : Int32)), (.ref o1), (.ref o1)]))
  obtain ⟨cl2, Ar2, vq2, S2, M2, Hh2, G2⟩ := id V_o1
  obtain ⟨T2, h2, X2, e2, W2, st2⟩ := stB X1 hx hZ e1 Ar2 (j := (0 : Int32)) (inb_of S2 ⟨by decide, by decide⟩) (g := (mkF m 8 #[.val (.int p1), .unset, .unset] [(.int (60 : Int32)), (.int (0 : Int32)), (.ref o1), (.ref o1)])) rfl rfl (hb hby d1_8)
  have V2 : Arv Z h2 o1 k1 .byte (11 : Int32) [(.int (nar .byte (60 : Int32))), (.int (0 : Int32)), (.int (0 : Int32)), (.int (0 : Int32)), (.int (0 : Int32)), (.int (0 : Int32)), (.int (0 : Int32)), (.int (0 : Int32)), (.int (0 : Int32)), (.int (0 : Int32)), (.int (0 : Int32))] (.int (0 : Int32)) := Arv.set Ar2 vq2 S2 M2 Hh2 G2 (fits_nar_byte _) W2 0 rfl (Nat.le_of_ble_eq_true rfl)
  have K2 : Keep h0 h2 [] := K1.wr W2 (Or.inr sz_o1)
  have N2 := Fr.snoc X2 N0 g_o1
  refine go (fun t k => st2 _ k) ?_
  show Gl _ _ _ _ _ _ _ _ (T2.setTop (mkF m 9 #[.val (.int p1), .unset, .unset] [(.ref o1)]))
  refine go (fun t k => XS.dup X2.here hx rfl (hb hby d1_9) rfl rfl k) ?_
  show Gl _ _ _ _ _ _ _ _ (T2.setTop (mkF m 10 #[.val (.int p1), .unset, .unset] [(.ref o1), (.ref o1)]))
  refine go (fun t k => XS.iconst X2.here hx rfl (hb hby d1_10) k) ?_
  show Gl _ _ _ _ _ _ _ _ (T2.setTop (mkF m 11 #[.val (.int p1), .unset, .unset] [(.int (1 : Int32)), (.ref o1), (.ref o1)]))
  refine go (fun t k => XS.bipush X2.here hx rfl (hb hby d1_11) k) ?_
  show Gl _ _ _ _ _ _ _ _ (T2.setTop (mkF m 13 #[.val (.int p1), .unset, .unset] [(.int (32 : Int32)), (.int (1 : Int32)), (.ref o1), (.ref o1)]))
  obtain ⟨cl3, Ar3, vq3, S3, M3, Hh3, G3⟩ := id V2
  obtain ⟨T3, h3, X3, e3, W3, st3⟩ := stB X2 hx hZ e2 Ar3 (j := (1 : Int32)) (inb_of S3 ⟨by decide, by decide⟩) (g := (mkF m 13 #[.val (.int p1), .unset, .unset] [(.int (32 : Int32)), (.int (1 : Int32)), (.ref o1), (.ref o1)])) rfl rfl (hb hby d1_13)
  have V3 : Arv Z h3 o1 k1 .byte (11 : Int32) [(.int (nar .byte (60 : Int32))), (.int (nar .byte (32 : Int32))), (.int (0 : Int32)), (.int (0 : Int32)), (.int (0 : Int32)), (.int (0 : Int32)), (.int (0 : Int32)), (.int (0 : Int32)), (.int (0 : Int32)), (.int (0 : Int32)), (.int (0 : Int32))] (.int (0 : Int32)) := Arv.set Ar3 vq3 S3 M3 Hh3 G3 (fits_nar_byte _) W3 1 rfl (Nat.le_of_ble_eq_true rfl)
  have K3 : Keep h0 h3 [] := K2.wr W3 (Or.inr sz_o1)
  have N3 := Fr.snoc X3 N2 g_o1
  refine go (fun t k => st3 _ k) ?_
  show Gl _ _ _ _ _ _ _ _ (T3.setTop (mkF m 14 #[.val (.int p1), .unset, .unset] [(.ref o1)]))
  refine go (fun t k => XS.dup X3.here hx rfl (hb hby d1_14) rfl rfl k) ?_
  show Gl _ _ _ _ _ _ _ _ (T3.setTop (mkF m 15 #[.val (.int p1), .unset, .unset] [(.ref o1), (.ref o1)]))
  refine go (fun t k => XS.iconst X3.here hx rfl (hb hby d1_15) k) ?_
  show Gl _ _ _ _ _ _ _ _ (T3.setTop (mkF m 16 #[.val (.int p1), .unset, .unset] [(.int (2 : Int32)), (.ref o1), (.ref o1)]))
  refine go (fun t k => XS.bipush X3.here hx rfl (hb hby d1_16) k) ?_
  show Gl _ _ _ _ _ _ _ _ (T3.setTop (mkF m 18 #[.val (.int p1), .unset, .unset] [(.int (9 : Int32)), (.int (2 : Int32)), (.ref o1), (.ref o1)]))
  obtain ⟨cl4, Ar4, vq4, S4, M4, Hh4, G4⟩ := id V3
  obtain ⟨T4, h4, X4, e4, W4, st4⟩ := stB X3 hx hZ e3 Ar4 (j := (2 : Int32)) (inb_of S4 ⟨by decide, by decide⟩) (g := (mkF m 18 #[.val (.int p1), .unset, .unset] [(.int (9 : Int32)), (.int (2 : Int32)), (.ref o1), (.ref o1)])) rfl rfl (hb hby d1_18)
  have V4 : Arv Z h4 o1 k1 .byte (11 : Int32) [(.int (nar .byte (60 : Int32))), (.int (nar .byte (32 : Int32))), (.int (nar .byte (9 : Int32))), (.int (0 : Int32)), (.int (0 : Int32)), (.int (0 : Int32)), (.int (0 : Int32)), (.int (0 : Int32)), (.int (0 : Int32)), (.int (0 : Int32)), (.int (0 : Int32))] (.int (0 : Int32)) := Arv.set Ar4 vq4 S4 M4 Hh4 G4 (fits_nar_byte _) W4 2 rfl (Nat.le_of_ble_eq_true rfl)
  have K4 : Keep h0 h4 [] := K3.wr W4 (Or.inr sz_o1)
  have N4 := Fr.snoc X4 N3 g_o1
  refine go (fun t k => st4 _ k) ?_
  show Gl _ _ _ _ _ _ _ _ (T4.setTop (mkF m 19 #[.val (.int p1), .unset, .unset] [(.ref o1)]))
  refine go (fun t k => XS.dup X4.here hx rfl (hb hby d1_19) rfl rfl k) ?_
  show Gl _ _ _ _ _ _ _ _ (T4.setTop (mkF m 20 #[.val (.int p1), .unset, .unset] [(.ref o1), (.ref o1)]))
  refine go (fun t k => XS.iconst X4.here hx rfl (hb hby d1_20) k) ?_
  show Gl _ _ _ _ _ _ _ _ (T4.setTop (mkF m 21 #[.val (.int p1), .unset, .unset] [(.int (3 : Int32)), (.ref o1), (.ref o1)]))
  refine go (fun t k => XS.bipush X4.here hx rfl (hb hby d1_21) k) ?_
  show Gl _ _ _ _ _ _ _ _ (T4.setTop (mkF m 23 #[.val (.int p1), .unset, .unset] [(.int (13 : Int32)), (.int (3 : Int32)), (.ref o1), (.ref o1)]))
  obtain ⟨cl5, Ar5, vq5, S5, M5, Hh5, G5⟩ := id V4
  obtain ⟨T5, h5, X5, e5, W5, st5⟩ := stB X4 hx hZ e4 Ar5 (j := (3 : Int32)) (inb_of S5 ⟨by decide, by decide⟩) (g := (mkF m 23 #[.val (.int p1), .unset, .unset] [(.int (13 : Int32)), (.int (3 : Int32)), (.ref o1), (.ref o1)])) rfl rfl (hb hby d1_23)
  have V5 : Arv Z h5 o1 k1 .byte (11 : Int32) [(.int (nar .byte (60 : Int32))), (.int (nar .byte (32 : Int32))), (.int (nar .byte (9 : Int32))), (.int (nar .byte (13 : Int32))), (.int (0 : Int32)), (.int (0 : Int32)), (.int (0 : Int32)), (.int (0 : Int32)), (.int (0 : Int32)), (.int (0 : Int32)), (.int (0 : Int32))] (.int (0 : Int32)) := Arv.set Ar5 vq5 S5 M5 Hh5 G5 (fits_nar_byte _) W5 3 rfl (Nat.le_of_ble_eq_true rfl)
  have K5 : Keep h0 h5 [] := K4.wr W5 (Or.inr sz_o1)
  have N5 := Fr.snoc X5 N4 g_o1
  refine go (fun t k => st5 _ k) ?_
  show Gl _ _ _ _ _ _ _ _ (T5.setTop (mkF m 24 #[.val (.int p1), .unset, .unset] [(.ref o1)]))
  refine go (fun t k => XS.dup X5.here hx rfl (hb hby d1_24) rfl rfl k) ?_
  show Gl _ _ _ _ _ _ _ _ (T5.setTop (mkF m 25 #[.val (.int p1), .unset, .unset] [(.ref o1), (.ref o1)]))
  refine go (fun t k => XS.iconst X5.here hx rfl (hb hby d1_25) k) ?_
  show Gl _ _ _ _ _ _ _ _ (T5.setTop (mkF m 26 #[.val (.int p1), .unset, .unset] [(.int (4 : Int32)), (.ref o1), (.ref o1)]))
  refine go (fun t k => XS.bipush X5.here hx rfl (hb hby d1_26) k) ?_
  show Gl _ _ _ _ _ _ _ _ (T5.setTop (mkF m 28 #[.val (.int p1), .unset, .unset] [(.int (10 : Int32)), (.int (4 : Int32)), (.ref o1), (.ref o1)]))
  obtain ⟨cl6, Ar6, vq6, S6, M6, Hh6, G6⟩ := id V5
  obtain ⟨T6, h6, X6, e6, W6, st6⟩ := stB X5 hx hZ e5 Ar6 (j := (4 : Int32)) (inb_of S6 ⟨by decide, by decide⟩) (g := (mkF m 28 #[.val (.int p1), .unset, .unset] [(.int (10 : Int32)), (.int (4 : Int32)), (.ref o1), (.ref o1)])) rfl rfl (hb hby d1_28)
  have V6 : Arv Z h6 o1 k1 .byte (11 : Int32) [(.int (nar .byte (60 : Int32))), (.int (nar .byte (32 : Int32))), (.int (nar .byte (9 : Int32))), (.int (nar .byte (13 : Int32))), (.int (nar .byte (10 : Int32))), (.int (0 : Int32)), (.int (0 : Int32)), (.int (0 : Int32)), (.int (0 : Int32)), (.int (0 : Int32)), (.int (0 : Int32))] (.int (0 : Int32)) := Arv.set Ar6 vq6 S6 M6 Hh6 G6 (fits_nar_byte _) W6 4 rfl (Nat.le_of_ble_eq_true rfl)
  have K6 : Keep h0 h6 [] := K5.wr W6 (Or.inr sz_o1)
  have N6 := Fr.snoc X6 N5 g_o1
  refine go (fun t k => st6 _ k) ?_
  show Gl _ _ _ _ _ _ _ _ (T6.setTop (mkF m 29 #[.val (.int p1), .unset, .unset] [(.ref o1)]))
  refine go (fun t k => XS.dup X6.here hx rfl (hb hby d1_29) rfl rfl k) ?_
  show Gl _ _ _ _ _ _ _ _ (T6.setTop (mkF m 30 #[.val (.int p1), .unset, .unset] [(.ref o1), (.ref o1)]))
  refine go (fun t k => XS.iconst X6.here hx rfl (hb hby d1_30) k) ?_
  show Gl _ _ _ _ _ _ _ _ (T6.setTop (mkF m 31 #[.val (.int p1), .unset, .unset] [(.int (5 : Int32)), (.ref o1), (.ref o1)]))
  refine go (fun t k => XS.iconst X6.here hx rfl (hb hby d1_31) k) ?_
  show Gl _ _ _ _ _ _ _ _ (T6.setTop (mkF m 32 #[.val (.int p1), .unset, .unset] [(.int (0 : Int32)), (.int (5 : Int32)), (.ref o1), (.ref o1)]))
  obtain ⟨cl7, Ar7, vq7, S7, M7, Hh7, G7⟩ := id V6
  obtain ⟨T7, h7, X7, e7, W7, st7⟩ := stB X6 hx hZ e6 Ar7 (j := (5 : Int32)) (inb_of S7 ⟨by decide, by decide⟩) (g := (mkF m 32 #[.val (.int p1), .unset, .unset] [(.int (0 : Int32)), (.int (5 : Int32)), (.ref o1), (.ref o1)])) rfl rfl (hb hby d1_32)
  have V7 : Arv Z h7 o1 k1 .byte (11 : Int32) [(.int (nar .byte (60 : Int32))), (.int (nar .byte (32 : Int32))), (.int (nar .byte (9 : Int32))), (.int (nar .byte (13 : Int32))), (.int (nar .byte (10 : Int32))), (.int (nar .byte (0 : Int32))), (.int (0 : Int32)), (.int (0 : Int32)), (.int (0 : Int32)), (.int (0 : Int32)), (.int (0 : Int32))] (.int (0 : Int32)) := Arv.set Ar7 vq7 S7 M7 Hh7 G7 (fits_nar_byte _) W7 5 rfl (Nat.le_of_ble_eq_true rfl)
  have K7 : Keep h0 h7 [] := K6.wr W7 (Or.inr sz_o1)
  have N7 := Fr.snoc X7 N6 g_o1
  refine go (fun t k => st7 _ k) ?_
  show Gl _ _ _ _ _ _ _ _ (T7.setTop (mkF m 33 #[.val (.int p1), .unset, .unset] [(.ref o1)]))
  refine go (fun t k => XS.dup X7.here hx rfl (hb hby d1_33) rfl rfl k) ?_
  show Gl _ _ _ _ _ _ _ _ (T7.setTop (mkF m 34 #[.val (.int p1), .unset, .unset] [(.ref o1), (.ref o1)]))
  refine go (fun t k => XS.bipush X7.here hx rfl (hb hby d1_34) k) ?_
  show Gl _ _ _ _ _ _ _ _ (T7.setTop (mkF m 36 #[.val (.int p1), .unset, .unset] [(.int (6 : Int32)), (.ref o1), (.ref o1)]))
  refine go (fun t k => XS.bipush X7.here hx rfl (hb hby d1_36) k) ?_
  show Gl _ _ _ _ _ _ _ _ (T7.setTop (mkF m 38 #[.val (.int p1), .unset, .unset] [(.int (-17 : Int32)), (.int (6 : Int32)), (.ref o1), (.ref o1)]))
  obtain ⟨cl8, Ar8, vq8, S8, M8, Hh8, G8⟩ := id V7
  obtain ⟨T8, h8, X8, e8, W8, st8⟩ := stB X7 hx hZ e7 Ar8 (j := (6 : Int32)) (inb_of S8 ⟨by decide, by decide⟩) (g := (mkF m 38 #[.val (.int p1), .unset, .unset] [(.int (-17 : Int32)), (.int (6 : Int32)), (.ref o1), (.ref o1)])) rfl rfl (hb hby d1_38)
  have V8 : Arv Z h8 o1 k1 .byte (11 : Int32) [(.int (nar .byte (60 : Int32))), (.int (nar .byte (32 : Int32))), (.int (nar .byte (9 : Int32))), (.int (nar .byte (13 : Int32))), (.int (nar .byte (10 : Int32))), (.int (nar .byte (0 : Int32))), (.int (nar .byte (-17 : Int32))), (.int (0 : Int32)), (.int (0 : Int32)), (.int (0 : Int32)), (.int (0 : Int32))] (.int (0 : Int32)) := Arv.set Ar8 vq8 S8 M8 Hh8 G8 (fits_nar_byte _) W8 6 rfl (Nat.le_of_ble_eq_true rfl)
  have K8 : Keep h0 h8 [] := K7.wr W8 (Or.inr sz_o1)
  have N8 := Fr.snoc X8 N7 g_o1
  refine go (fun t k => st8 _ k) ?_
  show Gl _ _ _ _ _ _ _ _ (T8.setTop (mkF m 39 #[.val (.int p1), .unset, .unset] [(.ref o1)]))
  refine go (fun t k => XS.dup X8.here hx rfl (hb hby d1_39) rfl rfl k) ?_
  show Gl _ _ _ _ _ _ _ _ (T8.setTop (mkF m 40 #[.val (.int p1), .unset, .unset] [(.ref o1), (.ref o1)]))
  refine go (fun t k => XS.bipush X8.here hx rfl (hb hby d1_40) k) ?_
  show Gl _ _ _ _ _ _ _ _ (T8.setTop (mkF m 42 #[.val (.int p1), .unset, .unset] [(.int (7 : Int32)), (.ref o1), (.ref o1)]))
  refine go (fun t k => XS.bipush X8.here hx rfl (hb hby d1_42) k) ?_
  show Gl _ _ _ _ _ _ _ _ (T8.setTop (mkF m 44 #[.val (.int p1), .unset, .unset] [(.int (-69 : Int32)), (.int (7 : Int32)), (.ref o1), (.ref o1)]))
  obtain ⟨cl9, Ar9, vq9, S9, M9, Hh9, G9⟩ := id V8
  obtain ⟨T9, h9, X9, e9, W9, st9⟩ := stB X8 hx hZ e8 Ar9 (j := (7 : Int32)) (inb_of S9 ⟨by decide, by decide⟩) (g := (mkF m 44 #[.val (.int p1), .unset, .unset] [(.int (-69 : Int32)), (.int (7 : Int32)), (.ref o1), (.ref o1)])) rfl rfl (hb hby d1_44)
  have V9 : Arv Z h9 o1 k1 .byte (11 : Int32) [(.int (nar .byte (60 : Int32))), (.int (nar .byte (32 : Int32))), (.int (nar .byte (9 : Int32))), (.int (nar .byte (13 : Int32))), (.int (nar .byte (10 : Int32))), (.int (nar .byte (0 : Int32))), (.int (nar .byte (-17 : Int32))), (.int (nar .byte (-69 : Int32))), (.int (0 : Int32)), (.int (0 : Int32)), (.int (0 : Int32))] (.int (0 : Int32)) := Arv.set Ar9 vq9 S9 M9 Hh9 G9 (fits_nar_byte _) W9 7 rfl (Nat.le_of_ble_eq_true rfl)
  have K9 : Keep h0 h9 [] := K8.wr W9 (Or.inr sz_o1)
  have N9 := Fr.snoc X9 N8 g_o1
  refine go (fun t k => st9 _ k) ?_
  show Gl _ _ _ _ _ _ _ _ (T9.setTop (mkF m 45 #[.val (.int p1), .unset, .unset] [(.ref o1)]))
  refine go (fun t k => XS.dup X9.here hx rfl (hb hby d1_45) rfl rfl k) ?_
  show Gl _ _ _ _ _ _ _ _ (T9.setTop (mkF m 46 #[.val (.int p1), .unset, .unset] [(.ref o1), (.ref o1)]))
  refine go (fun t k => XS.bipush X9.here hx rfl (hb hby d1_46) k) ?_
  show Gl _ _ _ _ _ _ _ _ (T9.setTop (mkF m 48 #[.val (.int p1), .unset, .unset] [(.int (8 : Int32)), (.ref o1), (.ref o1)]))
  refine go (fun t k => XS.bipush X9.here hx rfl (hb hby d1_48) k) ?_
  show Gl _ _ _ _ _ _ _ _ (T9.setTop (mkF m 50 #[.val (.int p1), .unset, .unset] [(.int (-65 : Int32)), (.int (8 : Int32)), (.ref o1), (.ref o1)]))
  obtain ⟨cl10, Ar10, vq10, S10, M10, Hh10, G10⟩ := id V9
  obtain ⟨T10, h10, X10, e10, W10, st10⟩ := stB X9 hx hZ e9 Ar10 (j := (8 : Int32)) (inb_of S10 ⟨by decide, by decide⟩) (g := (mkF m 50 #[.val (.int p1), .unset, .unset] [(.int (-65 : Int32)), (.int (8 : Int32)), (.ref o1), (.ref o1)])) rfl rfl (hb hby d1_50)
  have V10 : Arv Z h10 o1 k1 .byte (11 : Int32) [(.int (nar .byte (60 : Int32))), (.int (nar .byte (32 : Int32))), (.int (nar .byte (9 : Int32))), (.int (nar .byte (13 : Int32))), (.int (nar .byte (10 : Int32))), (.int (nar .byte (0 : Int32))), (.int (nar .byte (-17 : Int32))), (.int (nar .byte (-69 : Int32))), (.int (nar .byte (-65 : Int32))), (.int (0 : Int32)), (.int (0 : Int32))] (.int (0 : Int32)) := Arv.set Ar10 vq10 S10 M10 Hh10 G10 (fits_nar_byte _) W10 8 rfl (Nat.le_of_ble_eq_true rfl)
  have K10 : Keep h0 h10 [] := K9.wr W10 (Or.inr sz_o1)
  have N10 := Fr.snoc X10 N9 g_o1
  refine go (fun t k => st10 _ k) ?_
  show Gl _ _ _ _ _ _ _ _ (T10.setTop (mkF m 51 #[.val (.int p1), .unset, .unset] [(.ref o1)]))
  refine go (fun t k => XS.dup X10.here hx rfl (hb hby d1_51) rfl rfl k) ?_
  show Gl _ _ _ _ _ _ _ _ (T10.setTop (mkF m 52 #[.val (.int p1), .unset, .unset] [(.ref o1), (.ref o1)]))
  refine go (fun t k => XS.bipush X10.here hx rfl (hb hby d1_52) k) ?_
  show Gl _ _ _ _ _ _ _ _ (T10.setTop (mkF m 54 #[.val (.int p1), .unset, .unset] [(.int (9 : Int32)), (.ref o1), (.ref o1)]))
  refine go (fun t k => XS.bipush X10.here hx rfl (hb hby d1_54) k) ?_
  show Gl _ _ _ _ _ _ _ _ (T10.setTop (mkF m 56 #[.val (.int p1), .unset, .unset] [(.int (-2 : Int32)), (.int (9 : Int32)), (.ref o1), (.ref o1)]))
  obtain ⟨cl11, Ar11, vq11, S11, M11, Hh11, G11⟩ := id V10
  obtain ⟨T11, h11, X11, e11, W11, st11⟩ := stB X10 hx hZ e10 Ar11 (j := (9 : Int32)) (inb_of S11 ⟨by decide, by decide⟩) (g := (mkF m 56 #[.val (.int p1), .unset, .unset] [(.int (-2 : Int32)), (.int (9 : Int32)), (.ref o1), (.ref o1)])) rfl rfl (hb hby d1_56)
  have V11 : Arv Z h11 o1 k1 .byte (11 : Int32) [(.int (nar .byte (60 : Int32))), (.int (nar .byte (32 : Int32))), (.int (nar .byte (9 : Int32))), (.int (nar .byte (13 : Int32))), (.int (nar .byte (10 : Int32))), (.int (nar .byte (0 : Int32))), (.int (nar .byte (-17 : Int32))), (.int (nar .byte (-69 : Int32))), (.int (nar .byte (-65 : Int32))), (.int (nar .byte (-2 : Int32))), (.int (0 : Int32))] (.int (0 : Int32)) := Arv.set Ar11 vq11 S11 M11 Hh11 G11 (fits_nar_byte _) W11 9 rfl (Nat.le_of_ble_eq_true rfl)
  have K11 : Keep h0 h11 [] := K10.wr W11 (Or.inr sz_o1)
  have N11 := Fr.snoc X11 N10 g_o1
  refine go (fun t k => st11 _ k) ?_
  show Gl _ _ _ _ _ _ _ _ (T11.setTop (mkF m 57 #[.val (.int p1), .unset, .unset] [(.ref o1)]))
  refine go (fun t k => XS.dup X11.here hx rfl (hb hby d1_57) rfl rfl k) ?_
  show Gl _ _ _ _ _ _ _ _ (T11.setTop (mkF m 58 #[.val (.int p1), .unset, .unset] [(.ref o1), (.ref o1)]))
  refine go (fun t k => XS.bipush X11.here hx rfl (hb hby d1_58) k) ?_
  show Gl _ _ _ _ _ _ _ _ (T11.setTop (mkF m 60 #[.val (.int p1), .unset, .unset] [(.int (10 : Int32)), (.ref o1), (.ref o1)]))
  refine go (fun t k => XS.iconst X11.here hx rfl (hb hby d1_60) k) ?_
  show Gl _ _ _ _ _ _ _ _ (T11.setTop (mkF m 61 #[.val (.int p1), .unset, .unset] [(.int (-1 : Int32)), (.int (10 : Int32)), (.ref o1), (.ref o1)]))
  obtain ⟨cl12, Ar12, vq12, S12, M12, Hh12, G12⟩ := id V11
  obtain ⟨T12, h12, X12, e12, W12, st12⟩ := stB X11 hx hZ e11 Ar12 (j := (10 : Int32)) (inb_of S12 ⟨by decide, by decide⟩) (g := (mkF m 61 #[.val (.int p1), .unset, .unset] [(.int (-1 : Int32)), (.int (10 : Int32)), (.ref o1), (.ref o1)])) rfl rfl (hb hby d1_61)
  have V12 : Arv Z h12 o1 k1 .byte (11 : Int32) [(.int (nar .byte (60 : Int32))), (.int (nar .byte (32 : Int32))), (.int (nar .byte (9 : Int32))), (.int (nar .byte (13 : Int32))), (.int (nar .byte (10 : Int32))), (.int (nar .byte (0 : Int32))), (.int (nar .byte (-17 : Int32))), (.int (nar .byte (-69 : Int32))), (.int (nar .byte (-65 : Int32))), (.int (nar .byte (-2 : Int32))), (.int (nar .byte (-1 : Int32)))] (.int (0 : Int32)) := Arv.set Ar12 vq12 S12 M12 Hh12 G12 (fits_nar_byte _) W12 10 rfl (Nat.le_of_ble_eq_true rfl)
  have K12 : Keep h0 h12 [] := K11.wr W12 (Or.inr sz_o1)
  have N12 := Fr.snoc X12 N11 g_o1
  refine go (fun t k => st12 _ k) ?_
  show Gl _ _ _ _ _ _ _ _ (T12.setTop (mkF m 62 #[.val (.int p1), .unset, .unset] [(.ref o1)]))
  refine go (fun t k => XS.astoreN X12.here hx rfl (hb hby d1_62) rfl rfl (l' := #[.val (.int p1), .val (.ref o1), .unset]) rfl k) ?_
  show Gl _ _ _ _ _ _ _ _ (T12.setTop (mkF m 63 #[.val (.int p1), .val (.ref o1), .unset] []))
  refine go (fun t k => XS.iloadN X12.here hx rfl (hb hby d1_63) rfl  k) ?_
  show Gl _ _ _ _ _ _ _ _ (T12.setTop (mkF m 64 #[.val (.int p1), .val (.ref o1), .unset] [(.int p1)]))
  refine go (fun t k => XS.bipush X12.here hx rfl (hb hby d1_64) k) ?_
  show Gl _ _ _ _ _ _ _ _ (T12.setTop (mkF m 66 #[.val (.int p1), .val (.ref o1), .unset] [(.int (15 : Int32)), (.int p1)]))
  refine go (fun t k => XS.iand X12.here hx rfl (hb hby d1_66) rfl k) ?_
  show Gl _ _ _ _ _ _ _ _ (T12.setTop (mkF m 67 #[.val (.int p1), .val (.ref o1), .unset] [(.int (p1 &&& (15 : Int32)))]))
  refine go (fun t k => XS.istoreN X12.here hx rfl (hb hby d1_67) rfl (l' := #[.val (.int p1), .val (.ref o1), .val (.int (p1 &&& (15 : Int32)))]) rfl k) ?_
  show Gl _ _ _ _ _ _ _ _ (T12.setTop (mkF m 68 #[.val (.int p1), .val (.ref o1), .val (.int (p1 &&& (15 : Int32)))] []))
  refine go (fun t k => XS.iloadN X12.here hx rfl (hb hby d1_68) rfl  k) ?_
  show Gl _ _ _ _ _ _ _ _ (T12.setTop (mkF m 69 #[.val (.int p1), .val (.ref o1), .val (.int (p1 &&& (15 : Int32)))] [(.int (p1 &&& (15 : Int32)))]))
  refine go (fun t k => XS.bipush X12.here hx rfl (hb hby d1_69) k) ?_
  show Gl _ _ _ _ _ _ _ _ (T12.setTop (mkF m 71 #[.val (.int p1), .val (.ref o1), .val (.int (p1 &&& (15 : Int32)))] [(.int (11 : Int32)), (.int (p1 &&& (15 : Int32)))]))
  refine gI (c := (p1 &&& (15 : Int32)) < (11 : Int32)) (fun hc71 => ?_) (fun hc71 => ?_)
  · refine go (fun t k => XS.icmpNo X12.here hx rfl (hb hby d1_71) rfl (tlt hc71).2.1 k) ?_
    show Gl _ _ _ _ _ _ _ _ (T12.setTop (mkF m 74 #[.val (.int p1), .val (.ref o1), .val (.int (p1 &&& (15 : Int32)))] []))
    refine go (fun t k => XS.aloadN X12.here hx rfl (hb hby d1_74) rfl rfl k) ?_
    show Gl _ _ _ _ _ _ _ _ (T12.setTop (mkF m 75 #[.val (.int p1), .val (.ref o1), .val (.int (p1 &&& (15 : Int32)))] [(.ref o1)]))
    refine go (fun t k => XS.iloadN X12.here hx rfl (hb hby d1_75) rfl  k) ?_
    show Gl _ _ _ _ _ _ _ _ (T12.setTop (mkF m 76 #[.val (.int p1), .val (.ref o1), .val (.int (p1 &&& (15 : Int32)))] [(.int (p1 &&& (15 : Int32))), (.ref o1)]))
    obtain ⟨cl13, Ar13, q13, S13, M13, Hh13, G13⟩ := V12
    have hin13 := inb_of S13 (own_idx hc71)
    have hat13 := own_hat Hh13 (own_idx hc71) S13
    refine go (fun t k => X12.baloadBytes hx (j := (p1 &&& (15 : Int32))) (v := (.int (own_pk (p1 &&& (15 : Int32))))) (by rw [e12]; exact Ar13.1) (State.isArrayOf_alike hZ.alike Ar13.2.1) Ar13.2.2 hin13 hat13 (g := (mkF m 76 #[.val (.int p1), .val (.ref o1), .val (.int (p1 &&& (15 : Int32)))] [(.int (p1 &&& (15 : Int32))), (.ref o1)])) rfl rfl (hb hby d1_76) _ k) ?_
    show Gl _ _ _ _ _ _ _ _ (T12.setTop (mkF m 77 #[.val (.int p1), .val (.ref o1), .val (.int (p1 &&& (15 : Int32)))] [(.int (own_pk (p1 &&& (15 : Int32))))]))
    exact endN X12 hx Bd (t := .byte) (by simp) (hb hby d1_77) ⟨rfl, (by rw [e12]; exact K12)⟩ N12 (by decide) (by decide)
  · refine go (fun t k => XS.icmpYes X12.here hx rfl (pc0 := 71) (pc' := 78) rfl (hb hby d1_71) rfl (flt hc71).2.1 (by decide) (by decide) k) ?_
    show Gl _ _ _ _ _ _ _ _ (T12.setTop (mkF m 78 #[.val (.int p1), .val (.ref o1), .val (.int (p1 &&& (15 : Int32)))] []))
    refine go (fun t k => XS.iloadN X12.here hx rfl (hb hby d1_78) rfl  k) ?_
    show Gl _ _ _ _ _ _ _ _ (T12.setTop (mkF m 79 #[.val (.int p1), .val (.ref o1), .val (.int (p1 &&& (15 : Int32)))] [(.int p1)]))
    refine go (fun t k => XS.iconst X12.here hx rfl (hb hby d1_79) k) ?_
    show Gl _ _ _ _ _ _ _ _ (T12.setTop (mkF m 80 #[.val (.int p1), .val (.ref o1), .val (.int (p1 &&& (15 : Int32)))] [(.int (4 : Int32)), (.int p1)]))
    refine go (fun t k => XS.iushr X12.here hx rfl (hb hby d1_80) rfl k) ?_
    show Gl _ _ _ _ _ _ _ _ (T12.setTop (mkF m 81 #[.val (.int p1), .val (.ref o1), .val (.int (p1 &&& (15 : Int32)))] [(.int ((p1.toUInt32 >>> ((4 : Int32) &&& 31).toUInt32).toInt32))]))
    refine go (fun t k => XS.i2b X12.here hx rfl (hb hby d1_81) rfl k) ?_
    show Gl _ _ _ _ _ _ _ _ (T12.setTop (mkF m 82 #[.val (.int p1), .val (.ref o1), .val (.int (p1 &&& (15 : Int32)))] [(.int (((p1.toUInt32 >>> ((4 : Int32) &&& 31).toUInt32).toInt32).toInt8.toInt32))]))
    exact endN X12 hx Bd (t := .byte) (by simp) (hb hby d1_82) ⟨rfl, (by rw [e12]; exact K12)⟩ N12 (by decide) (by decide)
theorem d2_0 : decode prog_7_method_4_code 0 = .ok (.aload_n 0, 1) := by decide +kernel
theorem d2_1 : decode prog_7_method_4_code 1 = .ok (.astore_n 1, 1) := by decide +kernel
theorem d2_2 : decode prog_7_method_4_code 2 = .ok (.aload_n 1, 1) := by decide +kernel
theorem d2_3 : decode prog_7_method_4_code 3 = .ok (.arraylength, 1) := by decide +kernel
theorem d2_4 : decode prog_7_method_4_code 4 = .ok (.istore_n 2, 1) := by decide +kernel
theorem d2_5 : decode prog_7_method_4_code 5 = .ok (.iconst 0, 1) := by decide +kernel
theorem d2_6 : decode prog_7_method_4_code 6 = .ok (.istore_n 3, 1) := by decide +kernel
theorem d2_7 : decode prog_7_method_4_code 7 = .ok (.iload_n 3, 1) := by decide +kernel
theorem d2_8 : decode prog_7_method_4_code 8 = .ok (.iload_n 2, 1) := by decide +kernel
theorem d2_9 : decode prog_7_method_4_code 9 = .ok (.if_icmp .ge 108, 3) := by decide +kernel
theorem d2_117 : decode prog_7_method_4_code 117 = .ok (.getstatic 10, 3) := by decide +kernel
theorem d2_120 : decode prog_7_method_4_code 120 = .ok (.areturn, 1) := by decide +kernel
theorem pn_1 : plainName "com/example/policylint/policylint/PolicySyntax" = true := by first | (simp [plainName, overriddenIn]; done) | decide +kernel
theorem ef_2t0 (m : MethodId) (a1 : Addr) : entryFrame m #[(.ref a1)] 6 = mkF m 0 #[.val (.ref a1), .unset, .unset, .unset, .unset, .unset] [] := by first | (simp [entryFrame, mkF, argsToLocals, Value.category]; done) | rfl
def b2t0_0 (w_BLANK : Addr) : Addr := w_BLANK
set_option maxRecDepth 65536 in
set_option maxHeartbeats 40000000 in
theorem rm2t0 (l : Launch) (Z : State) (a0 : Array Value) (hw : ∀ d ∈ tables_1, d.before a0 Z = true) (ws : List Jvm.Cond) (a1 : Addr) (w_XACML : Addr) (w_COMPACT : Addr) (w_BLANK : Addr) (ka : ClassId) (h0 : Heap) (n0 : Nat) (Z0 : n0 ≤ h0.size) (S_XACML : Sta Z h0 "com/example/policylint/policylint/PolicySyntax" "XACML" "Lcom/example/policylint/policylint/PolicySyntax;" (.ref w_XACML)) (S_COMPACT : Sta Z h0 "com/example/policylint/policylint/PolicySyntax" "COMPACT" "Lcom/example/policylint/policylint/PolicySyntax;" (.ref w_COMPACT)) (S_BLANK : Sta Z h0 "com/example/policylint/policylint/PolicySyntax" "BLANK" "Lcom/example/policylint/policylint/PolicySyntax;" (.ref w_BLANK)) (V_a : Arv Z h0 a1 ka .byte (0 : Int32) [] (.int (0 : Int32))) :
    MetFree l (⟨"com/example/policylint/policylint/PolicySyntax", "of", "([B)Lcom/example/policylint/policylint/PolicySyntax;"⟩ : MethodName) (head1 (Jvm.Cond.code (⟨"com/example/policylint/policylint/PolicySyntax", "of", "([B)Lcom/example/policylint/policylint/PolicySyntax;"⟩ : MethodName) prog_7_method_4_code 6 (some (.object "com/example/policylint/policylint/PolicySyntax")) :: ws) ({ frames := 0, cells := 0, slots := 0, locals := 0 } : Room)) (fun a U => a = #[(.ref a1)] ∧ Z.Warmed39 U.vm ∧ U.heap = h0) (fun _ _ _ _ _ => True) (fun _ U o U' => ∃ v L, o = .returned v ∧ QK n0 (Kv (some (.ref (b2t0_0 w_BLANK))) (fun h => h = h0)) v U'.heap L ∧ FrameEnd U o U' L ({ frames := 0, cells := 0, slots := 0, locals := 0 } : Room).cells ({ frames := 0, cells := 0, slots := 0, locals := 0 } : Room).slots) := by
  refine MetFree.of_bodySF (plainFor_of_name pn_1) hisR ?_
  intro p e s m args below meth c s₁ Bd hml0 hP hK
  obtain ⟨rfl, hZ, hh⟩ := hP
  have hx := Bd.exec
  have hby := Bd.bytes
  have hml : c.maxLocals = 6 := hml0
  have hown : s.vm.findClass "com/example/policylint/policylint/PolicySyntax" = some m.cls := findClass_of_methodNamed Bd.named
  have hnm := (name_of_methodNamed Bd.named Bd.method).1
  have X0 : Stand p l e ({ frames := 0, cells := 0, slots := 0, locals := 0 } : Room) s m #[(.ref a1)] below meth c s₁ [] 0 0 := Stand.of_body Bd
  have e0 : s₁.heap = h0 := by rw [← hh, Bd.state]; rfl
  have N0 := Fr.nil n0
  refine gl_start (ef_2t0 m a1) ?_
  show Gl p e below s n0 ({ frames := 0, cells := 0, slots := 0, locals := 0 } : Room).cells ({ frames := 0, cells := 0, slots := 0, locals := 0 } : Room).slots (Kv (some (.ref w_BLANK)) (fun h => h = h0)) (s₁.setTop (mkF m 0 #[.val (.ref a1), .unset, .unset, .unset, .unset, .unset] []))
  refine go (fun t k => XS.aloadN X0.here hx rfl (hb hby d2_0) rfl rfl k) ?_
  show Gl _ _ _ _ _ _ _ _ (s₁.setTop (mkF m 1 #[.val (.ref a1), .unset, .unset, .unset, .unset, .unset] [(.ref a1)]))
  refine go (fun t k => XS.astoreN X0.here hx rfl (hb hby d2_1) rfl rfl (l' := #[.val (.ref a1), .val (.ref a1), .unset, .unset, .unset, .unset]) rfl k) ?_
  show Gl _ _ _ _ _ _ _ _ (s₁.setTop (mkF m 2 #[.val (.ref a1), .val (.ref a1), .unset, .unset, .unset, .unset] []))
  refine go (fun t k => XS.aloadN X0.here hx rfl (hb hby d2_2) rfl rfl k) ?_
  show Gl _ _ _ _ _ _ _ _ (s₁.setTop (mkF m 3 #[.val (.ref a1), .val (.ref a1), .unset, .unset, .unset, .unset] [(.ref a1)]))
  obtain ⟨cl1, Ar1, vq1, S1, M1, Hh1, G1⟩ := id V_a
  have hl1 : cl1.slots.size.toInt32 = (0 : Int32) := len_of S1 M1
  refine go (fun t k => X0.arraylength hx (by rw [e0]; exact Ar1.1) (State.isArrayOf_alike hZ.alike Ar1.2.1) (g := (mkF m 3 #[.val (.ref a1), .val (.ref a1), .unset, .unset, .unset, .unset] [(.ref a1)])) rfl rfl (hb hby d2_3) _ (by rw [hl1]; exact k)) ?_
  show Gl _ _ _ _ _ _ _ _ (s₁.setTop (mkF m 4 #[.val (.ref a1), .val (.ref a1), .unset, .unset, .unset, .unset] [(.int (0 : Int32))]))
  refine go (fun t k => XS.istoreN X0.here hx rfl (hb hby d2_4) rfl (l' := #[.val (.ref a1), .val (.ref a1), .val (.int (0 : Int32)), .unset, .unset, .unset]) rfl k) ?_
  show Gl _ _ _ _ _ _ _ _ (s₁.setTop (mkF m 5 #[.val (.ref a1), .val (.ref a1), .val (.int (0 : Int32)), .unset, .unset, .unset] []))
  refine go (fun t k => XS.iconst X0.here hx rfl (hb hby d2_5) k) ?_
  show Gl _ _ _ _ _ _ _ _ (s₁.setTop (mkF m 6 #[.val (.ref a1), .val (.ref a1), .val (.int (0 : Int32)), .unset, .unset, .unset] [(.int (0 : Int32))]))
  refine go (fun t k => XS.istoreN X0.here hx rfl (hb hby d2_6) rfl (l' := #[.val (.ref a1), .val (.ref a1), .val (.int (0 : Int32)), .val (.int (0 : Int32)), .unset, .unset]) rfl k) ?_
  show Gl _ _ _ _ _ _ _ _ (s₁.setTop (mkF m 7 #[.val (.ref a1), .val (.ref a1), .val (.int (0 : Int32)), .val (.int (0 : Int32)), .unset, .unset] []))
  refine go (fun t k => XS.iloadN X0.here hx rfl (hb hby d2_7) rfl  k) ?_
  show Gl _ _ _ _ _ _ _ _ (s₁.setTop (mkF m 8 #[.val (.ref a1), .val (.ref a1), .val (.int (0 : Int32)), .val (.int (0 : Int32)), .unset, .unset] [(.int (0 : Int32))]))
  refine go (fun t k => XS.iloadN X0.here hx rfl (hb hby d2_8) rfl  k) ?_
  show Gl _ _ _ _ _ _ _ _ (s₁.setTop (mkF m 9 #[.val (.ref a1), .val (.ref a1), .val (.int (0 : Int32)), .val (.int (0 : Int32)), .unset, .unset] [(.int (0 : Int32)), (.int (0 : Int32))]))
  refine go (fun t k => XS.icmpYes X0.here hx rfl (pc0 := 9) (pc' := 117) rfl (hb hby d2_9) rfl (flt (by decide : ¬ ((0 : Int32) < (0 : Int32)))).2.1 (by decide) (by decide) k) ?_
  show Gl _ _ _ _ _ _ _ _ (s₁.setTop (mkF m 117 #[.val (.ref a1), .val (.ref a1), .val (.int (0 : Int32)), .val (.int (0 : Int32)), .unset, .unset] []))
  obtain ⟨T2, X2, e2, st2⟩ := getS2 X0 hx hZ hown (host := "") (Or.inl (hw _ (List.mem_of_getElem? (i := 12) rfl))) Via.refl e0 S_BLANK (g := (mkF m 117 #[.val (.ref a1), .val (.ref a1), .val (.int (0 : Int32)), .val (.int (0 : Int32)), .unset, .unset] [])) rfl (hb hby d2_117)
  refine go (fun t k => st2 _ k) ?_
  show Gl _ _ _ _ _ _ _ _ (T2.setTop (mkF m 120 #[.val (.ref a1), .val (.ref a1), .val (.int (0 : Int32)), .val (.int (0 : Int32)), .unset, .unset] [(.ref w_BLANK)]))
  exact endR X2 hx Bd rfl (hb hby d2_120) ⟨rfl, e2⟩ N0 (by decide) (by decide)
theorem d2_12 : decode prog_7_method_4_code 12 = .ok (.aload_n 1, 1) := by decide +kernel
theorem d2_13 : decode prog_7_method_4_code 13 = .ok (.iload_n 3, 1) := by decide +kernel
theorem d2_14 : decode prog_7_method_4_code 14 = .ok (.baload, 1) := by decide +kernel
theorem d2_15 : decode prog_7_method_4_code 15 = .ok (.istore 4, 2) := by decide +kernel
theorem d2_17 : decode prog_7_method_4_code 17 = .ok (.iload 4, 2) := by decide +kernel
theorem d2_19 : decode prog_7_method_4_code 19 = .ok (.bipush 60, 2) := by decide +kernel
theorem d2_21 : decode prog_7_method_4_code 21 = .ok (.if_icmp .ne 7, 3) := by decide +kernel
theorem d2_24 : decode prog_7_method_4_code 24 = .ok (.getstatic 3, 3) := by decide +kernel
theorem d2_27 : decode prog_7_method_4_code 27 = .ok (.areturn, 1) := by decide +kernel
theorem d2_28 : decode prog_7_method_4_code 28 = .ok (.iload 4, 2) := by decide +kernel
theorem d2_30 : decode prog_7_method_4_code 30 = .ok (.bipush 32, 2) := by decide +kernel
theorem d2_32 : decode prog_7_method_4_code 32 = .ok (.if_icmp .eq 63, 3) := by decide +kernel
theorem d2_35 : decode prog_7_method_4_code 35 = .ok (.iload 4, 2) := by decide +kernel
theorem d2_37 : decode prog_7_method_4_code 37 = .ok (.bipush 9, 2) := by decide +kernel
theorem d2_39 : decode prog_7_method_4_code 39 = .ok (.if_icmp .eq 56, 3) := by decide +kernel
theorem d2_42 : decode prog_7_method_4_code 42 = .ok (.iload 4, 2) := by decide +kernel
theorem d2_44 : decode prog_7_method_4_code 44 = .ok (.bipush 13, 2) := by decide +kernel
theorem d2_46 : decode prog_7_method_4_code 46 = .ok (.if_icmp .eq 49, 3) := by decide +kernel
theorem d2_49 : decode prog_7_method_4_code 49 = .ok (.iload 4, 2) := by decide +kernel
theorem d2_51 : decode prog_7_method_4_code 51 = .ok (.bipush 10, 2) := by decide +kernel
theorem d2_53 : decode prog_7_method_4_code 53 = .ok (.if_icmp .eq 42, 3) := by decide +kernel
theorem d2_56 : decode prog_7_method_4_code 56 = .ok (.iload 4, 2) := by decide +kernel
theorem d2_58 : decode prog_7_method_4_code 58 = .ok (.ifCond .eq 37, 3) := by decide +kernel
theorem d2_61 : decode prog_7_method_4_code 61 = .ok (.iload 4, 2) := by decide +kernel
theorem d2_63 : decode prog_7_method_4_code 63 = .ok (.bipush (-17), 2) := by decide +kernel
theorem d2_65 : decode prog_7_method_4_code 65 = .ok (.if_icmp .eq 30, 3) := by decide +kernel
theorem d2_68 : decode prog_7_method_4_code 68 = .ok (.iload 4, 2) := by decide +kernel
theorem d2_70 : decode prog_7_method_4_code 70 = .ok (.bipush (-69), 2) := by decide +kernel
theorem d2_72 : decode prog_7_method_4_code 72 = .ok (.if_icmp .eq 23, 3) := by decide +kernel
theorem d2_75 : decode prog_7_method_4_code 75 = .ok (.iload 4, 2) := by decide +kernel
theorem d2_77 : decode prog_7_method_4_code 77 = .ok (.bipush (-65), 2) := by decide +kernel
theorem d2_79 : decode prog_7_method_4_code 79 = .ok (.if_icmp .eq 16, 3) := by decide +kernel
theorem d2_82 : decode prog_7_method_4_code 82 = .ok (.iload 4, 2) := by decide +kernel
theorem d2_84 : decode prog_7_method_4_code 84 = .ok (.bipush (-2), 2) := by decide +kernel
theorem d2_86 : decode prog_7_method_4_code 86 = .ok (.if_icmp .eq 9, 3) := by decide +kernel
theorem d2_89 : decode prog_7_method_4_code 89 = .ok (.iload 4, 2) := by decide +kernel
theorem d2_91 : decode prog_7_method_4_code 91 = .ok (.iconst (-1), 1) := by decide +kernel
theorem d2_92 : decode prog_7_method_4_code 92 = .ok (.if_icmp .ne 7, 3) := by decide +kernel
theorem d2_95 : decode prog_7_method_4_code 95 = .ok (.iconst 1, 1) := by decide +kernel
theorem d2_96 : decode prog_7_method_4_code 96 = .ok (.goto 4, 3) := by decide +kernel
theorem d2_99 : decode prog_7_method_4_code 99 = .ok (.iconst 0, 1) := by decide +kernel
theorem d2_100 : decode prog_7_method_4_code 100 = .ok (.istore 5, 2) := by decide +kernel
theorem d2_102 : decode prog_7_method_4_code 102 = .ok (.iload 5, 2) := by decide +kernel
theorem d2_104 : decode prog_7_method_4_code 104 = .ok (.ifCond .ne 7, 3) := by decide +kernel
theorem d2_107 : decode prog_7_method_4_code 107 = .ok (.getstatic 7, 3) := by decide +kernel
theorem d2_110 : decode prog_7_method_4_code 110 = .ok (.areturn, 1) := by decide +kernel
theorem d2_111 : decode prog_7_method_4_code 111 = .ok (.iinc 3 1, 3) := by decide +kernel
theorem d2_114 : decode prog_7_method_4_code 114 = .ok (.goto (-107), 3) := by decide +kernel
theorem ef_2t1 (m : MethodId) (a1 : Addr) : entryFrame m #[(.ref a1)] 6 = mkF m 0 #[.val (.ref a1), .unset, .unset, .unset, .unset, .unset] [] := by first | (simp [entryFrame, mkF, argsToLocals, Value.category]; done) | rfl
def b2t1_100 (w_COMPACT : Addr) (w_BLANK : Addr) (s0_100 : Int32) : Addr := (if s0_100 = (0 : Int32) then w_COMPACT else w_BLANK)
def b2t1_95 (w_COMPACT : Addr) (w_BLANK : Addr) : Addr := (b2t1_100 w_COMPACT w_BLANK (1 : Int32))
def b2t1_0 (w_XACML : Addr) (w_COMPACT : Addr) (w_BLANK : Addr) (u0 : Int32) : Addr := (if u0 = (60 : Int32) then w_XACML else (if u0 = (32 : Int32) then (b2t1_95 w_COMPACT w_BLANK) else (if u0 = (9 : Int32) then (b2t1_95 w_COMPACT w_BLANK) else (if u0 = (13 : Int32) then (b2t1_95 w_COMPACT w_BLANK) else (if u0 = (10 : Int32) then (b2t1_95 w_COMPACT w_BLANK) else (if u0 = (0 : Int32) then (b2t1_95 w_COMPACT w_BLANK) else (if u0 = (-17 : Int32) then (b2t1_95 w_COMPACT w_BLANK) else (if u0 = (-69 : Int32) then (b2t1_95 w_COMPACT w_BLANK) else (if u0 = (-65 : Int32) then (b2t1_95 w_COMPACT w_BLANK) else (if u0 = (-2 : Int32) then (b2t1_95 w_COMPACT w_BLANK) else (if u0 = (-1 : Int32) then (b2t1_95 w_COMPACT w_BLANK) else (b2t1_100 w_COMPACT w_BLANK (0 : Int32)))))))))))))
set_option maxRecDepth 65536 in
set_option maxHeartbeats 40000000 in
theorem rm2t1 (l : Launch) (Z : State) (a0 : Array Value) (hw : ∀ d ∈ tables_1, d.before a0 Z = true) (ws : List Jvm.Cond) (a1 : Addr) (w_XACML : Addr) (w_COMPACT : Addr) (w_BLANK : Addr) (ka : ClassId) (u0 : Int32) (h0 : Heap) (n0 : Nat) (Z0 : n0 ≤ h0.size) (S_XACML : Sta Z h0 "com/example/policylint/policylint/PolicySyntax" "XACML" "Lcom/example/policylint/policylint/PolicySyntax;" (.ref w_XACML)) (S_COMPACT : Sta Z h0 "com/example/policylint/policylint/PolicySyntax" "COMPACT" "Lcom/example/policylint/policylint/PolicySyntax;" (.ref w_COMPACT)) (S_BLANK : Sta Z h0 "com/example/policylint/policylint/PolicySyntax" "BLANK" "Lcom/example/policylint/policylint/PolicySyntax;" (.ref w_BLANK)) (V_a : Arv Z h0 a1 ka .byte (1 : Int32) [(.int u0)] (.int (0 : Int32))) :
    MetFree l (⟨"com/example/policylint/policylint/PolicySyntax", "of", "([B)Lcom/example/policylint/policylint/PolicySyntax;"⟩ : MethodName) (head1 (Jvm.Cond.code (⟨"com/example/policylint/policylint/PolicySyntax", "of", "([B)Lcom/example/policylint/policylint/PolicySyntax;"⟩ : MethodName) prog_7_method_4_code 6 (some (.object "com/example/policylint/policylint/PolicySyntax")) :: ws) ({ frames := 0, cells := 0, slots := 0, locals := 0 } : Room)) (fun a U => a = #[(.ref a1)] ∧ Z.Warmed39 U.vm ∧ U.heap = h0) (fun _ _ _ _ _ => True) (fun _ U o U' => ∃ v L, o = .returned v ∧ QK n0 (Kv (some (.ref (b2t1_0 w_XACML w_COMPACT w_BLANK u0))) (fun h => h = h0)) v U'.heap L ∧ FrameEnd U o U' L ({ frames := 0, cells := 0, slots := 0, locals := 0 } : Room).cells ({ frames := 0, cells := 0, slots := 0, locals := 0 } : Room).slots) := by
  refine MetFree.of_bodySF (plainFor_of_name pn_1) hisR ?_
  intro p e s m args below meth c s₁ Bd hml0 hP hK
  obtain ⟨rfl, hZ, hh⟩ := hP
  have hx := Bd.exec
  have hby := Bd.bytes
  have hml : c.maxLocals = 6 := hml0
  have hown : s.vm.findClass "com/example/policylint/policylint/PolicySyntax" = some m.cls := findClass_of_methodNamed Bd.named
  have hnm := (name_of_methodNamed Bd.named Bd.method).1
  have X0 : Stand p l e ({ frames := 0, cells := 0, slots := 0, locals := 0 } : Room) s m #[(.ref a1)] below meth c s₁ [] 0 0 := Stand.of_body Bd
  have e0 : s₁.heap = h0 := by rw [← hh, Bd.state]; rfl
  have N0 := Fr.nil n0
  refine gl_start (ef_2t1 m a1) ?_
  show Gl p e below s n0 ({ frames := 0, cells := 0, slots := 0, locals := 0 } : Room).cells ({ frames := 0, cells := 0, slots := 0, locals := 0 } : Room).slots (Kv (some (.ref (if u0 = (60 : Int32) then w_XACML else (if u0 = (32 : Int32) then (b2t1_95 w_COMPACT w_BLANK) else (if u0 = (9 : Int32) then (b2t1_95 w_COMPACT w_BLANK) else (if u0 = (13 : Int32) then (b2t1_95 w_COMPACT w_BLANK) else (if u0 = (10 : Int32) then (b2t1_95 w_COMPACT w_BLANK) else (if u0 = (0 : Int32) then (b2t1_95 w_COMPACT w_BLANK) else (if u0 = (-17 : Int32) then (b2t1_95 w_COMPACT w_BLANK) else (if u0 = (-69 : Int32) then (b2t1_95 w_COMPACT w_BLANK) else (if u0 = (-65 : Int32) then (b2t1_95 w_COMPACT w_BLANK) else (if u0 = (-2 : Int32) then (b2t1_95 w_COMPACT w_BLANK) else (if u0 = (-1 : Int32) then (b2t1_95 w_COMPACT w_BLANK) else (b2t1_100 w_COMPACT w_BLANK (0 : Int32))))))))))))))) (fun h => h = h0)) (s₁.setTop (mkF m 0 #[.val (.ref a1), .unset, .unset, .unset, .unset, .unset] []))
  refine go (fun t k => XS.aloadN X0.here hx rfl (hb hby d2_0) rfl rfl k) ?_
  show Gl _ _ _ _ _ _ _ _ (s₁.setTop (mkF m 1 #[.val (.ref a1), .unset, .unset, .unset, .unset, .unset] [(.ref a1)]))
  refine go (fun t k => XS.astoreN X0.here hx rfl (hb hby d2_1) rfl rfl (l' := #[.val (.ref a1), .val (.ref a1), .unset, .unset, .unset, .unset]) rfl k) ?_
  show Gl _ _ _ _ _ _ _ _ (s₁.setTop (mkF m 2 #[.val (.ref a1), .val (.ref a1), .unset, .unset, .unset, .unset] []))
  refine go (fun t k => XS.aloadN X0.here hx rfl (hb hby d2_2) rfl rfl k) ?_
  show Gl _ _ _ _ _ _ _ _ (s₁.setTop (mkF m 3 #[.val (.ref a1), .val (.ref a1), .unset, .unset, .unset, .unset] [(.ref a1)]))
  obtain ⟨cl1, Ar1, vq1, S1, M1, Hh1, G1⟩ := id V_a
  have hl1 : cl1.slots.size.toInt32 = (1 : Int32) := len_of S1 M1
  refine go (fun t k => X0.arraylength hx (by rw [e0]; exact Ar1.1) (State.isArrayOf_alike hZ.alike Ar1.2.1) (g := (mkF m 3 #[.val (.ref a1), .val (.ref a1), .unset, .unset, .unset, .unset] [(.ref a1)])) rfl rfl (hb hby d2_3) _ (by rw [hl1]; exact k)) ?_
  show Gl _ _ _ _ _ _ _ _ (s₁.setTop (mkF m 4 #[.val (.ref a1), .val (.ref a1), .unset, .unset, .unset, .unset] [(.int (1 : Int32))]))
  refine go (fun t k => XS.istoreN X0.here hx rfl (hb hby d2_4) rfl (l' := #[.val (.ref a1), .val (.ref a1), .val (.int (1 : Int32)), .unset, .unset, .unset]) rfl k) ?_
  show Gl _ _ _ _ _ _ _ _ (s₁.setTop (mkF m 5 #[.val (.ref a1), .val (.ref a1), .val (.int (1 : Int32)), .unset, .unset, .unset] []))
  refine go (fun t k => XS.iconst X0.here hx rfl (hb hby d2_5) k) ?_
  show Gl _ _ _ _ _ _ _ _ (s₁.setTop (mkF m 6 #[.val (.ref a1), .val (.ref a1), .val (.int (1 : Int32)), .unset, .unset, .unset] [(.int (0 : Int32))]))
  refine go (fun t k => XS.istoreN X0.here hx rfl (hb hby d2_6) rfl (l' := #[.val (.ref a1), .val (.ref a1), .val (.int (1 : Int32)), .val (.int (0 : Int32)), .unset, .unset]) rfl k) ?_
  show Gl _ _ _ _ _ _ _ _ (s₁.setTop (mkF m 7 #[.val (.ref a1), .val (.ref a1), .val (.int (1 : Int32)), .val (.int (0 : Int32)), .unset, .unset] []))
  refine go (fun t k => XS.iloadN X0.here hx rfl (hb hby d2_7) rfl  k) ?_
  show Gl _ _ _ _ _ _ _ _ (s₁.setTop (mkF m 8 #[.val (.ref a1), .val (.ref a1), .val (.int (1 : Int32)), .val (.int (0 : Int32)), .unset, .unset] [(.int (0 : Int32))]))
  refine go (fun t k => XS.iloadN X0.here hx rfl (hb hby d2_8) rfl  k) ?_
  show Gl _ _ _ _ _ _ _ _ (s₁.setTop (mkF m 9 #[.val (.ref a1), .val (.ref a1), .val (.int (1 : Int32)), .val (.int (0 : Int32)), .unset, .unset] [(.int (1 : Int32)), (.int (0 : Int32))]))
  refine go (fun t k => XS.icmpNo X0.here hx rfl (hb hby d2_9) rfl (tlt (by decide : (0 : Int32) < (1 : Int32))).2.1 k) ?_
  show Gl _ _ _ _ _ _ _ _ (s₁.setTop (mkF m 12 #[.val (.ref a1), .val (.ref a1), .val (.int (1 : Int32)), .val (.int (0 : Int32)), .unset, .unset] []))
  refine go (fun t k => XS.aloadN X0.here hx rfl (hb hby d2_12) rfl rfl k) ?_
  show Gl _ _ _ _ _ _ _ _ (s₁.setTop (mkF m 13 #[.val (.ref a1), .val (.ref a1), .val (.int (1 : Int32)), .val (.int (0 : Int32)), .unset, .unset] [(.ref a1)]))
  refine go (fun t k => XS.iloadN X0.here hx rfl (hb hby d2_13) rfl  k) ?_
  show Gl _ _ _ _ _ _ _ _ (s₁.setTop (mkF m 14 #[.val (.ref a1), .val (.ref a1), .val (.int (1 : Int32)), .val (.int (0 : Int32)), .unset, .unset] [(.int (0 : Int32)), (.ref a1)]))
  obtain ⟨cl2, Ar2, vq2, S2, M2, Hh2, G2⟩ := id V_a
  have hin2 : ¬ ((0 : Int32) < 0 ∨ cl2.slots.size ≤ ((0 : Int32)).toNatClampNeg) := inb_of S2 ⟨by decide, by decide⟩
  have hat2 : cl2.slots[((0 : Int32)).toNatClampNeg]? = some (.int u0) := Hh2 0 (by rw [S2]; decide)
  refine go (fun t k => X0.baloadBytes hx (j := (0 : Int32)) (v := (.int u0)) (by rw [e0]; exact Ar2.1) (State.isArrayOf_alike hZ.alike Ar2.2.1) Ar2.2.2 hin2 hat2 (g := (mkF m 14 #[.val (.ref a1), .val (.ref a1), .val (.int (1 : Int32)), .val (.int (0 : Int32)), .unset, .unset] [(.int (0 : Int32)), (.ref a1)])) rfl rfl (hb hby d2_14) _ k) ?_
  show Gl _ _ _ _ _ _ _ _ (s₁.setTop (mkF m 15 #[.val (.ref a1), .val (.ref a1), .val (.int (1 : Int32)), .val (.int (0 : Int32)), .unset, .unset] [(.int u0)]))
  refine go (fun t k => XS.istore X0.here hx rfl (hb hby d2_15) rfl (l' := #[.val (.ref a1), .val (.ref a1), .val (.int (1 : Int32)), .val (.int (0 : Int32)), .val (.int u0), .unset]) rfl k) ?_
  show Gl _ _ _ _ _ _ _ _ (s₁.setTop (mkF m 17 #[.val (.ref a1), .val (.ref a1), .val (.int (1 : Int32)), .val (.int (0 : Int32)), .val (.int u0), .unset] []))
  refine go (fun t k => XS.iload X0.here hx rfl (hb hby d2_17) rfl  k) ?_
  show Gl _ _ _ _ _ _ _ _ (s₁.setTop (mkF m 19 #[.val (.ref a1), .val (.ref a1), .val (.int (1 : Int32)), .val (.int (0 : Int32)), .val (.int u0), .unset] [(.int u0)]))
  refine go (fun t k => XS.bipush X0.here hx rfl (hb hby d2_19) k) ?_
  show Gl _ _ _ _ _ _ _ _ (s₁.setTop (mkF m 21 #[.val (.ref a1), .val (.ref a1), .val (.int (1 : Int32)), .val (.int (0 : Int32)), .val (.int u0), .unset] [(.int (60 : Int32)), (.int u0)]))
  refine gR (c := u0 = (60 : Int32)) (fun hc21 => ?_) (fun hc21 => ?_)
  · refine go (fun t k => XS.icmpNo X0.here hx rfl (hb hby d2_21) rfl (teq hc21).2 k) ?_
    show Gl _ _ _ _ _ _ _ _ (s₁.setTop (mkF m 24 #[.val (.ref a1), .val (.ref a1), .val (.int (1 : Int32)), .val (.int (0 : Int32)), .val (.int u0), .unset] []))
    obtain ⟨T3, X3, e3, st3⟩ := getS2 X0 hx hZ hown (host := "") (Or.inl (hw _ (List.mem_of_getElem? (i := 21) rfl))) Via.refl e0 S_XACML (g := (mkF m 24 #[.val (.ref a1), .val (.ref a1), .val (.int (1 : Int32)), .val (.int (0 : Int32)), .val (.int u0), .unset] [])) rfl (hb hby d2_24)
    refine go (fun t k => st3 _ k) ?_
    show Gl _ _ _ _ _ _ _ _ (T3.setTop (mkF m 27 #[.val (.ref a1), .val (.ref a1), .val (.int (1 : Int32)), .val (.int (0 : Int32)), .val (.int u0), .unset] [(.ref w_XACML)]))
    exact endR X3 hx Bd rfl (hb hby d2_27) ⟨rfl, e3⟩ N0 (by decide) (by decide)
  · refine go (fun t k => XS.icmpYes X0.here hx rfl (pc0 := 21) (pc' := 28) rfl (hb hby d2_21) rfl (feq hc21).2 (by decide) (by decide) k) ?_
    show Gl _ _ _ _ _ _ _ _ (s₁.setTop (mkF m 28 #[.val (.ref a1), .val (.ref a1), .val (.int (1 : Int32)), .val (.int (0 : Int32)), .val (.int u0), .unset] []))
    refine go (fun t k => XS.iload X0.here hx rfl (hb hby d2_28) rfl  k) ?_
    show Gl _ _ _ _ _ _ _ _ (s₁.setTop (mkF m 30 #[.val (.ref a1), .val (.ref a1), .val (.int (1 : Int32)), .val (.int (0 : Int32)), .val (.int u0), .unset] [(.int u0)]))
    refine go (fun t k => XS.bipush X0.here hx rfl (hb hby d2_30) k) ?_
    show Gl _ _ _ _ _ _ _ _ (s₁.setTop (mkF m 32 #[.val (.ref a1), .val (.ref a1), .val (.int (1 : Int32)), .val (.int (0 : Int32)), .val (.int u0), .unset] [(.int (32 : Int32)), (.int u0)]))
    have J100 : ∀ (s0_100 : Int32) (TJ100 : State) (lJ100 : List Loc) (XJ100 : Stand p l e ({ frames := 0, cells := 0, slots := 0, locals := 0 } : Room) s m #[(.ref a1)] below meth c TJ100 lJ100 0 0) (eJ100 : TJ100.heap = h0) (NJ100 : Fr n0 lJ100), Gl p e below s n0 ({ frames := 0, cells := 0, slots := 0, locals := 0 } : Room).cells ({ frames := 0, cells := 0, slots := 0, locals := 0 } : Room).slots (Kv (some (.ref (b2t1_100 w_COMPACT w_BLANK s0_100))) (fun h => h = h0)) (TJ100.setTop (mkF m 100 #[.val (.ref a1), .val (.ref a1), .val (.int (1 : Int32)), .val (.int (0 : Int32)), .val (.int u0), .unset] [(.int s0_100)])) := by
      intro s0_100 TJ100 lJ100 XJ100 eJ100 NJ100
      show Gl _ _ _ _ _ _ _ (Kv (some (.ref (if s0_100 = (0 : Int32) then w_COMPACT else w_BLANK))) _) _
      refine go (fun t k => XS.istore XJ100.here hx rfl (hb hby d2_100) rfl (l' := #[.val (.ref a1), .val (.ref a1), .val (.int (1 : Int32)), .val (.int (0 : Int32)), .val (.int u0), .val (.int s0_100)]) rfl k) ?_
      show Gl _ _ _ _ _ _ _ _ (TJ100.setTop (mkF m 102 #[.val (.ref a1), .val (.ref a1), .val (.int (1 : Int32)), .val (.int (0 : Int32)), .val (.int u0), .val (.int s0_100)] []))
      refine go (fun t k => XS.iload XJ100.here hx rfl (hb hby d2_102) rfl  k) ?_
      show Gl _ _ _ _ _ _ _ _ (TJ100.setTop (mkF m 104 #[.val (.ref a1), .val (.ref a1), .val (.int (1 : Int32)), .val (.int (0 : Int32)), .val (.int u0), .val (.int s0_100)] [(.int s0_100)]))
      refine gR (c := s0_100 = (0 : Int32)) (fun hc104 => ?_) (fun hc104 => ?_)
      · refine go (fun t k => XS.ifNo XJ100.here hx rfl (hb hby d2_104) rfl ((if0 _ _).trans (teq hc104).2) k) ?_
        show Gl _ _ _ _ _ _ _ _ (TJ100.setTop (mkF m 107 #[.val (.ref a1), .val (.ref a1), .val (.int (1 : Int32)), .val (.int (0 : Int32)), .val (.int u0), .val (.int s0_100)] []))
        obtain ⟨T5, X5, e5, st5⟩ := getS2 XJ100 hx hZ hown (host := "") (Or.inl (hw _ (List.mem_of_getElem? (i := 24) rfl))) Via.refl eJ100 S_COMPACT (g := (mkF m 107 #[.val (.ref a1), .val (.ref a1), .val (.int (1 : Int32)), .val (.int (0 : Int32)), .val (.int u0), .val (.int s0_100)] [])) rfl (hb hby d2_107)
        refine go (fun t k => st5 _ k) ?_
        show Gl _ _ _ _ _ _ _ _ (T5.setTop (mkF m 110 #[.val (.ref a1), .val (.ref a1), .val (.int (1 : Int32)), .val (.int (0 : Int32)), .val (.int u0), .val (.int s0_100)] [(.ref w_COMPACT)]))
        exact endR X5 hx Bd rfl (hb hby d2_110) ⟨rfl, e5⟩ NJ100 (by decide) (by decide)
      · refine go (fun t k => XS.ifYes XJ100.here hx rfl (pc0 := 104) (pc' := 111) rfl (hb hby d2_104) rfl ((if0 _ _).trans (feq hc104).2) (by decide) (by decide) k) ?_
        show Gl _ _ _ _ _ _ _ _ (TJ100.setTop (mkF m 111 #[.val (.ref a1), .val (.ref a1), .val (.int (1 : Int32)), .val (.int (0 : Int32)), .val (.int u0), .val (.int s0_100)] []))
        refine go (fun t k => XS.iinc XJ100.here hx rfl (hb hby d2_111) rfl (l' := #[.val (.ref a1), .val (.ref a1), .val (.int (1 : Int32)), .val (.int (1 : Int32)), .val (.int u0), .val (.int s0_100)]) rfl k) ?_
        show Gl _ _ _ _ _ _ _ _ (TJ100.setTop (mkF m 114 #[.val (.ref a1), .val (.ref a1), .val (.int (1 : Int32)), .val (.int (1 : Int32)), .val (.int u0), .val (.int s0_100)] []))
        refine go (fun t k => XS.goto XJ100.here hx rfl (pc0 := 114) (pc' := 7) rfl (hb hby d2_114) (by decide) (by decide) k) ?_
        show Gl _ _ _ _ _ _ _ _ (TJ100.setTop (mkF m 7 #[.val (.ref a1), .val (.ref a1), .val (.int (1 : Int32)), .val (.int (1 : Int32)), .val (.int u0), .val (.int s0_100)] []))
        refine go (fun t k => XS.iloadN XJ100.here hx rfl (hb hby d2_7) rfl  k) ?_
        show Gl _ _ _ _ _ _ _ _ (TJ100.setTop (mkF m 8 #[.val (.ref a1), .val (.ref a1), .val (.int (1 : Int32)), .val (.int (1 : Int32)), .val (.int u0), .val (.int s0_100)] [(.int (1 : Int32))]))
        refine go (fun t k => XS.iloadN XJ100.here hx rfl (hb hby d2_8) rfl  k) ?_
        show Gl _ _ _ _ _ _ _ _ (TJ100.setTop (mkF m 9 #[.val (.ref a1), .val (.ref a1), .val (.int (1 : Int32)), .val (.int (1 : Int32)), .val (.int u0), .val (.int s0_100)] [(.int (1 : Int32)), (.int (1 : Int32))]))
        refine go (fun t k => XS.icmpYes XJ100.here hx rfl (pc0 := 9) (pc' := 117) rfl (hb hby d2_9) rfl (flt (by decide : ¬ ((1 : Int32) < (1 : Int32)))).2.1 (by decide) (by decide) k) ?_
        show Gl _ _ _ _ _ _ _ _ (TJ100.setTop (mkF m 117 #[.val (.ref a1), .val (.ref a1), .val (.int (1 : Int32)), .val (.int (1 : Int32)), .val (.int u0), .val (.int s0_100)] []))
        obtain ⟨T6, X6, e6, st6⟩ := getS2 XJ100 hx hZ hown (host := "") (Or.inl (hw _ (List.mem_of_getElem? (i := 12) rfl))) Via.refl eJ100 S_BLANK (g := (mkF m 117 #[.val (.ref a1), .val (.ref a1), .val (.int (1 : Int32)), .val (.int (1 : Int32)), .val (.int u0), .val (.int s0_100)] [])) rfl (hb hby d2_117)
        refine go (fun t k => st6 _ k) ?_
        show Gl _ _ _ _ _ _ _ _ (T6.setTop (mkF m 120 #[.val (.ref a1), .val (.ref a1), .val (.int (1 : Int32)), .val (.int (1 : Int32)), .val (.int u0), .val (.int s0_100)] [(.ref w_BLANK)]))
        exact endR X6 hx Bd rfl (hb hby d2_120) ⟨rfl, e6⟩ NJ100 (by decide) (by decide)
    have J95 : ∀  (TJ95 : State) (lJ95 : List Loc) (XJ95 : Stand p l e ({ frames := 0, cells := 0, slots := 0, locals := 0 } : Room) s m #[(.ref a1)] below meth c TJ95 lJ95 0 0) (eJ95 : TJ95.heap = h0) (NJ95 : Fr n0 lJ95), Gl p e below s n0 ({ frames := 0, cells := 0, slots := 0, locals := 0 } : Room).cells ({ frames := 0, cells := 0, slots := 0, locals := 0 } : Room).slots (Kv (some (.ref (b2t1_95 w_COMPACT w_BLANK))) (fun h => h = h0)) (TJ95.setTop (mkF m 95 #[.val (.ref a1), .val (.ref a1), .val (.int (1 : Int32)), .val (.int (0 : Int32)), .val (.int u0), .unset] [])) := by
      intro  TJ95 lJ95 XJ95 eJ95 NJ95
      show Gl _ _ _ _ _ _ _ (Kv (some (.ref (b2t1_100 w_COMPACT w_BLANK (1 : Int32)))) _) _
      refine go (fun t k => XS.iconst XJ95.here hx rfl (hb hby d2_95) k) ?_
      show Gl _ _ _ _ _ _ _ _ (TJ95.setTop (mkF m 96 #[.val (.ref a1), .val (.ref a1), .val (.int (1 : Int32)), .val (.int (0 : Int32)), .val (.int u0), .unset] [(.int (1 : Int32))]))
      refine go (fun t k => XS.goto XJ95.here hx rfl (pc0 := 96) (pc' := 100) rfl (hb hby d2_96) (by decide) (by decide) k) ?_
      show Gl _ _ _ _ _ _ _ _ (TJ95.setTop (mkF m 100 #[.val (.ref a1), .val (.ref a1), .val (.int (1 : Int32)), .val (.int (0 : Int32)), .val (.int u0), .unset] [(.int (1 : Int32))]))
      exact J100 (1 : Int32) TJ95 _ XJ95 eJ95 NJ95
    refine gR (c := u0 = (32 : Int32)) (fun hc32 => ?_) (fun hc32 => ?_)
    · refine go (fun t k => XS.icmpYes X0.here hx rfl (pc0 := 32) (pc' := 95) rfl (hb hby d2_32) rfl (teq hc32).1 (by decide) (by decide) k) ?_
      show Gl _ _ _ _ _ _ _ _ (s₁.setTop (mkF m 95 #[.val (.ref a1), .val (.ref a1), .val (.int (1 : Int32)), .val (.int (0 : Int32)), .val (.int u0), .unset] []))
      exact J95  s₁ _ X0 e0 N0
    · refine go (fun t k => XS.icmpNo X0.here hx rfl (hb hby d2_32) rfl (feq hc32).1 k) ?_
      show Gl _ _ _ _ _ _ _ _ (s₁.setTop (mkF m 35 #[.val (.ref a1), .val (.ref a1), .val (.int (1 : Int32)), .val (.int (0 : Int32)), .val (.int u0), .unset] []))
      refine go (fun t k => XS.iload X0.here hx rfl (hb hby d2_35) rfl  k) ?_
      show Gl _ _ _ _ _ _ _ _ (s₁.setTop (mkF m 37 #[.val (.ref a1), .val (.ref a1), .val (.int (1 : Int32)), .val (.int (0 : Int32)), .val (.int u0), .unset] [(.int u0)]))
      refine go (fun t k => XS.bipush X0.here hx rfl (hb hby d2_37) k) ?_
      show Gl _ _ _ _ _ _ _ _ (s₁.setTop (mkF m 39 #[.val (.ref a1), .val (.ref a1), .val (.int (1 : Int32)), .val (.int (0 : Int32)), .val (.int u0), .unset] [(.int (9 : Int32)), (.int u0)]))
      refine gR (c := u0 = (9 : Int32)) (fun hc39 => ?_) (fun hc39 => ?_)
      · refine go (fun t k => XS.icmpYes X0.here hx rfl (pc0 := 39) (pc' := 95) rfl (hb hby d2_39) rfl (teq hc39).1 (by decide) (by decide) k) ?_
        show Gl _ _ _ _ _ _ _ _ (s₁.setTop (mkF m 95 #[.val (.ref a1), .val (.ref a1), .val (.int (1 : Int32)), .val (.int (0 : Int32)), .val (.int u0), .unset] []))
        exact J95  s₁ _ X0 e0 N0
      · refine go (fun t k => XS.icmpNo X0.here hx rfl (hb hby d2_39) rfl (feq hc39).1 k) ?_
        show Gl _ _ _ _ _ _ _ _ (s₁.setTop (mkF m 42 #[.val (.ref a1), .val (.ref a1), .val (.int (1 : Int32)), .val (.int (0 : Int32)), .val (.int u0), .unset] []))
        refine go (fun t k => XS.iload X0.here hx rfl (hb hby d2_42) rfl  k) ?_
        show Gl _ _ _ _ _ _ _ _ (s₁.setTop (mkF m 44 #[.val (.ref a1), .val (.ref a1), .val (.int (1 : Int32)), .val (.int (0 : Int32)), .val (.int u0), .unset] [(.int u0)]))
        refine go (fun t k => XS.bipush X0.here hx rfl (hb hby d2_44) k) ?_
        show Gl _ _ _ _ _ _ _ _ (s₁.setTop (mkF m 46 #[.val (.ref a1), .val (.ref a1), .val (.int (1 : Int32)), .val (.int (0 : Int32)), .val (.int u0), .unset] [(.int (13 : Int32)), (.int u0)]))
        refine gR (c := u0 = (13 : Int32)) (fun hc46 => ?_) (fun hc46 => ?_)
        · refine go (fun t k => XS.icmpYes X0.here hx rfl (pc0 := 46) (pc' := 95) rfl (hb hby d2_46) rfl (teq hc46).1 (by decide) (by decide) k) ?_
          show Gl _ _ _ _ _ _ _ _ (s₁.setTop (mkF m 95 #[.val (.ref a1), .val (.ref a1), .val (.int (1 : Int32)), .val (.int (0 : Int32)), .val (.int u0), .unset] []))
          exact J95  s₁ _ X0 e0 N0
        · refine go (fun t k => XS.icmpNo X0.here hx rfl (hb hby d2_46) rfl (feq hc46).1 k) ?_
          show Gl _ _ _ _ _ _ _ _ (s₁.setTop (mkF m 49 #[.val (.ref a1), .val (.ref a1), .val (.int (1 : Int32)), .val (.int (0 : Int32)), .val (.int u0), .unset] []))
          refine go (fun t k => XS.iload X0.here hx rfl (hb hby d2_49) rfl  k) ?_
          show Gl _ _ _ _ _ _ _ _ (s₁.setTop (mkF m 51 #[.val (.ref a1), .val (.ref a1), .val (.int (1 : Int32)), .val (.int (0 : Int32)), .val (.int u0), .unset] [(.int u0)]))
          refine go (fun t k => XS.bipush X0.here hx rfl (hb hby d2_51) k) ?_
          show Gl _ _ _ _ _ _ _ _ (s₁.setTop (mkF m 53 #[.val (.ref a1), .val (.ref a1), .val (.int (1 : Int32)), .val (.int (0 : Int32)), .val (.int u0), .unset] [(.int (10 : Int32)), (.int u0)]))
          refine gR (c := u0 = (10 : Int32)) (fun hc53 => ?_) (fun hc53 => ?_)
          · refine go (fun t k => XS.icmpYes X0.here hx rfl (pc0 := 53) (pc' := 95) rfl (hb hby d2_53) rfl (teq hc53).1 (by decide) (by decide) k) ?_
            show Gl _ _ _ _ _ _ _ _ (s₁.setTop (mkF m 95 #[.val (.ref a1), .val (.ref a1), .val (.int (1 : Int32)), .val (.int (0 : Int32)), .val (.int u0), .unset] []))
            exact J95  s₁ _ X0 e0 N0
          · refine go (fun t k => XS.icmpNo X0.here hx rfl (hb hby d2_53) rfl (feq hc53).1 k) ?_
            show Gl _ _ _ _ _ _ _ _ (s₁.setTop (mkF m 56 #[.val (.ref a1), .val (.ref a1), .val (.int (1 : Int32)), .val (.int (0 : Int32)), .val (.int u0), .unset] []))
            refine go (fun t k => XS.iload X0.here hx rfl (hb hby d2_56) rfl  k) ?_
            show Gl _ _ _ _ _ _ _ _ (s₁.setTop (mkF m 58 #[.val (.ref a1), .val (.ref a1), .val (.int (1 : Int32)), .val (.int (0 : Int32)), .val (.int u0), .unset] [(.int u0)]))
            refine gR (c := u0 = (0 : Int32)) (fun hc58 => ?_) (fun hc58 => ?_)
            · refine go (fun t k => XS.ifYes X0.here hx rfl (pc0 := 58) (pc' := 95) rfl (hb hby d2_58) rfl ((if0 _ _).trans (teq hc58).1) (by decide) (by decide) k) ?_
              show Gl _ _ _ _ _ _ _ _ (s₁.setTop (mkF m 95 #[.val (.ref a1), .val (.ref a1), .val (.int (1 : Int32)), .val (.int (0 : Int32)), .val (.int u0), .unset] []))
              exact J95  s₁ _ X0 e0 N0
            · refine go (fun t k => XS.ifNo X0.here hx rfl (hb hby d2_58) rfl ((if0 _ _).trans (feq hc58).1) k) ?_
              show Gl _ _ _ _ _ _ _ _ (s₁.setTop (mkF m 61 #[.val (.ref a1), .val (.ref a1), .val (.int (1 : Int32)), .val (.int (0 : Int32)), .val (.int u0), .unset] []))
              refine go (fun t k => XS.iload X0.here hx rfl (hb hby d2_61) rfl  k) ?_
              show Gl _ _ _ _ _ _ _ _ (s₁.setTop (mkF m 63 #[.val (.ref a1), .val (.ref a1), .val (.int (1 : Int32)), .val (.int (0 : Int32)), .val (.int u0), .unset] [(.int u0)]))
              refine go (fun t k => XS.bipush X0.here hx rfl (hb hby d2_63) k) ?_
              show Gl _ _ _ _ _ _ _ _ (s₁.setTop (mkF m 65 #[.val (.ref a1), .val (.ref a1), .val (.int (1 : Int32)), .val (.int (0 : Int32)), .val (.int u0), .unset] [(.int (-17 : Int32)), (.int u0)]))
              refine gR (c := u0 = (-17 : Int32)) (fun hc65 => ?_) (fun hc65 => ?_)
              · refine go (fun t k => XS.icmpYes X0.here hx rfl (pc0 := 65) (pc' := 95) rfl (hb hby d2_65) rfl (teq hc65).1 (by decide) (by decide) k) ?_
                show Gl _ _ _ _ _ _ _ _ (s₁.setTop (mkF m 95 #[.val (.ref a1), .val (.ref a1), .val (.int (1 : Int32)), .val (.int (0 : Int32)), .val (.int u0), .unset] []))
                exact J95  s₁ _ X0 e0 N0
              · refine go (fun t k => XS.icmpNo X0.here hx rfl (hb hby d2_65) rfl (feq hc65).1 k) ?_
                show Gl _ _ _ _ _ _ _ _ (s₁.setTop (mkF m 68 #[.val (.ref a1), .val (.ref a1), .val (.int (1 : Int32)), .val (.int (0 : Int32)), .val (.int u0), .unset] []))
                refine go (fun t k => XS.iload X0.here hx rfl (hb hby d2_68) rfl  k) ?_
                show Gl _ _ _ _ _ _ _ _ (s₁.setTop (mkF m 70 #[.val (.ref a1), .val (.ref a1), .val (.int (1 : Int32)), .val (.int (0 : Int32)), .val (.int u0), .unset] [(.int u0)]))
                refine go (fun t k => XS.bipush X0.here hx rfl (hb hby d2_70) k) ?_
                show Gl _ _ _ _ _ _ _ _ (s₁.setTop (mkF m 72 #[.val (.ref a1), .val (.ref a1), .val (.int (1 : Int32)), .val (.int (0 : Int32)), .val (.int u0), .unset] [(.int (-69 : Int32)), (.int u0)]))
                refine gR (c := u0 = (-69 : Int32)) (fun hc72 => ?_) (fun hc72 => ?_)
                · refine go (fun t k => XS.icmpYes X0.here hx rfl (pc0 := 72) (pc' := 95) rfl (hb hby d2_72) rfl (teq hc72).1 (by decide) (by decide) k) ?_
                  show Gl _ _ _ _ _ _ _ _ (s₁.setTop (mkF m 95 #[.val (.ref a1), .val (.ref a1), .val (.int (1 : Int32)), .val (.int (0 : Int32)), .val (.int u0), .unset] []))
                  exact J95  s₁ _ X0 e0 N0
                · refine go (fun t k => XS.icmpNo X0.here hx rfl (hb hby d2_72) rfl (feq hc72).1 k) ?_
                  show Gl _ _ _ _ _ _ _ _ (s₁.setTop (mkF m 75 #[.val (.ref a1), .val (.ref a1), .val (.int (1 : Int32)), .val (.int (0 : Int32)), .val (.int u0), .unset] []))
                  refine go (fun t k => XS.iload X0.here hx rfl (hb hby d2_75) rfl  k) ?_
                  show Gl _ _ _ _ _ _ _ _ (s₁.setTop (mkF m 77 #[.val (.ref a1), .val (.ref a1), .val (.int (1 : Int32)), .val (.int (0 : Int32)), .val (.int u0), .unset] [(.int u0)]))
                  refine go (fun t k => XS.bipush X0.here hx rfl (hb hby d2_77) k) ?_
                  show Gl _ _ _ _ _ _ _ _ (s₁.setTop (mkF m 79 #[.val (.ref a1), .val (.ref a1), .val (.int (1 : Int32)), .val (.int (0 : Int32)), .val (.int u0), .unset] [(.int (-65 : Int32)), (.int u0)]))
                  refine gR (c := u0 = (-65 : Int32)) (fun hc79 => ?_) (fun hc79 => ?_)
                  · refine go (fun t k => XS.icmpYes X0.here hx rfl (pc0 := 79) (pc' := 95) rfl (hb hby d2_79) rfl (teq hc79).1 (by decide) (by decide) k) ?_
                    show Gl _ _ _ _ _ _ _ _ (s₁.setTop (mkF m 95 #[.val (.ref a1), .val (.ref a1), .val (.int (1 : Int32)), .val (.int (0 : Int32)), .val (.int u0), .unset] []))
                    exact J95  s₁ _ X0 e0 N0
                  · refine go (fun t k => XS.icmpNo X0.here hx rfl (hb hby d2_79) rfl (feq hc79).1 k) ?_
                    show Gl _ _ _ _ _ _ _ _ (s₁.setTop (mkF m 82 #[.val (.ref a1), .val (.ref a1), .val (.int (1 : Int32)), .val (.int (0 : Int32)), .val (.int u0), .unset] []))
                    refine go (fun t k => XS.iload X0.here hx rfl (hb hby d2_82) rfl  k) ?_
                    show Gl _ _ _ _ _ _ _ _ (s₁.setTop (mkF m 84 #[.val (.ref a1), .val (.ref a1), .val (.int (1 : Int32)), .val (.int (0 : Int32)), .val (.int u0), .unset] [(.int u0)]))
                    refine go (fun t k => XS.bipush X0.here hx rfl (hb hby d2_84) k) ?_
                    show Gl _ _ _ _ _ _ _ _ (s₁.setTop (mkF m 86 #[.val (.ref a1), .val (.ref a1), .val (.int (1 : Int32)), .val (.int (0 : Int32)), .val (.int u0), .unset] [(.int (-2 : Int32)), (.int u0)]))
                    refine gR (c := u0 = (-2 : Int32)) (fun hc86 => ?_) (fun hc86 => ?_)
                    · refine go (fun t k => XS.icmpYes X0.here hx rfl (pc0 := 86) (pc' := 95) rfl (hb hby d2_86) rfl (teq hc86).1 (by decide) (by decide) k) ?_
                      show Gl _ _ _ _ _ _ _ _ (s₁.setTop (mkF m 95 #[.val (.ref a1), .val (.ref a1), .val (.int (1 : Int32)), .val (.int (0 : Int32)), .val (.int u0), .unset] []))
                      exact J95  s₁ _ X0 e0 N0
                    · refine go (fun t k => XS.icmpNo X0.here hx rfl (hb hby d2_86) rfl (feq hc86).1 k) ?_
                      show Gl _ _ _ _ _ _ _ _ (s₁.setTop (mkF m 89 #[.val (.ref a1), .val (.ref a1), .val (.int (1 : Int32)), .val (.int (0 : Int32)), .val (.int u0), .unset] []))
                      refine go (fun t k => XS.iload X0.here hx rfl (hb hby d2_89) rfl  k) ?_
                      show Gl _ _ _ _ _ _ _ _ (s₁.setTop (mkF m 91 #[.val (.ref a1), .val (.ref a1), .val (.int (1 : Int32)), .val (.int (0 : Int32)), .val (.int u0), .unset] [(.int u0)]))
                      refine go (fun t k => XS.iconst X0.here hx rfl (hb hby d2_91) k) ?_
                      show Gl _ _ _ _ _ _ _ _ (s₁.setTop (mkF m 92 #[.val (.ref a1), .val (.ref a1), .val (.int (1 : Int32)), .val (.int (0 : Int32)), .val (.int u0), .unset] [(.int (-1 : Int32)), (.int u0)]))
                      refine gR (c := u0 = (-1 : Int32)) (fun hc92 => ?_) (fun hc92 => ?_)
                      · refine go (fun t k => XS.icmpNo X0.here hx rfl (hb hby d2_92) rfl (teq hc92).2 k) ?_
                        show Gl _ _ _ _ _ _ _ _ (s₁.setTop (mkF m 95 #[.val (.ref a1), .val (.ref a1), .val (.int (1 : Int32)), .val (.int (0 : Int32)), .val (.int u0), .unset] []))
                        exact J95  s₁ _ X0 e0 N0
                      · refine go (fun t k => XS.icmpYes X0.here hx rfl (pc0 := 92) (pc' := 99) rfl (hb hby d2_92) rfl (feq hc92).2 (by decide) (by decide) k) ?_
                        show Gl _ _ _ _ _ _ _ _ (s₁.setTop (mkF m 99 #[.val (.ref a1), .val (.ref a1), .val (.int (1 : Int32)), .val (.int (0 : Int32)), .val (.int u0), .unset] []))
                        refine go (fun t k => XS.iconst X0.here hx rfl (hb hby d2_99) k) ?_
                        show Gl _ _ _ _ _ _ _ _ (s₁.setTop (mkF m 100 #[.val (.ref a1), .val (.ref a1), .val (.int (1 : Int32)), .val (.int (0 : Int32)), .val (.int u0), .unset] [(.int (0 : Int32))]))
                        exact J100 (0 : Int32) s₁ _ X0 e0 N0
theorem ef_2t2 (m : MethodId) (a1 : Addr) : entryFrame m #[(.ref a1)] 6 = mkF m 0 #[.val (.ref a1), .unset, .unset, .unset, .unset, .unset] [] := by first | (simp [entryFrame, mkF, argsToLocals, Value.category]; done) | rfl
def b2t2_100t1 (w_COMPACT : Addr) (w_BLANK : Addr) (s0_100100 : Int32) : Addr := (if s0_100100 = (0 : Int32) then w_COMPACT else w_BLANK)
def b2t2_95t1 (w_COMPACT : Addr) (w_BLANK : Addr) : Addr := (b2t2_100t1 w_COMPACT w_BLANK (1 : Int32))
def b2t2_100 (w_XACML : Addr) (w_COMPACT : Addr) (w_BLANK : Addr) (u1 : Int32) (s0_100 : Int32) : Addr := (if s0_100 = (0 : Int32) then w_COMPACT else (if u1 = (60 : Int32) then w_XACML else (if u1 = (32 : Int32) then (b2t2_95t1 w_COMPACT w_BLANK) else (if u1 = (9 : Int32) then (b2t2_95t1 w_COMPACT w_BLANK) else (if u1 = (13 : Int32) then (b2t2_95t1 w_COMPACT w_BLANK) else (if u1 = (10 : Int32) then (b2t2_95t1 w_COMPACT w_BLANK) else (if u1 = (0 : Int32) then (b2t2_95t1 w_COMPACT w_BLANK) else (if u1 = (-17 : Int32) then (b2t2_95t1 w_COMPACT w_BLANK) else (if u1 = (-69 : Int32) then (b2t2_95t1 w_COMPACT w_BLANK) else (if u1 = (-65 : Int32) then (b2t2_95t1 w_COMPACT w_BLANK) else (if u1 = (-2 : Int32) then (b2t2_95t1 w_COMPACT w_BLANK) else (if u1 = (-1 : Int32) then (b2t2_95t1 w_COMPACT w_BLANK) else (b2t2_100t1 w_COMPACT w_BLANK (0 : Int32))))))))))))))
def b2t2_95 (w_XACML : Addr) (w_COMPACT : Addr) (w_BLANK : Addr) (u1 : Int32) : Addr := (b2t2_100 w_XACML w_COMPACT w_BLANK u1 (1 : Int32))
def b2t2_0 (w_XACML : Addr) (w_COMPACT : Addr) (w_BLANK : Addr) (u0 : Int32) (u1 : Int32) : Addr := (if u0 = (60 : Int32) then w_XACML else (if u0 = (32 : Int32) then (b2t2_95 w_XACML w_COMPACT w_BLANK u1) else (if u0 = (9 : Int32) then (b2t2_95 w_XACML w_COMPACT w_BLANK u1) else (if u0 = (13 : Int32) then (b2t2_95 w_XACML w_COMPACT w_BLANK u1) else (if u0 = (10 : Int32) then (b2t2_95 w_XACML w_COMPACT w_BLANK u1) else (if u0 = (0 : Int32) then (b2t2_95 w_XACML w_COMPACT w_BLANK u1) else (if u0 = (-17 : Int32) then (b2t2_95 w_XACML w_COMPACT w_BLANK u1) else (if u0 = (-69 : Int32) then (b2t2_95 w_XACML w_COMPACT w_BLANK u1) else (if u0 = (-65 : Int32) then (b2t2_95 w_XACML w_COMPACT w_BLANK u1) else (if u0 = (-2 : Int32) then (b2t2_95 w_XACML w_COMPACT w_BLANK u1) else (if u0 = (-1 : Int32) then (b2t2_95 w_XACML w_COMPACT w_BLANK u1) else (b2t2_100 w_XACML w_COMPACT w_BLANK u1 (0 : Int32)))))))))))))
set_option maxRecDepth 65536 in
set_option maxHeartbeats 40000000 in
theorem rm2t2 (l : Launch) (Z : State) (a0 : Array Value) (hw : ∀ d ∈ tables_1, d.before a0 Z = true) (ws : List Jvm.Cond) (a1 : Addr) (w_XACML : Addr) (w_COMPACT : Addr) (w_BLANK : Addr) (ka : ClassId) (u0 : Int32) (u1 : Int32) (h0 : Heap) (n0 : Nat) (Z0 : n0 ≤ h0.size) (S_XACML : Sta Z h0 "com/example/policylint/policylint/PolicySyntax" "XACML" "Lcom/example/policylint/policylint/PolicySyntax;" (.ref w_XACML)) (S_COMPACT : Sta Z h0 "com/example/policylint/policylint/PolicySyntax" "COMPACT" "Lcom/example/policylint/policylint/PolicySyntax;" (.ref w_COMPACT)) (S_BLANK : Sta Z h0 "com/example/policylint/policylint/PolicySyntax" "BLANK" "Lcom/example/policylint/policylint/PolicySyntax;" (.ref w_BLANK)) (V_a : Arv Z h0 a1 ka .byte (2 : Int32) [(.int u0), (.int u1)] (.int (0 : Int32))) :
    MetFree l (⟨"com/example/policylint/policylint/PolicySyntax", "of", "([B)Lcom/example/policylint/policylint/PolicySyntax;"⟩ : MethodName) (head1 (Jvm.Cond.code (⟨"com/example/policylint/policylint/PolicySyntax", "of", "([B)Lcom/example/policylint/policylint/PolicySyntax;"⟩ : MethodName) prog_7_method_4_code 6 (some (.object "com/example/policylint/policylint/PolicySyntax")) :: ws) ({ frames := 0, cells := 0, slots := 0, locals := 0 } : Room)) (fun a U => a = #[(.ref a1)] ∧ Z.Warmed39 U.vm ∧ U.heap = h0) (fun _ _ _ _ _ => True) (fun _ U o U' => ∃ v L, o = .returned v ∧ QK n0 (Kv (some (.ref (b2t2_0 w_XACML w_COMPACT w_BLANK u0 u1))) (fun h => h = h0)) v U'.heap L ∧ FrameEnd U o U' L ({ frames := 0, cells := 0, slots := 0, locals := 0 } : Room).cells ({ frames := 0, cells := 0, slots := 0, locals := 0 } : Room).slots) := by
  refine MetFree.of_bodySF (plainFor_of_name pn_1) hisR ?_
  intro p e s m args below meth c s₁ Bd hml0 hP hK
  obtain ⟨rfl, hZ, hh⟩ := hP
  have hx := Bd.exec
  have hby := Bd.bytes
  have hml : c.maxLocals = 6 := hml0
  have hown : s.vm.findClass "com/example/policylint/policylint/PolicySyntax" = some m.cls := findClass_of_methodNamed Bd.named
  have hnm := (name_of_methodNamed Bd.named Bd.method).1
  have X0 : Stand p l e ({ frames := 0, cells := 0, slots := 0, locals := 0 } : Room) s m #[(.ref a1)] below meth c s₁ [] 0 0 := Stand.of_body Bd
  have e0 : s₁.heap = h0 := by rw [← hh, Bd.state]; rfl
  have N0 := Fr.nil n0
  refine gl_start (ef_2t2 m a1) ?_
  show Gl p e below s n0 ({ frames := 0, cells := 0, slots := 0, locals := 0 } : Room).cells ({ frames := 0, cells := 0, slots := 0, locals := 0 } : Room).slots (Kv (some (.ref (if u0 = (60 : Int32) then w_XACML else (if u0 = (32 : Int32) then (b2t2_95 w_XACML w_COMPACT w_BLANK u1) else (if u0 = (9 : Int32) then (b2t2_95 w_XACML w_COMPACT w_BLANK u1) else (if u0 = (13 : Int32) then (b2t2_95 w_XACML w_COMPACT w_BLANK u1) else (if u0 = (10 : Int32) then (b2t2_95 w_XACML w_COMPACT w_BLANK u1) else (if u0 = (0 : Int32) then (b2t2_95 w_XACML w_COMPACT w_BLANK u1) else (if u0 = (-17 : Int32) then (b2t2_95 w_XACML w_COMPACT w_BLANK u1) else (if u0 = (-69 : Int32) then (b2t2_95 w_XACML w_COMPACT w_BLANK u1) else (if u0 = (-65 : Int32) then (b2t2_95 w_XACML w_COMPACT w_BLANK u1) else (if u0 = (-2 : Int32) then (b2t2_95 w_XACML w_COMPACT w_BLANK u1) else (if u0 = (-1 : Int32) then (b2t2_95 w_XACML w_COMPACT w_BLANK u1) else (b2t2_100 w_XACML w_COMPACT w_BLANK u1 (0 : Int32))))))))))))))) (fun h => h = h0)) (s₁.setTop (mkF m 0 #[.val (.ref a1), .unset, .unset, .unset, .unset, .unset] []))
  refine go (fun t k => XS.aloadN X0.here hx rfl (hb hby d2_0) rfl rfl k) ?_
  show Gl _ _ _ _ _ _ _ _ (s₁.setTop (mkF m 1 #[.val (.ref a1), .unset, .unset, .unset, .unset, .unset] [(.ref a1)]))
  refine go (fun t k => XS.astoreN X0.here hx rfl (hb hby d2_1) rfl rfl (l' := #[.val (.ref a1), .val (.ref a1), .unset, .unset, .unset, .unset]) rfl k) ?_
  show Gl _ _ _ _ _ _ _ _ (s₁.setTop (mkF m 2 #[.val (.ref a1), .val (.ref a1), .unset, .unset, .unset, .unset] []))
  refine go (fun t k => XS.aloadN X0.here hx rfl (hb hby d2_2) rfl rfl k) ?_
  show Gl _ _ _ _ _ _ _ _ (s₁.setTop (mkF m 3 #[.val (.ref a1), .val (.ref a1), .unset, .unset, .unset, .unset] [(.ref a1)]))
  obtain ⟨cl1, Ar1, vq1, S1, M1, Hh1, G1⟩ := id V_a
  have hl1 : cl1.slots.size.toInt32 = (2 : Int32) := len_of S1 M1
  refine go (fun t k => X0.arraylength hx (by rw [e0]; exact Ar1.1) (State.isArrayOf_alike hZ.alike Ar1.2.1) (g := (mkF m 3 #[.val (.ref a1), .val (.ref a1), .unset, .unset, .unset, .unset] [(.ref a1)])) rfl rfl (hb hby d2_3) _ (by rw [hl1]; exact k)) ?_
  show Gl _ _ _ _ _ _ _ _ (s₁.setTop (mkF m 4 #[.val (.ref a1), .val (.ref a1), .unset, .unset, .unset, .unset] [(.int (2 : Int32))]))
  refine go (fun t k => XS.istoreN X0.here hx rfl (hb hby d2_4) rfl (l' := #[.val (.ref a1), .val (.ref a1), .val (.int (2 : Int32)), .unset, .unset, .unset]) rfl k) ?_
  show Gl _ _ _ _ _ _ _ _ (s₁.setTop (mkF m 5 #[.val (.ref a1), .val (.ref a1), .val (.int (2 : Int32)), .unset, .unset, .unset] []))
  refine go (fun t k => XS.iconst X0.here hx rfl (hb hby d2_5) k) ?_
  show Gl _ _ _ _ _ _ _ _ (s₁.setTop (mkF m 6 #[.val (.ref a1), .val (.ref a1), .val (.int (2 : Int32)), .unset, .unset, .unset] [(.int (0 : Int32))]))
  refine go (fun t k => XS.istoreN X0.here hx rfl (hb hby d2_6) rfl (l' := #[.val (.ref a1), .val (.ref a1), .val (.int (2 : Int32)), .val (.int (0 : Int32)), .unset, .unset]) rfl k) ?_
  show Gl _ _ _ _ _ _ _ _ (s₁.setTop (mkF m 7 #[.val (.ref a1), .val (.ref a1), .val (.int (2 : Int32)), .val (.int (0 : Int32)), .unset, .unset] []))
  refine go (fun t k => XS.iloadN X0.here hx rfl (hb hby d2_7) rfl  k) ?_
  show Gl _ _ _ _ _ _ _ _ (s₁.setTop (mkF m 8 #[.val (.ref a1), .val (.ref a1), .val (.int (2 : Int32)), .val (.int (0 : Int32)), .unset, .unset] [(.int (0 : Int32))]))
  refine go (fun t k => XS.iloadN X0.here hx rfl (hb hby d2_8) rfl  k) ?_
  show Gl _ _ _ _ _ _ _ _ (s₁.setTop (mkF m 9 #[.val (.ref a1), .val (.ref a1), .val (.int (2 : Int32)), .val (.int (0 : Int32)), .unset, .unset] [(.int (2 : Int32)), (.int (0 : Int32))]))
  refine go (fun t k => XS.icmpNo X0.here hx rfl (hb hby d2_9) rfl (tlt (by decide : (0 : Int32) < (2 : Int32))).2.1 k) ?_
  show Gl _ _ _ _ _ _ _ _ (s₁.setTop (mkF m 12 #[.val (.ref a1), .val (.ref a1), .val (.int (2 : Int32)), .val (.int (0 : Int32)), .unset, .unset] []))
  refine go (fun t k => XS.aloadN X0.here hx rfl (hb hby d2_12) rfl rfl k) ?_
  show Gl _ _ _ _ _ _ _ _ (s₁.setTop (mkF m 13 #[.val (.ref a1), .val (.ref a1), .val (.int (2 : Int32)), .val (.int (0 : Int32)), .unset, .unset] [(.ref a1)]))
  refine go (fun t k => XS.iloadN X0.here hx rfl (hb hby d2_13) rfl  k) ?_
  show Gl _ _ _ _ _ _ _ _ (s₁.setTop (mkF m 14 #[.val (.ref a1), .val (.ref a1), .val (.int (2 : Int32)), .val (.int (0 : Int32)), .unset, .unset] [(.int (0 : Int32)), (.ref a1)]))
  obtain ⟨cl2, Ar2, vq2, S2, M2, Hh2, G2⟩ := id V_a
  have hin2 : ¬ ((0 : Int32) < 0 ∨ cl2.slots.size ≤ ((0 : Int32)).toNatClampNeg) := inb_of S2 ⟨by decide, by decide⟩
  have hat2 : cl2.slots[((0 : Int32)).toNatClampNeg]? = some (.int u0) := Hh2 0 (by rw [S2]; decide)
  refine go (fun t k => X0.baloadBytes hx (j := (0 : Int32)) (v := (.int u0)) (by rw [e0]; exact Ar2.1) (State.isArrayOf_alike hZ.alike Ar2.2.1) Ar2.2.2 hin2 hat2 (g := (mkF m 14 #[.val (.ref a1), .val (.ref a1), .val (.int (2 : Int32)), .val (.int (0 : Int32)), .unset, .unset] [(.int (0 : Int32)), (.ref a1)])) rfl rfl (hb hby d2_14) _ k) ?_
  show Gl _ _ _ _ _ _ _ _ (s₁.setTop (mkF m 15 #[.val (.ref a1), .val (.ref a1), .val (.int (2 : Int32)), .val (.int (0 : Int32)), .unset, .unset] [(.int u0)]))
  refine go (fun t k => XS.istore X0.here hx rfl (hb hby d2_15) rfl (l' := #[.val (.ref a1), .val (.ref a1), .val (.int (2 : Int32)), .val (.int (0 : Int32)), .val (.int u0), .unset]) rfl k) ?_
  show Gl _ _ _ _ _ _ _ _ (s₁.setTop (mkF m 17 #[.val (.ref a1), .val (.ref a1), .val (.int (2 : Int32)), .val (.int (0 : Int32)), .val (.int u0), .unset] []))
  refine go (fun t k => XS.iload X0.here hx rfl (hb hby d2_17) rfl  k) ?_
  show Gl _ _ _ _ _ _ _ _ (s₁.setTop (mkF m 19 #[.val (.ref a1), .val (.ref a1), .val (.int (2 : Int32)), .val (.int (0 : Int32)), .val (.int u0), .unset] [(.int u0)]))
  refine go (fun t k => XS.bipush X0.here hx rfl (hb hby d2_19) k) ?_
  show Gl _ _ _ _ _ _ _ _ (s₁.setTop (mkF m 21 #[.val (.ref a1), .val (.ref a1), .val (.int (2 : Int32)), .val (.int (0 : Int32)), .val (.int u0), .unset] [(.int (60 : Int32)), (.int u0)]))
  refine gR (c := u0 = (60 : Int32)) (fun hc21 => ?_) (fun hc21 => ?_)
  · refine go (fun t k => XS.icmpNo X0.here hx rfl (hb hby d2_21) rfl (teq hc21).2 k) ?_
    show Gl _ _ _ _ _ _ _ _ (s₁.setTop (mkF m 24 #[.val (.ref a1), .val (.ref a1), .val (.int (2 : Int32)), .val (.int (0 : Int32)), .val (.int u0), .unset] []))
    obtain ⟨T3, X3, e3, st3⟩ := getS2 X0 hx hZ hown (host := "") (Or.inl (hw _ (List.mem_of_getElem? (i := 21) rfl))) Via.refl e0 S_XACML (g := (mkF m 24 #[.val (.ref a1), .val (.ref a1), .val (.int (2 : Int32)), .val (.int (0 : Int32)), .val (.int u0), .unset] [])) rfl (hb hby d2_24)
    refine go (fun t k => st3 _ k) ?_
    show Gl _ _ _ _ _ _ _ _ (T3.setTop (mkF m 27 #[.val (.ref a1), .val (.ref a1), .val (.int (2 : Int32)), .val (.int (0 : Int32)), .val (.int u0), .unset] [(.ref w_XACML)]))
    exact endR X3 hx Bd rfl (hb hby d2_27) ⟨rfl, e3⟩ N0 (by decide) (by decide)
  · refine go (fun t k => XS.icmpYes X0.here hx rfl (pc0 := 21) (pc' := 28) rfl (hb hby d2_21) rfl (feq hc21).2 (by decide) (by decide) k) ?_
    show Gl _ _ _ _ _ _ _ _ (s₁.setTop (mkF m 28 #[.val (.ref a1), .val (.ref a1), .val (.int (2 : Int32)), .val (.int (0 : Int32)), .val (.int u0), .unset] []))
    refine go (fun t k => XS.iload X0.here hx rfl (hb hby d2_28) rfl  k) ?_
    show Gl _ _ _ _ _ _ _ _ (s₁.setTop (mkF m 30 #[.val (.ref a1), .val (.ref a1), .val (.int (2 : Int32)), .val (.int (0 : Int32)), .val (.int u0), .unset] [(.int u0)]))
    refine go (fun t k => XS.bipush X0.here hx rfl (hb hby d2_30) k) ?_
    show Gl _ _ _ _ _ _ _ _ (s₁.setTop (mkF m 32 #[.val (.ref a1), .val (.ref a1), .val (.int (2 : Int32)), .val (.int (0 : Int32)), .val (.int u0), .unset] [(.int (32 : Int32)), (.int u0)]))
    have J100 : ∀ (s0_100 : Int32) (TJ100 : State) (lJ100 : List Loc) (XJ100 : Stand p l e ({ frames := 0, cells := 0, slots := 0, locals := 0 } : Room) s m #[(.ref a1)] below meth c TJ100 lJ100 0 0) (eJ100 : TJ100.heap = h0) (NJ100 : Fr n0 lJ100), Gl p e below s n0 ({ frames := 0, cells := 0, slots := 0, locals := 0 } : Room).cells ({ frames := 0, cells := 0, slots := 0, locals := 0 } : Room).slots (Kv (some (.ref (b2t2_100 w_XACML w_COMPACT w_BLANK u1 s0_100))) (fun h => h = h0)) (TJ100.setTop (mkF m 100 #[.val (.ref a1), .val (.ref a1), .val (.int (2 : Int32)), .val (.int (0 : Int32)), .val (.int u0), .unset] [(.int s0_100)])) := by
      intro s0_100 TJ100 lJ100 XJ100 eJ100 NJ100
      show Gl _ _ _ _ _ _ _ (Kv (some (.ref (if s0_100 = (0 : Int32) then w_COMPACT else (if u1 = (60 : Int32) then w_XACML else (if u1 = (32 : Int32) then (b2t2_95t1 w_COMPACT w_BLANK) else (if u1 = (9 : Int32) then (b2t2_95t1 w_COMPACT w_BLANK) else (if u1 = (13 : Int32) then (b2t2_95t1 w_COMPACT w_BLANK) else (if u1 = (10 : Int32) then (b2t2_95t1 w_COMPACT w_BLANK) else (if u1 = (0 : Int32) then (b2t2_95t1 w_COMPACT w_BLANK) else (if u1 = (-17 : Int32) then (b2t2_95t1 w_COMPACT w_BLANK) else (if u1 = (-69 : Int32) then (b2t2_95t1 w_COMPACT w_BLANK) else (if u1 = (-65 : Int32) then (b2t2_95t1 w_COMPACT w_BLANK) else (if u1 = (-2 : Int32) then (b2t2_95t1 w_COMPACT w_BLANK) else (if u1 = (-1 : Int32) then (b2t2_95t1 w_COMPACT w_BLANK) else (b2t2_100t1 w_COMPACT w_BLANK (0 : Int32)))))))))))))))) _) _
      refine go (fun t k => XS.istore XJ100.here hx rfl (hb hby d2_100) rfl (l' := #[.val (.ref a1), .val (.ref a1), .val (.int (2 : Int32)), .val (.int (0 : Int32)), .val (.int u0), .val (.int s0_100)]) rfl k) ?_
      show Gl _ _ _ _ _ _ _ _ (TJ100.setTop (mkF m 102 #[.val (.ref a1), .val (.ref a1), .val (.int (2 : Int32)), .val (.int (0 : Int32)), .val (.int u0), .val (.int s0_100)] []))
      refine go (fun t k => XS.iload XJ100.here hx rfl (hb hby d2_102) rfl  k) ?_
      show Gl _ _ _ _ _ _ _ _ (TJ100.setTop (mkF m 104 #[.val (.ref a1), .val (.ref a1), .val (.int (2 : Int32)), .val (.int (0 : Int32)), .val (.int u0), .val (.int s0_100)] [(.int s0_100)]))
      refine gR (c := s0_100 = (0 : Int32)) (fun hc104 => ?_) (fun hc104 => ?_)
      · refine go (fun t k => XS.ifNo XJ100.here hx rfl (hb hby d2_104) rfl ((if0 _ _).trans (teq hc104).2) k) ?_
        show Gl _ _ _ _ _ _ _ _ (TJ100.setTop (mkF m 107 #[.val (.ref a1), .val (.ref a1), .val (.int (2 : Int32)), .val (.int (0 : Int32)), .val (.int u0), .val (.int s0_100)] []))
        obtain ⟨T5, X5, e5, st5⟩ := getS2 XJ100 hx hZ hown (host := "") (Or.inl (hw _ (List.mem_of_getElem? (i := 24) rfl))) Via.refl eJ100 S_COMPACT (g := (mkF m 107 #[.val (.ref a1), .val (.ref a1), .val (.int (2 : Int32)), .val (.int (0 : Int32)), .val (.int u0), .val (.int s0_100)] [])) rfl (hb hby d2_107)
        refine go (fun t k => st5 _ k) ?_
        show Gl _ _ _ _ _ _ _ _ (T5.setTop (mkF m 110 #[.val (.ref a1), .val (.ref a1), .val (.int (2 : Int32)), .val (.int (0 : Int32)), .val (.int u0), .val (.int s0_100)] [(.ref w_COMPACT)]))
        exact endR X5 hx Bd rfl (hb hby d2_110) ⟨rfl, e5⟩ NJ100 (by decide) (by decide)
      · refine go (fun t k => XS.ifYes XJ100.here hx rfl (pc0 := 104) (pc' := 111) rfl (hb hby d2_104) rfl ((if0 _ _).trans (feq hc104).2) (by decide) (by decide) k) ?_
        show Gl _ _ _ _ _ _ _ _ (TJ100.setTop (mkF m 111 #[.val (.ref a1), .val (.ref a1), .val (.int (2 : Int32)), .val (.int (0 : Int32)), .val (.int u0), .val (.int s0_100)] []))
        refine go (fun t k => XS.iinc XJ100.here hx rfl (hb hby d2_111) rfl (l' := #[.val (.ref a1), .val (.ref a1), .val (.int (2 : Int32)), .val (.int (1 : Int32)), .val (.int u0), .val (.int s0_100)]) rfl k) ?_
        show Gl _ _ _ _ _ _ _ _ (TJ100.setTop (mkF m 114 #[.val (.ref a1), .val (.ref a1), .val (.int (2 : Int32)), .val (.int (1 : Int32)), .val (.int u0), .val (.int s0_100)] []))
        refine go (fun t k => XS.goto XJ100.here hx rfl (pc0 := 114) (pc' := 7) rfl (hb hby d2_114) (by decide) (by decide) k) ?_
        show Gl _ _ _ _ _ _ _ _ (TJ100.setTop (mkF m 7 #[.val (.ref a1), .val (.ref a1), .val (.int (2 : Int32)), .val (.int (1 : Int32)), .val (.int u0), .val (.int s0_100)] []))
        refine go (fun t k => XS.iloadN XJ100.here hx rfl (hb hby d2_7) rfl  k) ?_
        show Gl _ _ _ _ _ _ _ _ (TJ100.setTop (mkF m 8 #[.val (.ref a1), .val (.ref a1), .val (.int (2 : Int32)), .val (.int (1 : Int32)), .val (.int u0), .val (.int s0_100)] [(.int (1 : Int32))]))
        refine go (fun t k => XS.iloadN XJ100.here hx rfl (hb hby d2_8) rfl  k) ?_
        show Gl _ _ _ _ _ _ _ _ (TJ100.setTop (mkF m 9 #[.val (.ref a1), .val (.ref a1), .val (.int (2 : Int32)), .val (.int (1 : Int32)), .val (.int u0), .val (.int s0_100)] [(.int (2 : Int32)), (.int (1 : Int32))]))
        refine go (fun t k => XS.icmpNo XJ100.here hx rfl (hb hby d2_9) rfl (tlt (by decide : (1 : Int32) < (2 : Int32))).2.1 k) ?_
        show Gl _ _ _ _ _ _ _ _ (TJ100.setTop (mkF m 12 #[.val (.ref a1), .val (.ref a1), .val (.int (2 : Int32)), .val (.int (1 : Int32)), .val (.int u0), .val (.int s0_100)] []))
        refine go (fun t k => XS.aloadN XJ100.here hx rfl (hb hby d2_12) rfl rfl k) ?_
        show Gl _ _ _ _ _ _ _ _ (TJ100.setTop (mkF m 13 #[.val (.ref a1), .val (.ref a1), .val (.int (2 : Int32)), .val (.int (1 : Int32)), .val (.int u0), .val (.int s0_100)] [(.ref a1)]))
        refine go (fun t k => XS.iloadN XJ100.here hx rfl (hb hby d2_13) rfl  k) ?_
        show Gl _ _ _ _ _ _ _ _ (TJ100.setTop (mkF m 14 #[.val (.ref a1), .val (.ref a1), .val (.int (2 : Int32)), .val (.int (1 : Int32)), .val (.int u0), .val (.int s0_100)] [(.int (1 : Int32)), (.ref a1)]))
        obtain ⟨cl6, Ar6, vq6, S6, M6, Hh6, G6⟩ := id V_a
        have hin6 : ¬ ((1 : Int32) < 0 ∨ cl6.slots.size ≤ ((1 : Int32)).toNatClampNeg) := inb_of S6 ⟨by decide, by decide⟩
        have hat6 : cl6.slots[((1 : Int32)).toNatClampNeg]? = some (.int u1) := Hh6 1 (by rw [S6]; decide)
        refine go (fun t k => XJ100.baloadBytes hx (j := (1 : Int32)) (v := (.int u1)) (by rw [eJ100]; exact Ar6.1) (State.isArrayOf_alike hZ.alike Ar6.2.1) Ar6.2.2 hin6 hat6 (g := (mkF m 14 #[.val (.ref a1), .val (.ref a1), .val (.int (2 : Int32)), .val (.int (1 : Int32)), .val (.int u0), .val (.int s0_100)] [(.int (1 : Int32)), (.ref a1)])) rfl rfl (hb hby d2_14) _ k) ?_
        show Gl _ _ _ _ _ _ _ _ (TJ100.setTop (mkF m 15 #[.val (.ref a1), .val (.ref a1), .val (.int (2 : Int32)), .val (.int (1 : Int32)), .val (.int u0), .val (.int s0_100)] [(.int u1)]))
        refine go (fun t k => XS.istore XJ100.here hx rfl (hb hby d2_15) rfl (l' := #[.val (.ref a1), .val (.ref a1), .val (.int (2 : Int32)), .val (.int (1 : Int32)), .val (.int u1), .val (.int s0_100)]) rfl k) ?_
        show Gl _ _ _ _ _ _ _ _ (TJ100.setTop (mkF m 17 #[.val (.ref a1), .val (.ref a1), .val (.int (2 : Int32)), .val (.int (1 : Int32)), .val (.int u1), .val (.int s0_100)] []))
        refine go (fun t k => XS.iload XJ100.here hx rfl (hb hby d2_17) rfl  k) ?_
        show Gl _ _ _ _ _ _ _ _ (TJ100.setTop (mkF m 19 #[.val (.ref a1), .val (.ref a1), .val (.int (2 : Int32)), .val (.int (1 : Int32)), .val (.int u1), .val (.int s0_100)] [(.int u1)]))
        refine go (fun t k => XS.bipush XJ100.here hx rfl (hb hby d2_19) k) ?_
        show Gl _ _ _ _ _ _ _ _ (TJ100.setTop (mkF m 21 #[.val (.ref a1), .val (.ref a1), .val (.int (2 : Int32)), .val (.int (1 : Int32)), .val (.int u1), .val (.int s0_100)] [(.int (60 : Int32)), (.int u1)]))
        refine gR (c := u1 = (60 : Int32)) (fun hc100021 => ?_) (fun hc100021 => ?_)
        · refine go (fun t k => XS.icmpNo XJ100.here hx rfl (hb hby d2_21) rfl (teq hc100021).2 k) ?_
          show Gl _ _ _ _ _ _ _ _ (TJ100.setTop (mkF m 24 #[.val (.ref a1), .val (.ref a1), .val (.int (2 : Int32)), .val (.int (1 : Int32)), .val (.int u1), .val (.int s0_100)] []))
          obtain ⟨T7, X7, e7, st7⟩ := getS2 XJ100 hx hZ hown (host := "") (Or.inl (hw _ (List.mem_of_getElem? (i := 21) rfl))) Via.refl eJ100 S_XACML (g := (mkF m 24 #[.val (.ref a1), .val (.ref a1), .val (.int (2 : Int32)), .val (.int (1 : Int32)), .val (.int u1), .val (.int s0_100)] [])) rfl (hb hby d2_24)
          refine go (fun t k => st7 _ k) ?_
          show Gl _ _ _ _ _ _ _ _ (T7.setTop (mkF m 27 #[.val (.ref a1), .val (.ref a1), .val (.int (2 : Int32)), .val (.int (1 : Int32)), .val (.int u1), .val (.int s0_100)] [(.ref w_XACML)]))
          exact endR X7 hx Bd rfl (hb hby d2_27) ⟨rfl, e7⟩ NJ100 (by decide) (by decide)
        · refine go (fun t k => XS.icmpYes XJ100.here hx rfl (pc0 := 21) (pc' := 28) rfl (hb hby d2_21) rfl (feq hc100021).2 (by decide) (by decide) k) ?_
          show Gl _ _ _ _ _ _ _ _ (TJ100.setTop (mkF m 28 #[.val (.ref a1), .val (.ref a1), .val (.int (2 : Int32)), .val (.int (1 : Int32)), .val (.int u1), .val (.int s0_100)] []))
          refine go (fun t k => XS.iload XJ100.here hx rfl (hb hby d2_28) rfl  k) ?_
          show Gl _ _ _ _ _ _ _ _ (TJ100.setTop (mkF m 30 #[.val (.ref a1), .val (.ref a1), .val (.int (2 : Int32)), .val (.int (1 : Int32)), .val (.int u1), .val (.int s0_100)] [(.int u1)]))
          refine go (fun t k => XS.bipush XJ100.here hx rfl (hb hby d2_30) k) ?_
          show Gl _ _ _ _ _ _ _ _ (TJ100.setTop (mkF m 32 #[.val (.ref a1), .val (.ref a1), .val (.int (2 : Int32)), .val (.int (1 : Int32)), .val (.int u1), .val (.int s0_100)] [(.int (32 : Int32)), (.int u1)]))
          have J100100 : ∀ (s0_100100 : Int32) (TJ100100 : State) (lJ100100 : List Loc) (XJ100100 : Stand p l e ({ frames := 0, cells := 0, slots := 0, locals := 0 } : Room) s m #[(.ref a1)] below meth c TJ100100 lJ100100 0 0) (eJ100100 : TJ100100.heap = h0) (NJ100100 : Fr n0 lJ100100), Gl p e below s n0 ({ frames := 0, cells := 0, slots := 0, locals := 0 } : Room).cells ({ frames := 0, cells := 0, slots := 0, locals := 0 } : Room).slots (Kv (some (.ref (b2t2_100t1 w_COMPACT w_BLANK s0_100100))) (fun h => h = h0)) (TJ100100.setTop (mkF m 100 #[.val (.ref a1), .val (.ref a1), .val (.int (2 : Int32)), .val (.int (1 : Int32)), .val (.int u1), .val (.int s0_100)] [(.int s0_100100)])) := by
            intro s0_100100 TJ100100 lJ100100 XJ100100 eJ100100 NJ100100
            show Gl _ _ _ _ _ _ _ (Kv (some (.ref (if s0_100100 = (0 : Int32) then w_COMPACT else w_BLANK))) _) _
            refine go (fun t k => XS.istore XJ100100.here hx rfl (hb hby d2_100) rfl (l' := #[.val (.ref a1), .val (.ref a1), .val (.int (2 : Int32)), .val (.int (1 : Int32)), .val (.int u1), .val (.int s0_100100)]) rfl k) ?_
            show Gl _ _ _ _ _ _ _ _ (TJ100100.setTop (mkF m 102 #[.val (.ref a1), .val (.ref a1), .val (.int (2 : Int32)), .val (.int (1 : Int32)), .val (.int u1), .val (.int s0_100100)] []))
            refine go (fun t k => XS.iload XJ100100.here hx rfl (hb hby d2_102) rfl  k) ?_
            show Gl _ _ _ _ _ _ _ _ (TJ100100.setTop (mkF m 104 #[.val (.ref a1), .val (.ref a1), .val (.int (2 : Int32)), .val (.int (1 : Int32)), .val (.int u1), .val (.int s0_100100)] [(.int s0_100100)]))
            refine gR (c := s0_100100 = (0 : Int32)) (fun hc100104 => ?_) (fun hc100104 => ?_)
            · refine go (fun t k => XS.ifNo XJ100100.here hx rfl (hb hby d2_104) rfl ((if0 _ _).trans (teq hc100104).2) k) ?_
              show Gl _ _ _ _ _ _ _ _ (TJ100100.setTop (mkF m 107 #[.val (.ref a1), .val (.ref a1), .val (.int (2 : Int32)), .val (.int (1 : Int32)), .val (.int u1), .val (.int s0_100100)] []))
              obtain ⟨T9, X9, e9, st9⟩ := getS2 XJ100100 hx hZ hown (host := "") (Or.inl (hw _ (List.mem_of_getElem? (i := 24) rfl))) Via.refl eJ100100 S_COMPACT (g := (mkF m 107 #[.val (.ref a1), .val (.ref a1), .val (.int (2 : Int32)), .val (.int (1 : Int32)), .val (.int u1), .val (.int s0_100100)] [])) rfl (hb hby d2_107)
              refine go (fun t k => st9 _ k) ?_
              show Gl _ _ _ _ _ _ _ _ (T9.setTop (mkF m 110 #[.val (.ref a1), .val (.ref a1), .val (.int (2 : Int32)), .val (.int (1 : Int32)), .val (.int u1), .val (.int s0_100100)] [(.ref w_COMPACT)]))
              exact endR X9 hx Bd rfl (hb hby d2_110) ⟨rfl, e9⟩ NJ100100 (by decide) (by decide)
            · refine go (fun t k => XS.ifYes XJ100100.here hx rfl (pc0 := 104) (pc' := 111) rfl (hb hby d2_104) rfl ((if0 _ _).trans (feq hc100104).2) (by decide) (by decide) k) ?_
              show Gl _ _ _ _ _ _ _ _ (TJ100100.setTop (mkF m 111 #[.val (.ref a1), .val (.ref a1), .val (.int (2 : Int32)), .val (.int (1 : Int32)), .val (.int u1), .val (.int s0_100100)] []))
              refine go (fun t k => XS.iinc XJ100100.here hx rfl (hb hby d2_111) rfl (l' := #[.val (.ref a1), .val (.ref a1), .val (.int (2 : Int32)), .val (.int (2 : Int32)), .val (.int u1), .val (.int s0_100100)]) rfl k) ?_
              show Gl _ _ _ _ _ _ _ _ (TJ100100.setTop (mkF m 114 #[.val (.ref a1), .val (.ref a1), .val (.int (2 : Int32)), .val (.int (2 : Int32)), .val (.int u1), .val (.int s0_100100)] []))
              refine go (fun t k => XS.goto XJ100100.here hx rfl (pc0 := 114) (pc' := 7) rfl (hb hby d2_114) (by decide) (by decide) k) ?_
              show Gl _ _ _ _ _ _ _ _ (TJ100100.setTop (mkF m 7 #[.val (.ref a1), .val (.ref a1), .val (.int (2 : Int32)), .val (.int (2 : Int32)), .val (.int u1), .val (.int s0_100100)] []))
              refine go (fun t k => XS.iloadN XJ100100.here hx rfl (hb hby d2_7) rfl  k) ?_
              show Gl _ _ _ _ _ _ _ _ (TJ100100.setTop (mkF m 8 #[.val (.ref a1), .val (.ref a1), .val (.int (2 : Int32)), .val (.int (2 : Int32)), .val (.int u1), .val (.int s0_100100)] [(.int (2 : Int32))]))
              refine go (fun t k => XS.iloadN XJ100100.here hx rfl (hb hby d2_8) rfl  k) ?_
              show Gl _ _ _ _ _ _ _ _ (TJ100100.setTop (mkF m 9 #[.val (.ref a1), .val (.ref a1), .val (.int (2 : Int32)), .val (.int (2 : Int32)), .val (.int u1), .val (.int s0_100100)] [(.int (2 : Int32)), (.int (2 : Int32))]))
              refine go (fun t k => XS.icmpYes XJ100100.here hx rfl (pc0 := 9) (pc' := 117) rfl (hb hby d2_9) rfl (flt (by decide : ¬ ((2 : Int32) < (2 : Int32)))).2.1 (by decide) (by decide) k) ?_
              show Gl _ _ _ _ _ _ _ _ (TJ100100.setTop (mkF m 117 #[.val (.ref a1), .val (.ref a1), .val (.int (2 : Int32)), .val (.int (2 : Int32)), .val (.int u1), .val (.int s0_100100)] []))
              obtain ⟨T10, X10, e10, st10⟩ := getS2 XJ100100 hx hZ hown (host := "") (Or.inl (hw _ (List.mem_of_getElem? (i := 12) rfl))) Via.refl eJ100100 S_BLANK (g := (mkF m 117 #[.val (.ref a1), .val (.ref a1), .val (.int (2 : Int32)), .val (.int (2 : Int32)), .val (.int u1), .val (.int s0_100100)] [])) rfl (hb hby d2_117)
              refine go (fun t k => st10 _ k) ?_
              show Gl _ _ _ _ _ _ _ _ (T10.setTop (mkF m 120 #[.val (.ref a1), .val (.ref a1), .val (.int (2 : Int32)), .val (.int (2 : Int32)), .val (.int u1), .val (.int s0_100100)] [(.ref w_BLANK)]))
              exact endR X10 hx Bd rfl (hb hby d2_120) ⟨rfl, e10⟩ NJ100100 (by decide) (by decide)
          have J100095 : ∀  (TJ100095 : State) (lJ100095 : List Loc) (XJ100095 : Stand p l e ({ frames := 0, cells := 0, slots := 0, locals := 0 } : Room) s m #[(.ref a1)] below meth c TJ100095 lJ100095 0 0) (eJ100095 : TJ100095.heap = h0) (NJ100095 : Fr n0 lJ100095), Gl p e below s n0 ({ frames := 0, cells := 0, slots := 0, locals := 0 } : Room).cells ({ frames := 0, cells := 0, slots := 0, locals := 0 } : Room).slots (Kv (some (.ref (b2t2_95t1 w_COMPACT w_BLANK))) (fun h => h = h0)) (TJ100095.setTop (mkF m 95 #[.val (.ref a1), .val (.ref a1), .val (.int (2 : Int32)), .val (.int (1 : Int32)), .val (.int u1), .val (.int s0_100)] [])) := by
            intro  TJ100095 lJ100095 XJ100095 eJ100095 NJ100095
            show Gl _ _ _ _ _ _ _ (Kv (some (.ref (b2t2_100t1 w_COMPACT w_BLANK (1 : Int32)))) _) _
            refine go (fun t k => XS.iconst XJ100095.here hx rfl (hb hby d2_95) k) ?_
            show Gl _ _ _ _ _ _ _ _ (TJ100095.setTop (mkF m 96 #[.val (.ref a1), .val (.ref a1), .val (.int (2 : Int32)), .val (.int (1 : Int32)), .val (.int u1), .val (.int s0_100)] [(.int (1 : Int32))]))
            refine go (fun t k => XS.goto XJ100095.here hx rfl (pc0 := 96) (pc' := 100) rfl (hb hby d2_96) (by decide) (by decide) k) ?_
            show Gl _ _ _ _ _ _ _ _ (TJ100095.setTop (mkF m 100 #[.val (.ref a1), .val (.ref a1), .val (.int (2 : Int32)), .val (.int (1 : Int32)), .val (.int u1), .val (.int s0_100)] [(.int (1 : Int32))]))
            exact J100100 (1 : Int32) TJ100095 _ XJ100095 eJ100095 NJ100095
          refine gR (c := u1 = (32 : Int32)) (fun hc100032 => ?_) (fun hc100032 => ?_)
          · refine go (fun t k => XS.icmpYes XJ100.here hx rfl (pc0 := 32) (pc' := 95) rfl (hb hby d2_32) rfl (teq hc100032).1 (by decide) (by decide) k) ?_
            show Gl _ _ _ _ _ _ _ _ (TJ100.setTop (mkF m 95 #[.val (.ref a1), .val (.ref a1), .val (.int (2 : Int32)), .val (.int (1 : Int32)), .val (.int u1), .val (.int s0_100)] []))
            exact J100095  TJ100 _ XJ100 eJ100 NJ100
          · refine go (fun t k => XS.icmpNo XJ100.here hx rfl (hb hby d2_32) rfl (feq hc100032).1 k) ?_
            show Gl _ _ _ _ _ _ _ _ (TJ100.setTop (mkF m 35 #[.val (.ref a1), .val (.ref a1), .val (.int (2 : Int32)), .val (.int (1 : Int32)), .val (.int u1), .val (.int s0_100)] []))
            refine go (fun t k => XS.iload XJ100.here hx rfl (hb hby d2_35) rfl  k) ?_
            show Gl _ _ _ _ _ _ _ _ (TJ100.setTop (mkF m 37 #[.val (.ref a1), .val (.ref a1), .val (.int (2 : Int32)), .val (.int (1 : Int32)), .val (.int u1), .val (.int s0_100)] [(.int u1)]))
            refine go (fun t k => XS.bipush XJ100.here hx rfl (hb hby d2_37) k) ?_
            show Gl _ _ _ _ _ _ _ _ (TJ100.setTop (mkF m 39 #[.val (.ref a1), .val (.ref a1), .val (.int (2 : Int32)), .val (.int (1 : Int32)), .val (.int u1), .val (.int s0_100)] [(.int (9 : Int32)), (.int u1)]))
            refine gR (c := u1 = (9 : Int32)) (fun hc100039 => ?_) (fun hc100039 => ?_)
            · refine go (fun t k => XS.icmpYes XJ100.here hx rfl (pc0 := 39) (pc' := 95) rfl (hb hby d2_39) rfl (teq hc100039).1 (by decide) (by decide) k) ?_
              show Gl _ _ _ _ _ _ _ _ (TJ100.setTop (mkF m 95 #[.val (.ref a1), .val (.ref a1), .val (.int (2 : Int32)), .val (.int (1 : Int32)), .val (.int u1), .val (.int s0_100)] []))
              exact J100095  TJ100 _ XJ100 eJ100 NJ100
            · refine go (fun t k => XS.icmpNo XJ100.here hx rfl (hb hby d2_39) rfl (feq hc100039).1 k) ?_
              show Gl _ _ _ _ _ _ _ _ (TJ100.setTop (mkF m 42 #[.val (.ref a1), .val (.ref a1), .val (.int (2 : Int32)), .val (.int (1 : Int32)), .val (.int u1), .val (.int s0_100)] []))
              refine go (fun t k => XS.iload XJ100.here hx rfl (hb hby d2_42) rfl  k) ?_
              show Gl _ _ _ _ _ _ _ _ (TJ100.setTop (mkF m 44 #[.val (.ref a1), .val (.ref a1), .val (.int (2 : Int32)), .val (.int (1 : Int32)), .val (.int u1), .val (.int s0_100)] [(.int u1)]))
              refine go (fun t k => XS.bipush XJ100.here hx rfl (hb hby d2_44) k) ?_
              show Gl _ _ _ _ _ _ _ _ (TJ100.setTop (mkF m 46 #[.val (.ref a1), .val (.ref a1), .val (.int (2 : Int32)), .val (.int (1 : Int32)), .val (.int u1), .val (.int s0_100)] [(.int (13 : Int32)), (.int u1)]))
              refine gR (c := u1 = (13 : Int32)) (fun hc100046 => ?_) (fun hc100046 => ?_)
              · refine go (fun t k => XS.icmpYes XJ100.here hx rfl (pc0 := 46) (pc' := 95) rfl (hb hby d2_46) rfl (teq hc100046).1 (by decide) (by decide) k) ?_
                show Gl _ _ _ _ _ _ _ _ (TJ100.setTop (mkF m 95 #[.val (.ref a1), .val (.ref a1), .val (.int (2 : Int32)), .val (.int (1 : Int32)), .val (.int u1), .val (.int s0_100)] []))
                exact J100095  TJ100 _ XJ100 eJ100 NJ100
              · refine go (fun t k => XS.icmpNo XJ100.here hx rfl (hb hby d2_46) rfl (feq hc100046).1 k) ?_
                show Gl _ _ _ _ _ _ _ _ (TJ100.setTop (mkF m 49 #[.val (.ref a1), .val (.ref a1), .val (.int (2 : Int32)), .val (.int (1 : Int32)), .val (.int u1), .val (.int s0_100)] []))
                refine go (fun t k => XS.iload XJ100.here hx rfl (hb hby d2_49) rfl  k) ?_
                show Gl _ _ _ _ _ _ _ _ (TJ100.setTop (mkF m 51 #[.val (.ref a1), .val (.ref a1), .val (.int (2 : Int32)), .val (.int (1 : Int32)), .val (.int u1), .val (.int s0_100)] [(.int u1)]))
                refine go (fun t k => XS.bipush XJ100.here hx rfl (hb hby d2_51) k) ?_
                show Gl _ _ _ _ _ _ _ _ (TJ100.setTop (mkF m 53 #[.val (.ref a1), .val (.ref a1), .val (.int (2 : Int32)), .val (.int (1 : Int32)), .val (.int u1), .val (.int s0_100)] [(.int (10 : Int32)), (.int u1)]))
                refine gR (c := u1 = (10 : Int32)) (fun hc100053 => ?_) (fun hc100053 => ?_)
                · refine go (fun t k => XS.icmpYes XJ100.here hx rfl (pc0 := 53) (pc' := 95) rfl (hb hby d2_53) rfl (teq hc100053).1 (by decide) (by decide) k) ?_
                  show Gl _ _ _ _ _ _ _ _ (TJ100.setTop (mkF m 95 #[.val (.ref a1), .val (.ref a1), .val (.int (2 : Int32)), .val (.int (1 : Int32)), .val (.int u1), .val (.int s0_100)] []))
                  exact J100095  TJ100 _ XJ100 eJ100 NJ100
                · refine go (fun t k => XS.icmpNo XJ100.here hx rfl (hb hby d2_53) rfl (feq hc100053).1 k) ?_
                  show Gl _ _ _ _ _ _ _ _ (TJ100.setTop (mkF m 56 #[.val (.ref a1), .val (.ref a1), .val (.int (2 : Int32)), .val (.int (1 : Int32)), .val (.int u1), .val (.int s0_100)] []))
                  refine go (fun t k => XS.iload XJ100.here hx rfl (hb hby d2_56) rfl  k) ?_
                  show Gl _ _ _ _ _ _ _ _ (TJ100.setTop (mkF m 58 #[.val (.ref a1), .val (.ref a1), .val (.int (2 : Int32)), .val (.int (1 : Int32)), .val (.int u1), .val (.int s0_100)] [(.int u1)]))
                  refine gR (c := u1 = (0 : Int32)) (fun hc100058 => ?_) (fun hc100058 => ?_)
                  · refine go (fun t k => XS.ifYes XJ100.here hx rfl (pc0 := 58) (pc' := 95) rfl (hb hby d2_58) rfl ((if0 _ _).trans (teq hc100058).1) (by decide) (by decide) k) ?_
                    show Gl _ _ _ _ _ _ _ _ (TJ100.setTop (mkF m 95 #[.val (.ref a1), .val (.ref a1), .val (.int (2 : Int32)), .val (.int (1 : Int32)), .val (.int u1), .val (.int s0_100)] []))
                    exact J100095  TJ100 _ XJ100 eJ100 NJ100
                  · refine go (fun t k => XS.ifNo XJ100.here hx rfl (hb hby d2_58) rfl ((if0 _ _).trans (feq hc100058).1) k) ?_
                    show Gl _ _ _ _ _ _ _ _ (TJ100.setTop (mkF m 61 #[.val (.ref a1), .val (.ref a1), .val (.int (2 : Int32)), .val (.int (1 : Int32)), .val (.int u1), .val (.int s0_100)] []))
                    refine go (fun t k => XS.iload XJ100.here hx rfl (hb hby d2_61) rfl  k) ?_
                    show Gl _ _ _ _ _ _ _ _ (TJ100.setTop (mkF m 63 #[.val (.ref a1), .val (.ref a1), .val (.int (2 : Int32)), .val (.int (1 : Int32)), .val (.int u1), .val (.int s0_100)] [(.int u1)]))
                    refine go (fun t k => XS.bipush XJ100.here hx rfl (hb hby d2_63) k) ?_
                    show Gl _ _ _ _ _ _ _ _ (TJ100.setTop (mkF m 65 #[.val (.ref a1), .val (.ref a1), .val (.int (2 : Int32)), .val (.int (1 : Int32)), .val (.int u1), .val (.int s0_100)] [(.int (-17 : Int32)), (.int u1)]))
                    refine gR (c := u1 = (-17 : Int32)) (fun hc100065 => ?_) (fun hc100065 => ?_)
                    · refine go (fun t k => XS.icmpYes XJ100.here hx rfl (pc0 := 65) (pc' := 95) rfl (hb hby d2_65) rfl (teq hc100065).1 (by decide) (by decide) k) ?_
                      show Gl _ _ _ _ _ _ _ _ (TJ100.setTop (mkF m 95 #[.val (.ref a1), .val (.ref a1), .val (.int (2 : Int32)), .val (.int (1 : Int32)), .val (.int u1), .val (.int s0_100)] []))
                      exact J100095  TJ100 _ XJ100 eJ100 NJ100
                    · refine go (fun t k => XS.icmpNo XJ100.here hx rfl (hb hby d2_65) rfl (feq hc100065).1 k) ?_
                      show Gl _ _ _ _ _ _ _ _ (TJ100.setTop (mkF m 68 #[.val (.ref a1), .val (.ref a1), .val (.int (2 : Int32)), .val (.int (1 : Int32)), .val (.int u1), .val (.int s0_100)] []))
                      refine go (fun t k => XS.iload XJ100.here hx rfl (hb hby d2_68) rfl  k) ?_
                      show Gl _ _ _ _ _ _ _ _ (TJ100.setTop (mkF m 70 #[.val (.ref a1), .val (.ref a1), .val (.int (2 : Int32)), .val (.int (1 : Int32)), .val (.int u1), .val (.int s0_100)] [(.int u1)]))
                      refine go (fun t k => XS.bipush XJ100.here hx rfl (hb hby d2_70) k) ?_
                      show Gl _ _ _ _ _ _ _ _ (TJ100.setTop (mkF m 72 #[.val (.ref a1), .val (.ref a1), .val (.int (2 : Int32)), .val (.int (1 : Int32)), .val (.int u1), .val (.int s0_100)] [(.int (-69 : Int32)), (.int u1)]))
                      refine gR (c := u1 = (-69 : Int32)) (fun hc100072 => ?_) (fun hc100072 => ?_)
                      · refine go (fun t k => XS.icmpYes XJ100.here hx rfl (pc0 := 72) (pc' := 95) rfl (hb hby d2_72) rfl (teq hc100072).1 (by decide) (by decide) k) ?_
                        show Gl _ _ _ _ _ _ _ _ (TJ100.setTop (mkF m 95 #[.val (.ref a1), .val (.ref a1), .val (.int (2 : Int32)), .val (.int (1 : Int32)), .val (.int u1), .val (.int s0_100)] []))
                        exact J100095  TJ100 _ XJ100 eJ100 NJ100
                      · refine go (fun t k => XS.icmpNo XJ100.here hx rfl (hb hby d2_72) rfl (feq hc100072).1 k) ?_
                        show Gl _ _ _ _ _ _ _ _ (TJ100.setTop (mkF m 75 #[.val (.ref a1), .val (.ref a1), .val (.int (2 : Int32)), .val (.int (1 : Int32)), .val (.int u1), .val (.int s0_100)] []))
                        refine go (fun t k => XS.iload XJ100.here hx rfl (hb hby d2_75) rfl  k) ?_
                        show Gl _ _ _ _ _ _ _ _ (TJ100.setTop (mkF m 77 #[.val (.ref a1), .val (.ref a1), .val (.int (2 : Int32)), .val (.int (1 : Int32)), .val (.int u1), .val (.int s0_100)] [(.int u1)]))
                        refine go (fun t k => XS.bipush XJ100.here hx rfl (hb hby d2_77) k) ?_
                        show Gl _ _ _ _ _ _ _ _ (TJ100.setTop (mkF m 79 #[.val (.ref a1), .val (.ref a1), .val (.int (2 : Int32)), .val (.int (1 : Int32)), .val (.int u1), .val (.int s0_100)] [(.int (-65 : Int32)), (.int u1)]))
                        refine gR (c := u1 = (-65 : Int32)) (fun hc100079 => ?_) (fun hc100079 => ?_)
                        · refine go (fun t k => XS.icmpYes XJ100.here hx rfl (pc0 := 79) (pc' := 95) rfl (hb hby d2_79) rfl (teq hc100079).1 (by decide) (by decide) k) ?_
                          show Gl _ _ _ _ _ _ _ _ (TJ100.setTop (mkF m 95 #[.val (.ref a1), .val (.ref a1), .val (.int (2 : Int32)), .val (.int (1 : Int32)), .val (.int u1), .val (.int s0_100)] []))
                          exact J100095  TJ100 _ XJ100 eJ100 NJ100
                        · refine go (fun t k => XS.icmpNo XJ100.here hx rfl (hb hby d2_79) rfl (feq hc100079).1 k) ?_
                          show Gl _ _ _ _ _ _ _ _ (TJ100.setTop (mkF m 82 #[.val (.ref a1), .val (.ref a1), .val (.int (2 : Int32)), .val (.int (1 : Int32)), .val (.int u1), .val (.int s0_100)] []))
                          refine go (fun t k => XS.iload XJ100.here hx rfl (hb hby d2_82) rfl  k) ?_
                          show Gl _ _ _ _ _ _ _ _ (TJ100.setTop (mkF m 84 #[.val (.ref a1), .val (.ref a1), .val (.int (2 : Int32)), .val (.int (1 : Int32)), .val (.int u1), .val (.int s0_100)] [(.int u1)]))
                          refine go (fun t k => XS.bipush XJ100.here hx rfl (hb hby d2_84) k) ?_
                          show Gl _ _ _ _ _ _ _ _ (TJ100.setTop (mkF m 86 #[.val (.ref a1), .val (.ref a1), .val (.int (2 : Int32)), .val (.int (1 : Int32)), .val (.int u1), .val (.int s0_100)] [(.int (-2 : Int32)), (.int u1)]))
                          refine gR (c := u1 = (-2 : Int32)) (fun hc100086 => ?_) (fun hc100086 => ?_)
                          · refine go (fun t k => XS.icmpYes XJ100.here hx rfl (pc0 := 86) (pc' := 95) rfl (hb hby d2_86) rfl (teq hc100086).1 (by decide) (by decide) k) ?_
                            show Gl _ _ _ _ _ _ _ _ (TJ100.setTop (mkF m 95 #[.val (.ref a1), .val (.ref a1), .val (.int (2 : Int32)), .val (.int (1 : Int32)), .val (.int u1), .val (.int s0_100)] []))
                            exact J100095  TJ100 _ XJ100 eJ100 NJ100
                          · refine go (fun t k => XS.icmpNo XJ100.here hx rfl (hb hby d2_86) rfl (feq hc100086).1 k) ?_
                            show Gl _ _ _ _ _ _ _ _ (TJ100.setTop (mkF m 89 #[.val (.ref a1), .val (.ref a1), .val (.int (2 : Int32)), .val (.int (1 : Int32)), .val (.int u1), .val (.int s0_100)] []))
                            refine go (fun t k => XS.iload XJ100.here hx rfl (hb hby d2_89) rfl  k) ?_
                            show Gl _ _ _ _ _ _ _ _ (TJ100.setTop (mkF m 91 #[.val (.ref a1), .val (.ref a1), .val (.int (2 : Int32)), .val (.int (1 : Int32)), .val (.int u1), .val (.int s0_100)] [(.int u1)]))
                            refine go (fun t k => XS.iconst XJ100.here hx rfl (hb hby d2_91) k) ?_
                            show Gl _ _ _ _ _ _ _ _ (TJ100.setTop (mkF m 92 #[.val (.ref a1), .val (.ref a1), .val (.int (2 : Int32)), .val (.int (1 : Int32)), .val (.int u1), .val (.int s0_100)] [(.int (-1 : Int32)), (.int u1)]))
                            refine gR (c := u1 = (-1 : Int32)) (fun hc100092 => ?_) (fun hc100092 => ?_)
                            · refine go (fun t k => XS.icmpNo XJ100.here hx rfl (hb hby d2_92) rfl (teq hc100092).2 k) ?_
                              show Gl _ _ _ _ _ _ _ _ (TJ100.setTop (mkF m 95 #[.val (.ref a1), .val (.ref a1), .val (.int (2 : Int32)), .val (.int (1 : Int32)), .val (.int u1), .val (.int s0_100)] []))
                              exact J100095  TJ100 _ XJ100 eJ100 NJ100
                            · refine go (fun t k => XS.icmpYes XJ100.here hx rfl (pc0 := 92) (pc' := 99) rfl (hb hby d2_92) rfl (feq hc100092).2 (by decide) (by decide) k) ?_
                              show Gl _ _ _ _ _ _ _ _ (TJ100.setTop (mkF m 99 #[.val (.ref a1), .val (.ref a1), .val (.int (2 : Int32)), .val (.int (1 : Int32)), .val (.int u1), .val (.int s0_100)] []))
                              refine go (fun t k => XS.iconst XJ100.here hx rfl (hb hby d2_99) k) ?_
                              show Gl _ _ _ _ _ _ _ _ (TJ100.setTop (mkF m 100 #[.val (.ref a1), .val (.ref a1), .val (.int (2 : Int32)), .val (.int (1 : Int32)), .val (.int u1), .val (.int s0_100)] [(.int (0 : Int32))]))
                              exact J100100 (0 : Int32) TJ100 _ XJ100 eJ100 NJ100
    have J95 : ∀  (TJ95 : State) (lJ95 : List Loc) (XJ95 : Stand p l e ({ frames := 0, cells := 0, slots := 0, locals := 0 } : Room) s m #[(.ref a1)] below meth c TJ95 lJ95 0 0) (eJ95 : TJ95.heap = h0) (NJ95 : Fr n0 lJ95), Gl p e below s n0 ({ frames := 0, cells := 0, slots := 0, locals := 0 } : Room).cells ({ frames := 0, cells := 0, slots := 0, locals := 0 } : Room).slots (Kv (some (.ref (b2t2_95 w_XACML w_COMPACT w_BLANK u1))) (fun h => h = h0)) (TJ95.setTop (mkF m 95 #[.val (.ref a1), .val (.ref a1), .val (.int (2 : Int32)), .val (.int (0 : Int32)), .val (.int u0), .unset] [])) := by
      intro  TJ95 lJ95 XJ95 eJ95 NJ95
      show Gl _ _ _ _ _ _ _ (Kv (some (.ref (b2t2_100 w_XACML w_COMPACT w_BLANK u1 (1 : Int32)))) _) _
      refine go (fun t k => XS.iconst XJ95.here hx rfl (hb hby d2_95) k) ?_
      show Gl _ _ _ _ _ _ _ _ (TJ95.setTop (mkF m 96 #[.val (.ref a1), .val (.ref a1), .val (.int (2 : Int32)), .val (.int (0 : Int32)), .val (.int u0), .unset] [(.int (1 : Int32))]))
      refine go (fun t k => XS.goto XJ95.here hx rfl (pc0 := 96) (pc' := 100) rfl (hb hby d2_96) (by decide) (by decide) k) ?_
      show Gl _ _ _ _ _ _ _ _ (TJ95.setTop (mkF m 100 #[.val (.ref a1), .val (.ref a1), .val (.int (2 : Int32)), .val (.int (0 : Int32)), .val (.int u0), .unset] [(.int (1 : Int32))]))
      exact J100 (1 : Int32) TJ95 _ XJ95 eJ95 NJ95
    refine gR (c := u0 = (32 : Int32)) (fun hc32 => ?_) (fun hc32 => ?_)
    · refine go (fun t k => XS.icmpYes X0.here hx rfl (pc0 := 32) (pc' := 95) rfl (hb hby d2_32) rfl (teq hc32).1 (by decide) (by decide) k) ?_
      show Gl _ _ _ _ _ _ _ _ (s₁.setTop (mkF m 95 #[.val (.ref a1), .val (.ref a1), .val (.int (2 : Int32)), .val (.int (0 : Int32)), .val (.int u0), .unset] []))
      exact J95  s₁ _ X0 e0 N0
    · refine go (fun t k => XS.icmpNo X0.here hx rfl (hb hby d2_32) rfl (feq hc32).1 k) ?_
      show Gl _ _ _ _ _ _ _ _ (s₁.setTop (mkF m 35 #[.val (.ref a1), .val (.ref a1), .val (.int (2 : Int32)), .val (.int (0 : Int32)), .val (.int u0), .unset] []))
      refine go (fun t k => XS.iload X0.here hx rfl (hb hby d2_35) rfl  k) ?_
      show Gl _ _ _ _ _ _ _ _ (s₁.setTop (mkF m 37 #[.val (.ref a1), .val (.ref a1), .val (.int (2 : Int32)), .val (.int (0 : Int32)), .val (.int u0), .unset] [(.int u0)]))
      refine go (fun t k => XS.bipush X0.here hx rfl (hb hby d2_37) k) ?_
      show Gl _ _ _ _ _ _ _ _ (s₁.setTop (mkF m 39 #[.val (.ref a1), .val (.ref a1), .val (.int (2 : Int32)), .val (.int (0 : Int32)), .val (.int u0), .unset] [(.int (9 : Int32)), (.int u0)]))
      refine gR (c := u0 = (9 : Int32)) (fun hc39 => ?_) (fun hc39 => ?_)
      · refine go (fun t k => XS.icmpYes X0.here hx rfl (pc0 := 39) (pc' := 95) rfl (hb hby d2_39) rfl (teq hc39).1 (by decide) (by decide) k) ?_
        show Gl _ _ _ _ _ _ _ _ (s₁.setTop (mkF m 95 #[.val (.ref a1), .val (.ref a1), .val (.int (2 : Int32)), .val (.int (0 : Int32)), .val (.int u0), .unset] []))
        exact J95  s₁ _ X0 e0 N0
      · refine go (fun t k => XS.icmpNo X0.here hx rfl (hb hby d2_39) rfl (feq hc39).1 k) ?_
        show Gl _ _ _ _ _ _ _ _ (s₁.setTop (mkF m 42 #[.val (.ref a1), .val (.ref a1), .val (.int (2 : Int32)), .val (.int (0 : Int32)), .val (.int u0), .unset] []))
        refine go (fun t k => XS.iload X0.here hx rfl (hb hby d2_42) rfl  k) ?_
        show Gl _ _ _ _ _ _ _ _ (s₁.setTop (mkF m 44 #[.val (.ref a1), .val (.ref a1), .val (.int (2 : Int32)), .val (.int (0 : Int32)), .val (.int u0), .unset] [(.int u0)]))
        refine go (fun t k => XS.bipush X0.here hx rfl (hb hby d2_44) k) ?_
        show Gl _ _ _ _ _ _ _ _ (s₁.setTop (mkF m 46 #[.val (.ref a1), .val (.ref a1), .val (.int (2 : Int32)), .val (.int (0 : Int32)), .val (.int u0), .unset] [(.int (13 : Int32)), (.int u0)]))
        refine gR (c := u0 = (13 : Int32)) (fun hc46 => ?_) (fun hc46 => ?_)
        · refine go (fun t k => XS.icmpYes X0.here hx rfl (pc0 := 46) (pc' := 95) rfl (hb hby d2_46) rfl (teq hc46).1 (by decide) (by decide) k) ?_
          show Gl _ _ _ _ _ _ _ _ (s₁.setTop (mkF m 95 #[.val (.ref a1), .val (.ref a1), .val (.int (2 : Int32)), .val (.int (0 : Int32)), .val (.int u0), .unset] []))
          exact J95  s₁ _ X0 e0 N0
        · refine go (fun t k => XS.icmpNo X0.here hx rfl (hb hby d2_46) rfl (feq hc46).1 k) ?_
          show Gl _ _ _ _ _ _ _ _ (s₁.setTop (mkF m 49 #[.val (.ref a1), .val (.ref a1), .val (.int (2 : Int32)), .val (.int (0 : Int32)), .val (.int u0), .unset] []))
          refine go (fun t k => XS.iload X0.here hx rfl (hb hby d2_49) rfl  k) ?_
          show Gl _ _ _ _ _ _ _ _ (s₁.setTop (mkF m 51 #[.val (.ref a1), .val (.ref a1), .val (.int (2 : Int32)), .val (.int (0 : Int32)), .val (.int u0), .unset] [(.int u0)]))
          refine go (fun t k => XS.bipush X0.here hx rfl (hb hby d2_51) k) ?_
          show Gl _ _ _ _ _ _ _ _ (s₁.setTop (mkF m 53 #[.val (.ref a1), .val (.ref a1), .val (.int (2 : Int32)), .val (.int (0 : Int32)), .val (.int u0), .unset] [(.int (10 : Int32)), (.int u0)]))
          refine gR (c := u0 = (10 : Int32)) (fun hc53 => ?_) (fun hc53 => ?_)
          · refine go (fun t k => XS.icmpYes X0.here hx rfl (pc0 := 53) (pc' := 95) rfl (hb hby d2_53) rfl (teq hc53).1 (by decide) (by decide) k) ?_
            show Gl _ _ _ _ _ _ _ _ (s₁.setTop (mkF m 95 #[.val (.ref a1), .val (.ref a1), .val (.int (2 : Int32)), .val (.int (0 : Int32)), .val (.int u0), .unset] []))
            exact J95  s₁ _ X0 e0 N0
          · refine go (fun t k => XS.icmpNo X0.here hx rfl (hb hby d2_53) rfl (feq hc53).1 k) ?_
            show Gl _ _ _ _ _ _ _ _ (s₁.setTop (mkF m 56 #[.val (.ref a1), .val (.ref a1), .val (.int (2 : Int32)), .val (.int (0 : Int32)), .val (.int u0), .unset] []))
            refine go (fun t k => XS.iload X0.here hx rfl (hb hby d2_56) rfl  k) ?_
            show Gl _ _ _ _ _ _ _ _ (s₁.setTop (mkF m 58 #[.val (.ref a1), .val (.ref a1), .val (.int (2 : Int32)), .val (.int (0 : Int32)), .val (.int u0), .unset] [(.int u0)]))
            refine gR (c := u0 = (0 : Int32)) (fun hc58 => ?_) (fun hc58 => ?_)
            · refine go (fun t k => XS.ifYes X0.here hx rfl (pc0 := 58) (pc' := 95) rfl (hb hby d2_58) rfl ((if0 _ _).trans (teq hc58).1) (by decide) (by decide) k) ?_
              show Gl _ _ _ _ _ _ _ _ (s₁.setTop (mkF m 95 #[.val (.ref a1), .val (.ref a1), .val (.int (2 : Int32)), .val (.int (0 : Int32)), .val (.int u0), .unset] []))
              exact J95  s₁ _ X0 e0 N0
            · refine go (fun t k => XS.ifNo X0.here hx rfl (hb hby d2_58) rfl ((if0 _ _).trans (feq hc58).1) k) ?_
              show Gl _ _ _ _ _ _ _ _ (s₁.setTop (mkF m 61 #[.val (.ref a1), .val (.ref a1), .val (.int (2 : Int32)), .val (.int (0 : Int32)), .val (.int u0), .unset] []))
              refine go (fun t k => XS.iload X0.here hx rfl (hb hby d2_61) rfl  k) ?_
              show Gl _ _ _ _ _ _ _ _ (s₁.setTop (mkF m 63 #[.val (.ref a1), .val (.ref a1), .val (.int (2 : Int32)), .val (.int (0 : Int32)), .val (.int u0), .unset] [(.int u0)]))
              refine go (fun t k => XS.bipush X0.here hx rfl (hb hby d2_63) k) ?_
              show Gl _ _ _ _ _ _ _ _ (s₁.setTop (mkF m 65 #[.val (.ref a1), .val (.ref a1), .val (.int (2 : Int32)), .val (.int (0 : Int32)), .val (.int u0), .unset] [(.int (-17 : Int32)), (.int u0)]))
              refine gR (c := u0 = (-17 : Int32)) (fun hc65 => ?_) (fun hc65 => ?_)
              · refine go (fun t k => XS.icmpYes X0.here hx rfl (pc0 := 65) (pc' := 95) rfl (hb hby d2_65) rfl (teq hc65).1 (by decide) (by decide) k) ?_
                show Gl _ _ _ _ _ _ _ _ (s₁.setTop (mkF m 95 #[.val (.ref a1), .val (.ref a1), .val (.int (2 : Int32)), .val (.int (0 : Int32)), .val (.int u0), .unset] []))
                exact J95  s₁ _ X0 e0 N0
              · refine go (fun t k => XS.icmpNo X0.here hx rfl (hb hby d2_65) rfl (feq hc65).1 k) ?_
                show Gl _ _ _ _ _ _ _ _ (s₁.setTop (mkF m 68 #[.val (.ref a1), .val (.ref a1), .val (.int (2 : Int32)), .val (.int (0 : Int32)), .val (.int u0), .unset] []))
                refine go (fun t k => XS.iload X0.here hx rfl (hb hby d2_68) rfl  k) ?_
                show Gl _ _ _ _ _ _ _ _ (s₁.setTop (mkF m 70 #[.val (.ref a1), .val (.ref a1), .val (.int (2 : Int32)), .val (.int (0 : Int32)), .val (.int u0), .unset] [(.int u0)]))
                refine go (fun t k => XS.bipush X0.here hx rfl (hb hby d2_70) k) ?_
                show Gl _ _ _ _ _ _ _ _ (s₁.setTop (mkF m 72 #[.val (.ref a1), .val (.ref a1), .val (.int (2 : Int32)), .val (.int (0 : Int32)), .val (.int u0), .unset] [(.int (-69 : Int32)), (.int u0)]))
                refine gR (c := u0 = (-69 : Int32)) (fun hc72 => ?_) (fun hc72 => ?_)
                · refine go (fun t k => XS.icmpYes X0.here hx rfl (pc0 := 72) (pc' := 95) rfl (hb hby d2_72) rfl (teq hc72).1 (by decide) (by decide) k) ?_
                  show Gl _ _ _ _ _ _ _ _ (s₁.setTop (mkF m 95 #[.val (.ref a1), .val (.ref a1), .val (.int (2 : Int32)), .val (.int (0 : Int32)), .val (.int u0), .unset] []))
                  exact J95  s₁ _ X0 e0 N0
                · refine go (fun t k => XS.icmpNo X0.here hx rfl (hb hby d2_72) rfl (feq hc72).1 k) ?_
                  show Gl _ _ _ _ _ _ _ _ (s₁.setTop (mkF m 75 #[.val (.ref a1), .val (.ref a1), .val (.int (2 : Int32)), .val (.int (0 : Int32)), .val (.int u0), .unset] []))
                  refine go (fun t k => XS.iload X0.here hx rfl (hb hby d2_75) rfl  k) ?_
                  show Gl _ _ _ _ _ _ _ _ (s₁.setTop (mkF m 77 #[.val (.ref a1), .val (.ref a1), .val (.int (2 : Int32)), .val (.int (0 : Int32)), .val (.int u0), .unset] [(.int u0)]))
                  refine go (fun t k => XS.bipush X0.here hx rfl (hb hby d2_77) k) ?_
                  show Gl _ _ _ _ _ _ _ _ (s₁.setTop (mkF m 79 #[.val (.ref a1), .val (.ref a1), .val (.int (2 : Int32)), .val (.int (0 : Int32)), .val (.int u0), .unset] [(.int (-65 : Int32)), (.int u0)]))
                  refine gR (c := u0 = (-65 : Int32)) (fun hc79 => ?_) (fun hc79 => ?_)
                  · refine go (fun t k => XS.icmpYes X0.here hx rfl (pc0 := 79) (pc' := 95) rfl (hb hby d2_79) rfl (teq hc79).1 (by decide) (by decide) k) ?_
                    show Gl _ _ _ _ _ _ _ _ (s₁.setTop (mkF m 95 #[.val (.ref a1), .val (.ref a1), .val (.int (2 : Int32)), .val (.int (0 : Int32)), .val (.int u0), .unset] []))
                    exact J95  s₁ _ X0 e0 N0
                  · refine go (fun t k => XS.icmpNo X0.here hx rfl (hb hby d2_79) rfl (feq hc79).1 k) ?_
                    show Gl _ _ _ _ _ _ _ _ (s₁.setTop (mkF m 82 #[.val (.ref a1), .val (.ref a1), .val (.int (2 : Int32)), .val (.int (0 : Int32)), .val (.int u0), .unset] []))
                    refine go (fun t k => XS.iload X0.here hx rfl (hb hby d2_82) rfl  k) ?_
                    show Gl _ _ _ _ _ _ _ _ (s₁.setTop (mkF m 84 #[.val (.ref a1), .val (.ref a1), .val (.int (2 : Int32)), .val (.int (0 : Int32)), .val (.int u0), .unset] [(.int u0)]))
                    refine go (fun t k => XS.bipush X0.here hx rfl (hb hby d2_84) k) ?_
                    show Gl _ _ _ _ _ _ _ _ (s₁.setTop (mkF m 86 #[.val (.ref a1), .val (.ref a1), .val (.int (2 : Int32)), .val (.int (0 : Int32)), .val (.int u0), .unset] [(.int (-2 : Int32)), (.int u0)]))
                    refine gR (c := u0 = (-2 : Int32)) (fun hc86 => ?_) (fun hc86 => ?_)
                    · refine go (fun t k => XS.icmpYes X0.here hx rfl (pc0 := 86) (pc' := 95) rfl (hb hby d2_86) rfl (teq hc86).1 (by decide) (by decide) k) ?_
                      show Gl _ _ _ _ _ _ _ _ (s₁.setTop (mkF m 95 #[.val (.ref a1), .val (.ref a1), .val (.int (2 : Int32)), .val (.int (0 : Int32)), .val (.int u0), .unset] []))
                      exact J95  s₁ _ X0 e0 N0
                    · refine go (fun t k => XS.icmpNo X0.here hx rfl (hb hby d2_86) rfl (feq hc86).1 k) ?_
                      show Gl _ _ _ _ _ _ _ _ (s₁.setTop (mkF m 89 #[.val (.ref a1), .val (.ref a1), .val (.int (2 : Int32)), .val (.int (0 : Int32)), .val (.int u0), .unset] []))
                      refine go (fun t k => XS.iload X0.here hx rfl (hb hby d2_89) rfl  k) ?_
                      show Gl _ _ _ _ _ _ _ _ (s₁.setTop (mkF m 91 #[.val (.ref a1), .val (.ref a1), .val (.int (2 : Int32)), .val (.int (0 : Int32)), .val (.int u0), .unset] [(.int u0)]))
                      refine go (fun t k => XS.iconst X0.here hx rfl (hb hby d2_91) k) ?_
                      show Gl _ _ _ _ _ _ _ _ (s₁.setTop (mkF m 92 #[.val (.ref a1), .val (.ref a1), .val (.int (2 : Int32)), .val (.int (0 : Int32)), .val (.int u0), .unset] [(.int (-1 : Int32)), (.int u0)]))
                      refine gR (c := u0 = (-1 : Int32)) (fun hc92 => ?_) (fun hc92 => ?_)
                      · refine go (fun t k => XS.icmpNo X0.here hx rfl (hb hby d2_92) rfl (teq hc92).2 k) ?_
                        show Gl _ _ _ _ _ _ _ _ (s₁.setTop (mkF m 95 #[.val (.ref a1), .val (.ref a1), .val (.int (2 : Int32)), .val (.int (0 : Int32)), .val (.int u0), .unset] []))
                        exact J95  s₁ _ X0 e0 N0
                      · refine go (fun t k => XS.icmpYes X0.here hx rfl (pc0 := 92) (pc' := 99) rfl (hb hby d2_92) rfl (feq hc92).2 (by decide) (by decide) k) ?_
                        show Gl _ _ _ _ _ _ _ _ (s₁.setTop (mkF m 99 #[.val (.ref a1), .val (.ref a1), .val (.int (2 : Int32)), .val (.int (0 : Int32)), .val (.int u0), .unset] []))
                        refine go (fun t k => XS.iconst X0.here hx rfl (hb hby d2_99) k) ?_
                        show Gl _ _ _ _ _ _ _ _ (s₁.setTop (mkF m 100 #[.val (.ref a1), .val (.ref a1), .val (.int (2 : Int32)), .val (.int (0 : Int32)), .val (.int u0), .unset] [(.int (0 : Int32))]))
                        exact J100 (0 : Int32) s₁ _ X0 e0 N0
theorem ef_2t3 (m : MethodId) (a1 : Addr) : entryFrame m #[(.ref a1)] 6 = mkF m 0 #[.val (.ref a1), .unset, .unset, .unset, .unset, .unset] [] := by first | (simp [entryFrame, mkF, argsToLocals, Value.category]; done) | rfl
def b2t3_100t2 (w_COMPACT : Addr) (w_BLANK : Addr) (s0_200100 : Int32) : Addr := (if s0_200100 = (0 : Int32) then w_COMPACT else w_BLANK)
def b2t3_95t2 (w_COMPACT : Addr) (w_BLANK : Addr) : Addr := (b2t3_100t2 w_COMPACT w_BLANK (1 : Int32))
def b2t3_100t1 (w_XACML : Addr) (w_COMPACT : Addr) (w_BLANK : Addr) (u2 : Int32) (s0_100100 : Int32) : Addr := (if s0_100100 = (0 : Int32) then w_COMPACT else (if u2 = (60 : Int32) then w_XACML else (if u2 = (32 : Int32) then (b2t3_95t2 w_COMPACT w_BLANK) else (if u2 = (9 : Int32) then (b2t3_95t2 w_COMPACT w_BLANK) else (if u2 = (13 : Int32) then (b2t3_95t2 w_COMPACT w_BLANK) else (if u2 = (10 : Int32) then (b2t3_95t2 w_COMPACT w_BLANK) else (if u2 = (0 : Int32) then (b2t3_95t2 w_COMPACT w_BLANK) else (if u2 = (-17 : Int32) then (b2t3_95t2 w_COMPACT w_BLANK) else (if u2 = (-69 : Int32) then (b2t3_95t2 w_COMPACT w_BLANK) else (if u2 = (-65 : Int32) then (b2t3_95t2 w_COMPACT w_BLANK) else (if u2 = (-2 : Int32) then (b2t3_95t2 w_COMPACT w_BLANK) else (if u2 = (-1 : Int32) then (b2t3_95t2 w_COMPACT w_BLANK) else (b2t3_100t2 w_COMPACT w_BLANK (0 : Int32))))))))))))))
def b2t3_95t1 (w_XACML : Addr) (w_COMPACT : Addr) (w_BLANK : Addr) (u2 : Int32) : Addr := (b2t3_100t1 w_XACML w_COMPACT w_BLANK u2 (1 : Int32))
def b2t3_100 (w_XACML : Addr) (w_COMPACT : Addr) (w_BLANK : Addr) (u1 : Int32) (u2 : Int32) (s0_100 : Int32) : Addr := (if s0_100 = (0 : Int32) then w_COMPACT else (if u1 = (60 : Int32) then w_XACML else (if u1 = (32 : Int32) then (b2t3_95t1 w_XACML w_COMPACT w_BLANK u2) else (if u1 = (9 : Int32) then (b2t3_95t1 w_XACML w_COMPACT w_BLANK u2) else (if u1 = (13 : Int32) then (b2t3_95t1 w_XACML w_COMPACT w_BLANK u2) else (if u1 = (10 : Int32) then (b2t3_95t1 w_XACML w_COMPACT w_BLANK u2) else (if u1 = (0 : Int32) then (b2t3_95t1 w_XACML w_COMPACT w_BLANK u2) else (if u1 = (-17 : Int32) then (b2t3_95t1 w_XACML w_COMPACT w_BLANK u2) else (if u1 = (-69 : Int32) then (b2t3_95t1 w_XACML w_COMPACT w_BLANK u2) else (if u1 = (-65 : Int32) then (b2t3_95t1 w_XACML w_COMPACT w_BLANK u2) else (if u1 = (-2 : Int32) then (b2t3_95t1 w_XACML w_COMPACT w_BLANK u2) else (if u1 = (-1 : Int32) then (b2t3_95t1 w_XACML w_COMPACT w_BLANK u2) else (b2t3_100t1 w_XACML w_COMPACT w_BLANK u2 (0 : Int32))))))))))))))
def b2t3_95 (w_XACML : Addr) (w_COMPACT : Addr) (w_BLANK : Addr) (u1 : Int32) (u2 : Int32) : Addr := (b2t3_100 w_XACML w_COMPACT w_BLANK u1 u2 (1 : Int32))
def b2t3_0 (w_XACML : Addr) (w_COMPACT : Addr) (w_BLANK : Addr) (u0 : Int32) (u1 : Int32) (u2 : Int32) : Addr := (if u0 = (60 : Int32) then w_XACML else (if u0 = (32 : Int32) then (b2t3_95 w_XACML w_COMPACT w_BLANK u1 u2) else (if u0 = (9 : Int32) then (b2t3_95 w_XACML w_COMPACT w_BLANK u1 u2) else (if u0 = (13 : Int32) then (b2t3_95 w_XACML w_COMPACT w_BLANK u1 u2) else (if u0 = (10 : Int32) then (b2t3_95 w_XACML w_COMPACT w_BLANK u1 u2) else (if u0 = (0 : Int32) then (b2t3_95 w_XACML w_COMPACT w_BLANK u1 u2) else (if u0 = (-17 : Int32) then (b2t3_95 w_XACML w_COMPACT w_BLANK u1 u2) else (if u0 = (-69 : Int32) then (b2t3_95 w_XACML w_COMPACT w_BLANK u1 u2) else (if u0 = (-65 : Int32) then (b2t3_95 w_XACML w_COMPACT w_BLANK u1 u2) else (if u0 = (-2 : Int32) then (b2t3_95 w_XACML w_COMPACT w_BLANK u1 u2) else (if u0 = (-1 : Int32) then (b2t3_95 w_XACML w_COMPACT w_BLANK u1 u2) else (b2t3_100 w_XACML w_COMPACT w_BLANK u1 u2 (0 : Int32)))))))))))))
set_option maxRecDepth 65536 in
set_option maxHeartbeats 40000000 in
theorem rm2t3 (l : Launch) (Z : State) (a0 : Array Value) (hw : ∀ d ∈ tables_1, d.before a0 Z = true) (ws : List Jvm.Cond) (a1 : Addr) (w_XACML : Addr) (w_COMPACT : Addr) (w_BLANK : Addr) (ka : ClassId) (u0 : Int32) (u1 : Int32) (u2 : Int32) (h0 : Heap) (n0 : Nat) (Z0 : n0 ≤ h0.size) (S_XACML : Sta Z h0 "com/example/policylint/policylint/PolicySyntax" "XACML" "Lcom/example/policylint/policylint/PolicySyntax;" (.ref w_XACML)) (S_COMPACT : Sta Z h0 "com/example/policylint/policylint/PolicySyntax" "COMPACT" "Lcom/example/policylint/policylint/PolicySyntax;" (.ref w_COMPACT)) (S_BLANK : Sta Z h0 "com/example/policylint/policylint/PolicySyntax" "BLANK" "Lcom/example/policylint/policylint/PolicySyntax;" (.ref w_BLANK)) (V_a : Arv Z h0 a1 ka .byte (3 : Int32) [(.int u0), (.int u1), (.int u2)] (.int (0 : Int32))) :
    MetFree l (⟨"com/example/policylint/policylint/PolicySyntax", "of", "([B)Lcom/example/policylint/policylint/PolicySyntax;"⟩ : MethodName) (head1 (Jvm.Cond.code (⟨"com/example/policylint/policylint/PolicySyntax", "of", "([B)Lcom/example/policylint/policylint/PolicySyntax;"⟩ : MethodName) prog_7_method_4_code 6 (some (.object "com/example/policylint/policylint/PolicySyntax")) :: ws) ({ frames := 0, cells := 0, slots := 0, locals := 0 } : Room)) (fun a U => a = #[(.ref a1)] ∧ Z.Warmed39 U.vm ∧ U.heap = h0) (fun _ _ _ _ _ => True) (fun _ U o U' => ∃ v L, o = .returned v ∧ QK n0 (Kv (some (.ref (b2t3_0 w_XACML w_COMPACT w_BLANK u0 u1 u2))) (fun h => h = h0)) v U'.heap L ∧ FrameEnd U o U' L ({ frames := 0, cells := 0, slots := 0, locals := 0 } : Room).cells ({ frames := 0, cells := 0, slots := 0, locals := 0 } : Room).slots) := by
  refine MetFree.of_bodySF (plainFor_of_name pn_1) hisR ?_
  intro p e s m args below meth c s₁ Bd hml0 hP hK
  obtain ⟨rfl, hZ, hh⟩ := hP
  have hx := Bd.exec
  have hby := Bd.bytes
  have hml : c.maxLocals = 6 := hml0
  have hown : s.vm.findClass "com/example/policylint/policylint/PolicySyntax" = some m.cls := findClass_of_methodNamed Bd.named
  have hnm := (name_of_methodNamed Bd.named Bd.method).1
  have X0 : Stand p l e ({ frames := 0, cells := 0, slots := 0, locals := 0 } : Room) s m #[(.ref a1)] below meth c s₁ [] 0 0 := Stand.of_body Bd
  have e0 : s₁.heap = h0 := by rw [← hh, Bd.state]; rfl
  have N0 := Fr.nil n0
  refine gl_start (ef_2t3 m a1) ?_
  show Gl p e below s n0 ({ frames := 0, cells := 0, slots := 0, locals := 0 } : Room).cells ({ frames := 0, cells := 0, slots := 0, locals := 0 } : Room).slots (Kv (some (.ref (if u0 = (60 : Int32) then w_XACML else (if u0 = (32 : Int32) then (b2t3_95 w_XACML w_COMPACT w_BLANK u1 u2) else (if u0 = (9 : Int32) then (b2t3_95 w_XACML w_COMPACT w_BLANK u1 u2) else (if u0 = (13 : Int32) then (b2t3_95 w_XACML w_COMPACT w_BLANK u1 u2) else (if u0 = (10 : Int32) then (b2t3_95 w_XACML w_COMPACT w_BLANK u1 u2) else (if u0 = (0 : Int32) then (b2t3_95 w_XACML w_COMPACT w_BLANK u1 u2) else (if u0 = (-17 : Int32) then (b2t3_95 w_XACML w_COMPACT w_BLANK u1 u2) else (if u0 = (-69 : Int32) then (b2t3_95 w_XACML w_COMPACT w_BLANK u1 u2) else (if u0 = (-65 : Int32) then (b2t3_95 w_XACML w_COMPACT w_BLANK u1 u2) else (if u0 = (-2 : Int32) then (b2t3_95 w_XACML w_COMPACT w_BLANK u1 u2) else (if u0 = (-1 : Int32) then (b2t3_95 w_XACML w_COMPACT w_BLANK u1 u2) else (b2t3_100 w_XACML w_COMPACT w_BLANK u1 u2 (0 : Int32))))))))))))))) (fun h => h = h0)) (s₁.setTop (mkF m 0 #[.val (.ref a1), .unset, .unset, .unset, .unset, .unset] []))
  refine go (fun t k => XS.aloadN X0.here hx rfl (hb hby d2_0) rfl rfl k) ?_
  show Gl _ _ _ _ _ _ _ _ (s₁.setTop (mkF m 1 #[.val (.ref a1), .unset, .unset, .unset, .unset, .unset] [(.ref a1)]))
  refine go (fun t k => XS.astoreN X0.here hx rfl (hb hby d2_1) rfl rfl (l' := #[.val (.ref a1), .val (.ref a1), .unset, .unset, .unset, .unset]) rfl k) ?_
  show Gl _ _ _ _ _ _ _ _ (s₁.setTop (mkF m 2 #[.val (.ref a1), .val (.ref a1), .unset, .unset, .unset, .unset] []))
  refine go (fun t k => XS.aloadN X0.here hx rfl (hb hby d2_2) rfl rfl k) ?_
  show Gl _ _ _ _ _ _ _ _ (s₁.setTop (mkF m 3 #[.val (.ref a1), .val (.ref a1), .unset, .unset, .unset, .unset] [(.ref a1)]))
  obtain ⟨cl1, Ar1, vq1, S1, M1, Hh1, G1⟩ := id V_a
  have hl1 : cl1.slots.size.toInt32 = (3 : Int32) := len_of S1 M1
  refine go (fun t k => X0.arraylength hx (by rw [e0]; exact Ar1.1) (State.isArrayOf_alike hZ.alike Ar1.2.1) (g := (mkF m 3 #[.val (.ref a1), .val (.ref a1), .unset, .unset, .unset, .unset] [(.ref a1)])) rfl rfl (hb hby d2_3) _ (by rw [hl1]; exact k)) ?_
  show Gl _ _ _ _ _ _ _ _ (s₁.setTop (mkF m 4 #[.val (.ref a1), .val (.ref a1), .unset, .unset, .unset, .unset] [(.int (3 : Int32))]))
  refine go (fun t k => XS.istoreN X0.here hx rfl (hb hby d2_4) rfl (l' := #[.val (.ref a1), .val (.ref a1), .val (.int (3 : Int32)), .unset, .unset, .unset]) rfl k) ?_
  show Gl _ _ _ _ _ _ _ _ (s₁.setTop (mkF m 5 #[.val (.ref a1), .val (.ref a1), .val (.int (3 : Int32)), .unset, .unset, .unset] []))
  refine go (fun t k => XS.iconst X0.here hx rfl (hb hby d2_5) k) ?_
  show Gl _ _ _ _ _ _ _ _ (s₁.setTop (mkF m 6 #[.val (.ref a1), .val (.ref a1), .val (.int (3 : Int32)), .unset, .unset, .unset] [(.int (0 : Int32))]))
  refine go (fun t k => XS.istoreN X0.here hx rfl (hb hby d2_6) rfl (l' := #[.val (.ref a1), .val (.ref a1), .val (.int (3 : Int32)), .val (.int (0 : Int32)), .unset, .unset]) rfl k) ?_
  show Gl _ _ _ _ _ _ _ _ (s₁.setTop (mkF m 7 #[.val (.ref a1), .val (.ref a1), .val (.int (3 : Int32)), .val (.int (0 : Int32)), .unset, .unset] []))
  refine go (fun t k => XS.iloadN X0.here hx rfl (hb hby d2_7) rfl  k) ?_
  show Gl _ _ _ _ _ _ _ _ (s₁.setTop (mkF m 8 #[.val (.ref a1), .val (.ref a1), .val (.int (3 : Int32)), .val (.int (0 : Int32)), .unset, .unset] [(.int (0 : Int32))]))
  refine go (fun t k => XS.iloadN X0.here hx rfl (hb hby d2_8) rfl  k) ?_
  show Gl _ _ _ _ _ _ _ _ (s₁.setTop (mkF m 9 #[.val (.ref a1), .val (.ref a1), .val (.int (3 : Int32)), .val (.int (0 : Int32)), .unset, .unset] [(.int (3 : Int32)), (.int (0 : Int32))]))
  refine go (fun t k => XS.icmpNo X0.here hx rfl (hb hby d2_9) rfl (tlt (by decide : (0 : Int32) < (3 : Int32))).2.1 k) ?_
  show Gl _ _ _ _ _ _ _ _ (s₁.setTop (mkF m 12 #[.val (.ref a1), .val (.ref a1), .val (.int (3 : Int32)), .val (.int (0 : Int32)), .unset, .unset] []))
  refine go (fun t k => XS.aloadN X0.here hx rfl (hb hby d2_12) rfl rfl k) ?_
  show Gl _ _ _ _ _ _ _ _ (s₁.setTop (mkF m 13 #[.val (.ref a1), .val (.ref a1), .val (.int (3 : Int32)), .val (.int (0 : Int32)), .unset, .unset] [(.ref a1)]))
  refine go (fun t k => XS.iloadN X0.here hx rfl (hb hby d2_13) rfl  k) ?_
  show Gl _ _ _ _ _ _ _ _ (s₁.setTop (mkF m 14 #[.val (.ref a1), .val (.ref a1), .val (.int (3 : Int32)), .val (.int (0 : Int32)), .unset, .unset] [(.int (0 : Int32)), (.ref a1)]))
  obtain ⟨cl2, Ar2, vq2, S2, M2, Hh2, G2⟩ := id V_a
  have hin2 : ¬ ((0 : Int32) < 0 ∨ cl2.slots.size ≤ ((0 : Int32)).toNatClampNeg) := inb_of S2 ⟨by decide, by decide⟩
  have hat2 : cl2.slots[((0 : Int32)).toNatClampNeg]? = some (.int u0) := Hh2 0 (by rw [S2]; decide)
  refine go (fun t k => X0.baloadBytes hx (j := (0 : Int32)) (v := (.int u0)) (by rw [e0]; exact Ar2.1) (State.isArrayOf_alike hZ.alike Ar2.2.1) Ar2.2.2 hin2 hat2 (g := (mkF m 14 #[.val (.ref a1), .val (.ref a1), .val (.int (3 : Int32)), .val (.int (0 : Int32)), .unset, .unset] [(.int (0 : Int32)), (.ref a1)])) rfl rfl (hb hby d2_14) _ k) ?_
  show Gl _ _ _ _ _ _ _ _ (s₁.setTop (mkF m 15 #[.val (.ref a1), .val (.ref a1), .val (.int (3 : Int32)), .val (.int (0 : Int32)), .unset, .unset] [(.int u0)]))
  refine go (fun t k => XS.istore X0.here hx rfl (hb hby d2_15) rfl (l' := #[.val (.ref a1), .val (.ref a1), .val (.int (3 : Int32)), .val (.int (0 : Int32)), .val (.int u0), .unset]) rfl k) ?_
  show Gl _ _ _ _ _ _ _ _ (s₁.setTop (mkF m 17 #[.val (.ref a1), .val (.ref a1), .val (.int (3 : Int32)), .val (.int (0 : Int32)), .val (.int u0), .unset] []))
  refine go (fun t k => XS.iload X0.here hx rfl (hb hby d2_17) rfl  k) ?_
  show Gl _ _ _ _ _ _ _ _ (s₁.setTop (mkF m 19 #[.val (.ref a1), .val (.ref a1), .val (.int (3 : Int32)), .val (.int (0 : Int32)), .val (.int u0), .unset] [(.int u0)]))
  refine go (fun t k => XS.bipush X0.here hx rfl (hb hby d2_19) k) ?_
  show Gl _ _ _ _ _ _ _ _ (s₁.setTop (mkF m 21 #[.val (.ref a1), .val (.ref a1), .val (.int (3 : Int32)), .val (.int (0 : Int32)), .val (.int u0), .unset] [(.int (60 : Int32)), (.int u0)]))
  refine gR (c := u0 = (60 : Int32)) (fun hc21 => ?_) (fun hc21 => ?_)
  · refine go (fun t k => XS.icmpNo X0.here hx rfl (hb hby d2_21) rfl (teq hc21).2 k) ?_
    show Gl _ _ _ _ _ _ _ _ (s₁.setTop (mkF m 24 #[.val (.ref a1), .val (.ref a1), .val (.int (3 : Int32)), .val (.int (0 : Int32)), .val (.int u0), .unset] []))
    obtain ⟨T3, X3, e3, st3⟩ := getS2 X0 hx hZ hown (host := "") (Or.inl (hw _ (List.mem_of_getElem? (i := 21) rfl))) Via.refl e0 S_XACML (g := (mkF m 24 #[.val (.ref a1), .val (.ref a1), .val (.int (3 : Int32)), .val (.int (0 : Int32)), .val (.int u0), .unset] [])) rfl (hb hby d2_24)
    refine go (fun t k => st3 _ k) ?_
    show Gl _ _ _ _ _ _ _ _ (T3.setTop (mkF m 27 #[.val (.ref a1), .val (.ref a1), .val (.int (3 : Int32)), .val (.int (0 : Int32)), .val (.int u0), .unset] [(.ref w_XACML)]))
    exact endR X3 hx Bd rfl (hb hby d2_27) ⟨rfl, e3⟩ N0 (by decide) (by decide)
  · refine go (fun t k => XS.icmpYes X0.here hx rfl (pc0 := 21) (pc' := 28) rfl (hb hby d2_21) rfl (feq hc21).2 (by decide) (by decide) k) ?_
    show Gl _ _ _ _ _ _ _ _ (s₁.setTop (mkF m 28 #[.val (.ref a1), .val (.ref a1), .val (.int (3 : Int32)), .val (.int (0 : Int32)), .val (.int u0), .unset] []))
    refine go (fun t k => XS.iload X0.here hx rfl (hb hby d2_28) rfl  k) ?_
    show Gl _ _ _ _ _ _ _ _ (s₁.setTop (mkF m 30 #[.val (.ref a1), .val (.ref a1), .val (.int (3 : Int32)), .val (.int (0 : Int32)), .val (.int u0), .unset] [(.int u0)]))
    refine go (fun t k => XS.bipush X0.here hx rfl (hb hby d2_30) k) ?_
    show Gl _ _ _ _ _ _ _ _ (s₁.setTop (mkF m 32 #[.val (.ref a1), .val (.ref a1), .val (.int (3 : Int32)), .val (.int (0 : Int32)), .val (.int u0), .unset] [(.int (32 : Int32)), (.int u0)]))
    have J100 : ∀ (s0_100 : Int32) (TJ100 : State) (lJ100 : List Loc) (XJ100 : Stand p l e ({ frames := 0, cells := 0, slots := 0, locals := 0 } : Room) s m #[(.ref a1)] below meth c TJ100 lJ100 0 0) (eJ100 : TJ100.heap = h0) (NJ100 : Fr n0 lJ100), Gl p e below s n0 ({ frames := 0, cells := 0, slots := 0, locals := 0 } : Room).cells ({ frames := 0, cells := 0, slots := 0, locals := 0 } : Room).slots (Kv (some (.ref (b2t3_100 w_XACML w_COMPACT w_BLANK u1 u2 s0_100))) (fun h => h = h0)) (TJ100.setTop (mkF m 100 #[.val (.ref a1), .val (.ref a1), .val (.int (3 : Int32)), .val (.int (0 : Int32)), .val (.int u0), .unset] [(.int s0_100)])) := by
      intro s0_100 TJ100 lJ100 XJ100 eJ100 NJ100
      show Gl _ _ _ _ _ _ _ (Kv (some (.ref (if s0_100 = (0 : Int32) then w_COMPACT else (if u1 = (60 : Int32) then w_XACML else (if u1 = (32 : Int32) then (b2t3_95t1 w_XACML w_COMPACT w_BLANK u2) else (if u1 = (9 : Int32) then (b2t3_95t1 w_XACML w_COMPACT w_BLANK u2) else (if u1 = (13 : Int32) then (b2t3_95t1 w_XACML w_COMPACT w_BLANK u2) else (if u1 = (10 : Int32) then (b2t3_95t1 w_XACML w_COMPACT w_BLANK u2) else (if u1 = (0 : Int32) then (b2t3_95t1 w_XACML w_COMPACT w_BLANK u2) else (if u1 = (-17 : Int32) then (b2t3_95t1 w_XACML w_COMPACT w_BLANK u2) else (if u1 = (-69 : Int32) then (b2t3_95t1 w_XACML w_COMPACT w_BLANK u2) else (if u1 = (-65 : Int32) then (b2t3_95t1 w_XACML w_COMPACT w_BLANK u2) else (if u1 = (-2 : Int32) then (b2t3_95t1 w_XACML w_COMPACT w_BLANK u2) else (if u1 = (-1 : Int32) then (b2t3_95t1 w_XACML w_COMPACT w_BLANK u2) else (b2t3_100t1 w_XACML w_COMPACT w_BLANK u2 (0 : Int32)))))))))))))))) _) _
      refine go (fun t k => XS.istore XJ100.here hx rfl (hb hby d2_100) rfl (l' := #[.val (.ref a1), .val (.ref a1), .val (.int (3 : Int32)), .val (.int (0 : Int32)), .val (.int u0), .val (.int s0_100)]) rfl k) ?_
      show Gl _ _ _ _ _ _ _ _ (TJ100.setTop (mkF m 102 #[.val (.ref a1), .val (.ref a1), .val (.int (3 : Int32)), .val (.int (0 : Int32)), .val (.int u0), .val (.int s0_100)] []))
      refine go (fun t k => XS.iload XJ100.here hx rfl (hb hby d2_102) rfl  k) ?_
      show Gl _ _ _ _ _ _ _ _ (TJ100.setTop (mkF m 104 #[.val (.ref a1), .val (.ref a1), .val (.int (3 : Int32)), .val (.int (0 : Int32)), .val (.int u0), .val (.int s0_100)] [(.int s0_100)]))
      refine gR (c := s0_100 = (0 : Int32)) (fun hc104 => ?_) (fun hc104 => ?_)
      · refine go (fun t k => XS.ifNo XJ100.here hx rfl (hb hby d2_104) rfl ((if0 _ _).trans (teq hc104).2) k) ?_
        show Gl _ _ _ _ _ _ _ _ (TJ100.setTop (mkF m 107 #[.val (.ref a1), .val (.ref a1), .val (.int (3 : Int32)), .val (.int (0 : Int32)), .val (.int u0), .val (.int s0_100)] []))
        obtain ⟨T5, X5, e5, st5⟩ := getS2 XJ100 hx hZ hown (host := "") (Or.inl (hw _ (List.mem_of_getElem? (i := 24) rfl))) Via.refl eJ100 S_COMPACT (g := (mkF m 107 #[.val (.ref a1), .val (.ref a1), .val (.int (3 : Int32)), .val (.int (0 : Int32)), .val (.int u0), .val (.int s0_100)] [])) rfl (hb hby d2_107)
        refine go (fun t k => st5 _ k) ?_
        show Gl _ _ _ _ _ _ _ _ (T5.setTop (mkF m 110 #[.val (.ref a1), .val (.ref a1), .val (.int (3 : Int32)), .val (.int (0 : Int32)), .val (.int u0), .val (.int s0_100)] [(.ref w_COMPACT)]))
        exact endR X5 hx Bd rfl (hb hby d2_110) ⟨rfl, e5⟩ NJ100 (by decide) (by decide)
      · refine go (fun t k => XS.ifYes XJ100.here hx rfl (pc0 := 104) (pc' := 111) rfl (hb hby d2_104) rfl ((if0 _ _).trans (feq hc104).2) (by decide) (by decide) k) ?_
        show Gl _ _ _ _ _ _ _ _ (TJ100.setTop (mkF m 111 #[.val (.ref a1), .val (.ref a1), .val (.int (3 : Int32)), .val (.int (0 : Int32)), .val (.int u0), .val (.int s0_100)] []))
        refine go (fun t k => XS.iinc XJ100.here hx rfl (hb hby d2_111) rfl (l' := #[.val (.ref a1), .val (.ref a1), .val (.int (3 : Int32)), .val (.int (1 : Int32)), .val (.int u0), .val (.int s0_100)]) rfl k) ?_
        show Gl _ _ _ _ _ _ _ _ (TJ100.setTop (mkF m 114 #[.val (.ref a1), .val (.ref a1), .val (.int (3 : Int32)), .val (.int (1 : Int32)), .val (.int u0), .val (.int s0_100)] []))
        refine go (fun t k => XS.goto XJ100.here hx rfl (pc0 := 114) (pc' := 7) rfl (hb hby d2_114) (by decide) (by decide) k) ?_
        show Gl _ _ _ _ _ _ _ _ (TJ100.setTop (mkF m 7 #[.val (.ref a1), .val (.ref a1), .val (.int (3 : Int32)), .val (.int (1 : Int32)), .val (.int u0), .val (.int s0_100)] []))
        refine go (fun t k => XS.iloadN XJ100.here hx rfl (hb hby d2_7) rfl  k) ?_
        show Gl _ _ _ _ _ _ _ _ (TJ100.setTop (mkF m 8 #[.val (.ref a1), .val (.ref a1), .val (.int (3 : Int32)), .val (.int (1 : Int32)), .val (.int u0), .val (.int s0_100)] [(.int (1 : Int32))]))
        refine go (fun t k => XS.iloadN XJ100.here hx rfl (hb hby d2_8) rfl  k) ?_
        show Gl _ _ _ _ _ _ _ _ (TJ100.setTop (mkF m 9 #[.val (.ref a1), .val (.ref a1), .val (.int (3 : Int32)), .val (.int (1 : Int32)), .val (.int u0), .val (.int s0_100)] [(.int (3 : Int32)), (.int (1 : Int32))]))
        refine go (fun t k => XS.icmpNo XJ100.here hx rfl (hb hby d2_9) rfl (tlt (by decide : (1 : Int32) < (3 : Int32))).2.1 k) ?_
        show Gl _ _ _ _ _ _ _ _ (TJ100.setTop (mkF m 12 #[.val (.ref a1), .val (.ref a1), .val (.int (3 : Int32)), .val (.int (1 : Int32)), .val (.int u0), .val (.int s0_100)] []))
        refine go (fun t k => XS.aloadN XJ100.here hx rfl (hb hby d2_12) rfl rfl k) ?_
        show Gl _ _ _ _ _ _ _ _ (TJ100.setTop (mkF m 13 #[.val (.ref a1), .val (.ref a1), .val (.int (3 : Int32)), .val (.int (1 : Int32)), .val (.int u0), .val (.int s0_100)] [(.ref a1)]))
        refine go (fun t k => XS.iloadN XJ100.here hx rfl (hb hby d2_13) rfl  k) ?_
        show Gl _ _ _ _ _ _ _ _ (TJ100.setTop (mkF m 14 #[.val (.ref a1), .val (.ref a1), .val (.int (3 : Int32)), .val (.int (1 : Int32)), .val (.int u0), .val (.int s0_100)] [(.int (1 : Int32)), (.ref a1)]))
        obtain ⟨cl6, Ar6, vq6, S6, M6, Hh6, G6⟩ := id V_a
        have hin6 : ¬ ((1 : Int32) < 0 ∨ cl6.slots.size ≤ ((1 : Int32)).toNatClampNeg) := inb_of S6 ⟨by decide, by decide⟩
        have hat6 : cl6.slots[((1 : Int32)).toNatClampNeg]? = some (.int u1) := Hh6 1 (by rw [S6]; decide)
        refine go (fun t k => XJ100.baloadBytes hx (j := (1 : Int32)) (v := (.int u1)) (by rw [eJ100]; exact Ar6.1) (State.isArrayOf_alike hZ.alike Ar6.2.1) Ar6.2.2 hin6 hat6 (g := (mkF m 14 #[.val (.ref a1), .val (.ref a1), .val (.int (3 : Int32)), .val (.int (1 : Int32)), .val (.int u0), .val (.int s0_100)] [(.int (1 : Int32)), (.ref a1)])) rfl rfl (hb hby d2_14) _ k) ?_
        show Gl _ _ _ _ _ _ _ _ (TJ100.setTop (mkF m 15 #[.val (.ref a1), .val (.ref a1), .val (.int (3 : Int32)), .val (.int (1 : Int32)), .val (.int u0), .val (.int s0_100)] [(.int u1)]))
        refine go (fun t k => XS.istore XJ100.here hx rfl (hb hby d2_15) rfl (l' := #[.val (.ref a1), .val (.ref a1), .val (.int (3 : Int32)), .val (.int (1 : Int32)), .val (.int u1), .val (.int s0_100)]) rfl k) ?_
        show Gl _ _ _ _ _ _ _ _ (TJ100.setTop (mkF m 17 #[.val (.ref a1), .val (.ref a1), .val (.int (3 : Int32)), .val (.int (1 : Int32)), .val (.int u1), .val (.int s0_100)] []))
        refine go (fun t k => XS.iload XJ100.here hx rfl (hb hby d2_17) rfl  k) ?_
        show Gl _ _ _ _ _ _ _ _ (TJ100.setTop (mkF m 19 #[.val (.ref a1), .val (.ref a1), .val (.int (3 : Int32)), .val (.int (1 : Int32)), .val (.int u1), .val (.int s0_100)] [(.int u1)]))
        refine go (fun t k => XS.bipush XJ100.here hx rfl (hb hby d2_19) k) ?_
        show Gl _ _ _ _ _ _ _ _ (TJ100.setTop (mkF m 21 #[.val (.ref a1), .val (.ref a1), .val (.int (3 : Int32)), .val (.int (1 : Int32)), .val (.int u1), .val (.int s0_100)] [(.int (60 : Int32)), (.int u1)]))
        refine gR (c := u1 = (60 : Int32)) (fun hc100021 => ?_) (fun hc100021 => ?_)
        · refine go (fun t k => XS.icmpNo XJ100.here hx rfl (hb hby d2_21) rfl (teq hc100021).2 k) ?_
          show Gl _ _ _ _ _ _ _ _ (TJ100.setTop (mkF m 24 #[.val (.ref a1), .val (.ref a1), .val (.int (3 : Int32)), .val (.int (1 : Int32)), .val (.int u1), .val (.int s0_100)] []))
          obtain ⟨T7, X7, e7, st7⟩ := getS2 XJ100 hx hZ hown (host := "") (Or.inl (hw _ (List.mem_of_getElem? (i := 21) rfl))) Via.refl eJ100 S_XACML (g := (mkF m 24 #[.val (.ref a1), .val (.ref a1), .val (.int (3 : Int32)), .val (.int (1 : Int32)), .val (.int u1), .val (.int s0_100)] [])) rfl (hb hby d2_24)
          refine go (fun t k => st7 _ k) ?_
          show Gl _ _ _ _ _ _ _ _ (T7.setTop (mkF m 27 #[.val (.ref a1), .val (.ref a1), .val (.int (3 : Int32)), .val (.int (1 : Int32)), .val (.int u1), .val (.int s0_100)] [(.ref w_XACML)]))
          exact endR X7 hx Bd rfl (hb hby d2_27) ⟨rfl, e7⟩ NJ100 (by decide) (by decide)
        · refine go (fun t k => XS.icmpYes XJ100.here hx rfl (pc0 := 21) (pc' := 28) rfl (hb hby d2_21) rfl (feq hc100021).2 (by decide) (by decide) k) ?_
          show Gl _ _ _ _ _ _ _ _ (TJ100.setTop (mkF m 28 #[.val (.ref a1), .val (.ref a1), .val (.int (3 : Int32)), .val (.int (1 : Int32)), .val (.int u1), .val (.int s0_100)] []))
          refine go (fun t k => XS.iload XJ100.here hx rfl (hb hby d2_28) rfl  k) ?_
          show Gl _ _ _ _ _ _ _ _ (TJ100.setTop (mkF m 30 #[.val (.ref a1), .val (.ref a1), .val (.int (3 : Int32)), .val (.int (1 : Int32)), .val (.int u1), .val (.int s0_100)] [(.int u1)]))
          refine go (fun t k => XS.bipush XJ100.here hx rfl (hb hby d2_30) k) ?_
          show Gl _ _ _ _ _ _ _ _ (TJ100.setTop (mkF m 32 #[.val (.ref a1), .val (.ref a1), .val (.int (3 : Int32)), .val (.int (1 : Int32)), .val (.int u1), .val (.int s0_100)] [(.int (32 : Int32)), (.int u1)]))
          have J100100 : ∀ (s0_100100 : Int32) (TJ100100 : State) (lJ100100 : List Loc) (XJ100100 : Stand p l e ({ frames := 0, cells := 0, slots := 0, locals := 0 } : Room) s m #[(.ref a1)] below meth c TJ100100 lJ100100 0 0) (eJ100100 : TJ100100.heap = h0) (NJ100100 : Fr n0 lJ100100), Gl p e below s n0 ({ frames := 0, cells := 0, slots := 0, locals := 0 } : Room).cells ({ frames := 0, cells := 0, slots := 0, locals := 0 } : Room).slots (Kv (some (.ref (b2t3_100t1 w_XACML w_COMPACT w_BLANK u2 s0_100100))) (fun h => h = h0)) (TJ100100.setTop (mkF m 100 #[.val (.ref a1), .val (.ref a1), .val (.int (3 : Int32)), .val (.int (1 : Int32)), .val (.int u1), .val (.int s0_100)] [(.int s0_100100)])) := by
            intro s0_100100 TJ100100 lJ100100 XJ100100 eJ100100 NJ100100
            show Gl _ _ _ _ _ _ _ (Kv (some (.ref (if s0_100100 = (0 : Int32) then w_COMPACT else (if u2 = (60 : Int32) then w_XACML else (if u2 = (32 : Int32) then (b2t3_95t2 w_COMPACT w_BLANK) else (if u2 = (9 : Int32) then (b2t3_95t2 w_COMPACT w_BLANK) else (if u2 = (13 : Int32) then (b2t3_95t2 w_COMPACT w_BLANK) else (if u2 = (10 : Int32) then (b2t3_95t2 w_COMPACT w_BLANK) else (if u2 = (0 : Int32) then (b2t3_95t2 w_COMPACT w_BLANK) else (if u2 = (-17 : Int32) then (b2t3_95t2 w_COMPACT w_BLANK) else (if u2 = (-69 : Int32) then (b2t3_95t2 w_COMPACT w_BLANK) else (if u2 = (-65 : Int32) then (b2t3_95t2 w_COMPACT w_BLANK) else (if u2 = (-2 : Int32) then (b2t3_95t2 w_COMPACT w_BLANK) else (if u2 = (-1 : Int32) then (b2t3_95t2 w_COMPACT w_BLANK) else (b2t3_100t2 w_COMPACT w_BLANK (0 : Int32)))))))))))))))) _) _
            refine go (fun t k => XS.istore XJ100100.here hx rfl (hb hby d2_100) rfl (l' := #[.val (.ref a1), .val (.ref a1), .val (.int (3 : Int32)), .val (.int (1 : Int32)), .val (.int u1), .val (.int s0_100100)]) rfl k) ?_
            show Gl _ _ _ _ _ _ _ _ (TJ100100.setTop (mkF m 102 #[.val (.ref a1), .val (.ref a1), .val (.int (3 : Int32)), .val (.int (1 : Int32)), .val (.int u1), .val (.int s0_100100)] []))
            refine go (fun t k => XS.iload XJ100100.here hx rfl (hb hby d2_102) rfl  k) ?_
            show Gl _ _ _ _ _ _ _ _ (TJ100100.setTop (mkF m 104 #[.val (.ref a1), .val (.ref a1), .val (.int (3 : Int32)), .val (.int (1 : Int32)), .val (.int u1), .val (.int s0_100100)] [(.int s0_100100)]))
            refine gR (c := s0_100100 = (0 : Int32)) (fun hc100104 => ?_) (fun hc100104 => ?_)
            · refine go (fun t k => XS.ifNo XJ100100.here hx rfl (hb hby d2_104) rfl ((if0 _ _).trans (teq hc100104).2) k) ?_
              show Gl _ _ _ _ _ _ _ _ (TJ100100.setTop (mkF m 107 #[.val (.ref a1), .val (.ref a1), .val (.int (3 : Int32)), .val (.int (1 : Int32)), .val (.int u1), .val (.int s0_100100)] []))
              obtain ⟨T9, X9, e9, st9⟩ := getS2 XJ100100 hx hZ hown (host := "") (Or.inl (hw _ (List.mem_of_getElem? (i := 24) rfl))) Via.refl eJ100100 S_COMPACT (g := (mkF m 107 #[.val (.ref a1), .val (.ref a1), .val (.int (3 : Int32)), .val (.int (1 : Int32)), .val (.int u1), .val (.int s0_100100)] [])) rfl (hb hby d2_107)
              refine go (fun t k => st9 _ k) ?_
              show Gl _ _ _ _ _ _ _ _ (T9.setTop (mkF m 110 #[.val (.ref a1), .val (.ref a1), .val (.int (3 : Int32)), .val (.int (1 : Int32)), .val (.int u1), .val (.int s0_100100)] [(.ref w_COMPACT)]))
              exact endR X9 hx Bd rfl (hb hby d2_110) ⟨rfl, e9⟩ NJ100100 (by decide) (by decide)
            · refine go (fun t k => XS.ifYes XJ100100.here hx rfl (pc0 := 104) (pc' := 111) rfl (hb hby d2_104) rfl ((if0 _ _).trans (feq hc100104).2) (by decide) (by decide) k) ?_
              show Gl _ _ _ _ _ _ _ _ (TJ100100.setTop (mkF m 111 #[.val (.ref a1), .val (.ref a1), .val (.int (3 : Int32)), .val (.int (1 : Int32)), .val (.int u1), .val (.int s0_100100)] []))
              refine go (fun t k => XS.iinc XJ100100.here hx rfl (hb hby d2_111) rfl (l' := #[.val (.ref a1), .val (.ref a1), .val (.int (3 : Int32)), .val (.int (2 : Int32)), .val (.int u1), .val (.int s0_100100)]) rfl k) ?_
              show Gl _ _ _ _ _ _ _ _ (TJ100100.setTop (mkF m 114 #[.val (.ref a1), .val (.ref a1), .val (.int (3 : Int32)), .val (.int (2 : Int32)), .val (.int u1), .val (.int s0_100100)] []))
              refine go (fun t k => XS.goto XJ100100.here hx rfl (pc0 := 114) (pc' := 7) rfl (hb hby d2_114) (by decide) (by decide) k) ?_
              show Gl _ _ _ _ _ _ _ _ (TJ100100.setTop (mkF m 7 #[.val (.ref a1), .val (.ref a1), .val (.int (3 : Int32)), .val (.int (2 : Int32)), .val (.int u1), .val (.int s0_100100)] []))
              refine go (fun t k => XS.iloadN XJ100100.here hx rfl (hb hby d2_7) rfl  k) ?_
              show Gl _ _ _ _ _ _ _ _ (TJ100100.setTop (mkF m 8 #[.val (.ref a1), .val (.ref a1), .val (.int (3 : Int32)), .val (.int (2 : Int32)), .val (.int u1), .val (.int s0_100100)] [(.int (2 : Int32))]))
              refine go (fun t k => XS.iloadN XJ100100.here hx rfl (hb hby d2_8) rfl  k) ?_
              show Gl _ _ _ _ _ _ _ _ (TJ100100.setTop (mkF m 9 #[.val (.ref a1), .val (.ref a1), .val (.int (3 : Int32)), .val (.int (2 : Int32)), .val (.int u1), .val (.int s0_100100)] [(.int (3 : Int32)), (.int (2 : Int32))]))
              refine go (fun t k => XS.icmpNo XJ100100.here hx rfl (hb hby d2_9) rfl (tlt (by decide : (2 : Int32) < (3 : Int32))).2.1 k) ?_
              show Gl _ _ _ _ _ _ _ _ (TJ100100.setTop (mkF m 12 #[.val (.ref a1), .val (.ref a1), .val (.int (3 : Int32)), .val (.int (2 : Int32)), .val (.int u1), .val (.int s0_100100)] []))
              refine go (fun t k => XS.aloadN XJ100100.here hx rfl (hb hby d2_12) rfl rfl k) ?_
              show Gl _ _ _ _ _ _ _ _ (TJ100100.setTop (mkF m 13 #[.val (.ref a1), .val (.ref a1), .val (.int (3 : Int32)), .val (.int (2 : Int32)), .val (.int u1), .val (.int s0_100100)] [(.ref a1)]))
              refine go (fun t k => XS.iloadN XJ100100.here hx rfl (hb hby d2_13) rfl  k) ?_
              show Gl _ _ _ _ _ _ _ _ (TJ100100.setTop (mkF m 14 #[.val (.ref a1), .val (.ref a1), .val (.int (3 : Int32)), .val (.int (2 : Int32)), .val (.int u1), .val (.int s0_100100)] [(.int (2 : Int32)), (.ref a1)]))
              obtain ⟨cl10, Ar10, vq10, S10, M10, Hh10, G10⟩ := id V_a
              have hin10 : ¬ ((2 : Int32) < 0 ∨ cl10.slots.size ≤ ((2 : Int32)).toNatClampNeg) := inb_of S10 ⟨by decide, by decide⟩
              have hat10 : cl10.slots[((2 : Int32)).toNatClampNeg]? = some (.int u2) := Hh10 2 (by rw [S10]; decide)
              refine go (fun t k => XJ100100.baloadBytes hx (j := (2 : Int32)) (v := (.int u2)) (by rw [eJ100100]; exact Ar10.1) (State.isArrayOf_alike hZ.alike Ar10.2.1) Ar10.2.2 hin10 hat10 (g := (mkF m 14 #[.val (.ref a1), .val (.ref a1), .val (.int (3 : Int32)), .val (.int (2 : Int32)), .val (.int u1), .val (.int s0_100100)] [(.int (2 : Int32)), (.ref a1)])) rfl rfl (hb hby d2_14) _ k) ?_
              show Gl _ _ _ _ _ _ _ _ (TJ100100.setTop (mkF m 15 #[.val (.ref a1), .val (.ref a1), .val (.int (3 : Int32)), .val (.int (2 : Int32)), .val (.int u1), .val (.int s0_100100)] [(.int u2)]))
              refine go (fun t k => XS.istore XJ100100.here hx rfl (hb hby d2_15) rfl (l' := #[.val (.ref a1), .val (.ref a1), .val (.int (3 : Int32)), .val (.int (2 : Int32)), .val (.int u2), .val (.int s0_100100)]) rfl k) ?_
              show Gl _ _ _ _ _ _ _ _ (TJ100100.setTop (mkF m 17 #[.val (.ref a1), .val (.ref a1), .val (.int (3 : Int32)), .val (.int (2 : Int32)), .val (.int u2), .val (.int s0_100100)] []))
              refine go (fun t k => XS.iload XJ100100.here hx rfl (hb hby d2_17) rfl  k) ?_
              show Gl _ _ _ _ _ _ _ _ (TJ100100.setTop (mkF m 19 #[.val (.ref a1), .val (.ref a1), .val (.int (3 : Int32)), .val (.int (2 : Int32)), .val (.int u2), .val (.int s0_100100)] [(.int u2)]))
              refine go (fun t k => XS.bipush XJ100100.here hx rfl (hb hby d2_19) k) ?_
              show Gl _ _ _ _ _ _ _ _ (TJ100100.setTop (mkF m 21 #[.val (.ref a1), .val (.ref a1), .val (.int (3 : Int32)), .val (.int (2 : Int32)), .val (.int u2), .val (.int s0_100100)] [(.int (60 : Int32)), (.int u2)]))
              refine gR (c := u2 = (60 : Int32)) (fun hc200021 => ?_) (fun hc200021 => ?_)
              · refine go (fun t k => XS.icmpNo XJ100100.here hx rfl (hb hby d2_21) rfl (teq hc200021).2 k) ?_
                show Gl _ _ _ _ _ _ _ _ (TJ100100.setTop (mkF m 24 #[.val (.ref a1), .val (.ref a1), .val (.int (3 : Int32)), .val (.int (2 : Int32)), .val (.int u2), .val (.int s0_100100)] []))
                obtain ⟨T11, X11, e11, st11⟩ := getS2 XJ100100 hx hZ hown (host := "") (Or.inl (hw _ (List.mem_of_getElem? (i := 21) rfl))) Via.refl eJ100100 S_XACML (g := (mkF m 24 #[.val (.ref a1), .val (.ref a1), .val (.int (3 : Int32)), .val (.int (2 : Int32)), .val (.int u2), .val (.int s0_100100)] [])) rfl (hb hby d2_24)
                refine go (fun t k => st11 _ k) ?_
                show Gl _ _ _ _ _ _ _ _ (T11.setTop (mkF m 27 #[.val (.ref a1), .val (.ref a1), .val (.int (3 : Int32)), .val (.int (2 : Int32)), .val (.int u2), .val (.int s0_100100)] [(.ref w_XACML)]))
                exact endR X11 hx Bd rfl (hb hby d2_27) ⟨rfl, e11⟩ NJ100100 (by decide) (by decide)
              · refine go (fun t k => XS.icmpYes XJ100100.here hx rfl (pc0 := 21) (pc' := 28) rfl (hb hby d2_21) rfl (feq hc200021).2 (by decide) (by decide) k) ?_
                show Gl _ _ _ _ _ _ _ _ (TJ100100.setTop (mkF m 28 #[.val (.ref a1), .val (.ref a1), .val (.int (3 : Int32)), .val (.int (2 : Int32)), .val (.int u2), .val (.int s0_100100)] []))
                refine go (fun t k => XS.iload XJ100100.here hx rfl (hb hby d2_28) rfl  k) ?_
                show Gl _ _ _ _ _ _ _ _ (TJ100100.setTop (mkF m 30 #[.val (.ref a1), .val (.ref a1), .val (.int (3 : Int32)), .val (.int (2 : Int32)), .val (.int u2), .val (.int s0_100100)] [(.int u2)]))
                refine go (fun t k => XS.bipush XJ100100.here hx rfl (hb hby d2_30) k) ?_
                show Gl _ _ _ _ _ _ _ _ (TJ100100.setTop (mkF m 32 #[.val (.ref a1), .val (.ref a1), .val (.int (3 : Int32)), .val (.int (2 : Int32)), .val (.int u2), .val (.int s0_100100)] [(.int (32 : Int32)), (.int u2)]))
                have J200100 : ∀ (s0_200100 : Int32) (TJ200100 : State) (lJ200100 : List Loc) (XJ200100 : Stand p l e ({ frames := 0, cells := 0, slots := 0, locals := 0 } : Room) s m #[(.ref a1)] below meth c TJ200100 lJ200100 0 0) (eJ200100 : TJ200100.heap = h0) (NJ200100 : Fr n0 lJ200100), Gl p e below s n0 ({ frames := 0, cells := 0, slots := 0, locals := 0 } : Room).cells ({ frames := 0, cells := 0, slots := 0, locals := 0 } : Room).slots (Kv (some (.ref (b2t3_100t2 w_COMPACT w_BLANK s0_200100))) (fun h => h = h0)) (TJ200100.setTop (mkF m 100 #[.val (.ref a1), .val (.ref a1), .val (.int (3 : Int32)), .val (.int (2 : Int32)), .val (.int u2), .val (.int s0_100100)] [(.int s0_200100)])) := by
                  intro s0_200100 TJ200100 lJ200100 XJ200100 eJ200100 NJ200100
                  show Gl _ _ _ _ _ _ _ (Kv (some (.ref (if s0_200100 = (0 : Int32) then w_COMPACT else w_BLANK))) _) _
                  refine go (fun t k => XS.istore XJ200100.here hx rfl (hb hby d2_100) rfl (l' := #[.val (.ref a1), .val (.ref a1), .val (.int (3 : Int32)), .val (.int (2 : Int32)), .val (.int u2), .val (.int s0_200100)]) rfl k) ?_
                  show Gl _ _ _ _ _ _ _ _ (TJ200100.setTop (mkF m 102 #[.val (.ref a1), .val (.ref a1), .val (.int (3 : Int32)), .val (.int (2 : Int32)), .val (.int u2), .val (.int s0_200100)] []))
                  refine go (fun t k => XS.iload XJ200100.here hx rfl (hb hby d2_102) rfl  k) ?_
                  show Gl _ _ _ _ _ _ _ _ (TJ200100.setTop (mkF m 104 #[.val (.ref a1), .val (.ref a1), .val (.int (3 : Int32)), .val (.int (2 : Int32)), .val (.int u2), .val (.int s0_200100)] [(.int s0_200100)]))
                  refine gR (c := s0_200100 = (0 : Int32)) (fun hc200104 => ?_) (fun hc200104 => ?_)
                  · refine go (fun t k => XS.ifNo XJ200100.here hx rfl (hb hby d2_104) rfl ((if0 _ _).trans (teq hc200104).2) k) ?_
                    show Gl _ _ _ _ _ _ _ _ (TJ200100.setTop (mkF m 107 #[.val (.ref a1), .val (.ref a1), .val (.int (3 : Int32)), .val (.int (2 : Int32)), .val (.int u2), .val (.int s0_200100)] []))
                    obtain ⟨T13, X13, e13, st13⟩ := getS2 XJ200100 hx hZ hown (host := "") (Or.inl (hw _ (List.mem_of_getElem? (i := 24) rfl))) Via.refl eJ200100 S_COMPACT (g := (mkF m 107 #[.val (.ref a1), .val (.ref a1), .val (.int (3 : Int32)), .val (.int (2 : Int32)), .val (.int u2), .val (.int s0_200100)] [])) rfl (hb hby d2_107)
                    refine go (fun t k => st13 _ k) ?_
                    show Gl _ _ _ _ _ _ _ _ (T13.setTop (mkF m 110 #[.val (.ref a1), .val (.ref a1), .val (.int (3 : Int32)), .val (.int (2 : Int32)), .val (.int u2), .val (.int s0_200100)] [(.ref w_COMPACT)]))
                    exact endR X13 hx Bd rfl (hb hby d2_110) ⟨rfl, e13⟩ NJ200100 (by decide) (by decide)
                  · refine go (fun t k => XS.ifYes XJ200100.here hx rfl (pc0 := 104) (pc' := 111) rfl (hb hby d2_104) rfl ((if0 _ _).trans (feq hc200104).2) (by decide) (by decide) k) ?_
                    show Gl _ _ _ _ _ _ _ _ (TJ200100.setTop (mkF m 111 #[.val (.ref a1), .val (.ref a1), .val (.int (3 : Int32)), .val (.int (2 : Int32)), .val (.int u2), .val (.int s0_200100)] []))
                    refine go (fun t k => XS.iinc XJ200100.here hx rfl (hb hby d2_111) rfl (l' := #[.val (.ref a1), .val (.ref a1), .val (.int (3 : Int32)), .val (.int (3 : Int32)), .val (.int u2), .val (.int s0_200100)]) rfl k) ?_
                    show Gl _ _ _ _ _ _ _ _ (TJ200100.setTop (mkF m 114 #[.val (.ref a1), .val (.ref a1), .val (.int (3 : Int32)), .val (.int (3 : Int32)), .val (.int u2), .val (.int s0_200100)] []))
                    refine go (fun t k => XS.goto XJ200100.here hx rfl (pc0 := 114) (pc' := 7) rfl (hb hby d2_114) (by decide) (by decide) k) ?_
                    show Gl _ _ _ _ _ _ _ _ (TJ200100.setTop (mkF m 7 #[.val (.ref a1), .val (.ref a1), .val (.int (3 : Int32)), .val (.int (3 : Int32)), .val (.int u2), .val (.int s0_200100)] []))
                    refine go (fun t k => XS.iloadN XJ200100.here hx rfl (hb hby d2_7) rfl  k) ?_
                    show Gl _ _ _ _ _ _ _ _ (TJ200100.setTop (mkF m 8 #[.val (.ref a1), .val (.ref a1), .val (.int (3 : Int32)), .val (.int (3 : Int32)), .val (.int u2), .val (.int s0_200100)] [(.int (3 : Int32))]))
                    refine go (fun t k => XS.iloadN XJ200100.here hx rfl (hb hby d2_8) rfl  k) ?_
                    show Gl _ _ _ _ _ _ _ _ (TJ200100.setTop (mkF m 9 #[.val (.ref a1), .val (.ref a1), .val (.int (3 : Int32)), .val (.int (3 : Int32)), .val (.int u2), .val (.int s0_200100)] [(.int (3 : Int32)), (.int (3 : Int32))]))
                    refine go (fun t k => XS.icmpYes XJ200100.here hx rfl (pc0 := 9) (pc' := 117) rfl (hb hby d2_9) rfl (flt (by decide : ¬ ((3 : Int32) < (3 : Int32)))).2.1 (by decide) (by decide) k) ?_
                    show Gl _ _ _ _ _ _ _ _ (TJ200100.setTop (mkF m 117 #[.val (.ref a1), .val (.ref a1), .val (.int (3 : Int32)), .val (.int (3 : Int32)), .val (.int u2), .val (.int s0_200100)] []))
                    obtain ⟨T14, X14, e14, st14⟩ := getS2 XJ200100 hx hZ hown (host := "") (Or.inl (hw _ (List.mem_of_getElem? (i := 12) rfl))) Via.refl eJ200100 S_BLANK (g := (mkF m 117 #[.val (.ref a1), .val (.ref a1), .val (.int (3 : Int32)), .val (.int (3 : Int32)), .val (.int u2), .val (.int s0_200100)] [])) rfl (hb hby d2_117)
                    refine go (fun t k => st14 _ k) ?_
                    show Gl _ _ _ _ _ _ _ _ (T14.setTop (mkF m 120 #[.val (.ref a1), .val (.ref a1), .val (.int (3 : Int32)), .val (.int (3 : Int32)), .val (.int u2), .val (.int s0_200100)] [(.ref w_BLANK)]))
                    exact endR X14 hx Bd rfl (hb hby d2_120) ⟨rfl, e14⟩ NJ200100 (by decide) (by decide)
                have J200095 : ∀  (TJ200095 : State) (lJ200095 : List Loc) (XJ200095 : Stand p l e ({ frames := 0, cells := 0, slots := 0, locals := 0 } : Room) s m #[(.ref a1)] below meth c TJ200095 lJ200095 0 0) (eJ200095 : TJ200095.heap = h0) (NJ200095 : Fr n0 lJ200095), Gl p e below s n0 ({ frames := 0, cells := 0, slots := 0, locals := 0 } : Room).cells ({ frames := 0, cells := 0, slots := 0, locals := 0 } : Room).slots (Kv (some (.ref (b2t3_95t2 w_COMPACT w_BLANK))) (fun h => h = h0)) (TJ200095.setTop (mkF m 95 #[.val (.ref a1), .val (.ref a1), .val (.int (3 : Int32)), .val (.int (2 : Int32)), .val (.int u2), .val (.int s0_100100)] [])) := by
                  intro  TJ200095 lJ200095 XJ200095 eJ200095 NJ200095
                  show Gl _ _ _ _ _ _ _ (Kv (some (.ref (b2t3_100t2 w_COMPACT w_BLANK (1 : Int32)))) _) _
                  refine go (fun t k => XS.iconst XJ200095.here hx rfl (hb hby d2_95) k) ?_
                  show Gl _ _ _ _ _ _ _ _ (TJ200095.setTop (mkF m 96 #[.val (.ref a1), .val (.ref a1), .val (.int (3 : Int32)), .val (.int (2 : Int32)), .val (.int u2), .val (.int s0_100100)] [(.int (1 : Int32))]))
                  refine go (fun t k => XS.goto XJ200095.here hx rfl (pc0 := 96) (pc' := 100) rfl (hb hby d2_96) (by decide) (by decide) k) ?_
                  show Gl _ _ _ _ _ _ _ _ (TJ200095.setTop (mkF m 100 #[.val (.ref a1), .val (.ref a1), .val (.int (3 : Int32)), .val (.int (2 : Int32)), .val (.int u2), .val (.int s0_100100)] [(.int (1 : Int32))]))
                  exact J200100 (1 : Int32) TJ200095 _ XJ200095 eJ200095 NJ200095
                refine gR (c := u2 = (32 : Int32)) (fun hc200032 => ?_) (fun hc200032 => ?_)
                · refine go (fun t k => XS.icmpYes XJ100100.here hx rfl (pc0 := 32) (pc' := 95) rfl (hb hby d2_32) rfl (teq hc200032).1 (by decide) (by decide) k) ?_
                  show Gl _ _ _ _ _ _ _ _ (TJ100100.setTop (mkF m 95 #[.val (.ref a1), .val (.ref a1), .val (.int (3 : Int32)), .val (.int (2 : Int32)), .val (.int u2), .val (.int s0_100100)] []))
                  exact J200095  TJ100100 _ XJ100100 eJ100100 NJ100100
                · refine go (fun t k => XS.icmpNo XJ100100.here hx rfl (hb hby d2_32) rfl (feq hc200032).1 k) ?_
                  show Gl _ _ _ _ _ _ _ _ (TJ100100.setTop (mkF m 35 #[.val (.ref a1), .val (.ref a1), .val (.int (3 : Int32)), .val (.int (2 : Int32)), .val (.int u2), .val (.int s0_100100)] []))
                  refine go (fun t k => XS.iload XJ100100.here hx rfl (hb hby d2_35) rfl  k) ?_
                  show Gl _ _ _ _ _ _ _ _ (TJ100100.setTop (mkF m 37 #[.val (.ref a1), .val (.ref a1), .val (.int (3 : Int32)), .val (.int (2 : Int32)), .val (.int u2), .val (.int s0_100100)] [(.int u2)]))
                  refine go (fun t k => XS.bipush XJ100100.here hx rfl (hb hby d2_37) k) ?_
                  show Gl _ _ _ _ _ _ _ _ (TJ100100.setTop (mkF m 39 #[.val (.ref a1), .val (.ref a1), .val (.int (3 : Int32)), .val (.int (2 : Int32)), .val (.int u2), .val (.int s0_100100)] [(.int (9 : Int32)), (.int u2)]))
                  refine gR (c := u2 = (9 : Int32)) (fun hc200039 => ?_) (fun hc200039 => ?_)
                  · refine go (fun t k => XS.icmpYes XJ100100.here hx rfl (pc0 := 39) (pc' := 95) rfl (hb hby d2_39) rfl (teq hc200039).1 (by decide) (by decide) k) ?_
                    show Gl _ _ _ _ _ _ _ _ (TJ100100.setTop (mkF m 95 #[.val (.ref a1), .val (.ref a1), .val (.int (3 : Int32)), .val (.int (2 : Int32)), .val (.int u2), .val (.int s0_100100)] []))
                    exact J200095  TJ100100 _ XJ100100 eJ100100 NJ100100
                  · refine go (fun t k => XS.icmpNo XJ100100.here hx rfl (hb hby d2_39) rfl (feq hc200039).1 k) ?_
                    show Gl _ _ _ _ _ _ _ _ (TJ100100.setTop (mkF m 42 #[.val (.ref a1), .val (.ref a1), .val (.int (3 : Int32)), .val (.int (2 : Int32)), .val (.int u2), .val (.int s0_100100)] []))
                    refine go (fun t k => XS.iload XJ100100.here hx rfl (hb hby d2_42) rfl  k) ?_
                    show Gl _ _ _ _ _ _ _ _ (TJ100100.setTop (mkF m 44 #[.val (.ref a1), .val (.ref a1), .val (.int (3 : Int32)), .val (.int (2 : Int32)), .val (.int u2), .val (.int s0_100100)] [(.int u2)]))
                    refine go (fun t k => XS.bipush XJ100100.here hx rfl (hb hby d2_44) k) ?_
                    show Gl _ _ _ _ _ _ _ _ (TJ100100.setTop (mkF m 46 #[.val (.ref a1), .val (.ref a1), .val (.int (3 : Int32)), .val (.int (2 : Int32)), .val (.int u2), .val (.int s0_100100)] [(.int (13 : Int32)), (.int u2)]))
                    refine gR (c := u2 = (13 : Int32)) (fun hc200046 => ?_) (fun hc200046 => ?_)
                    · refine go (fun t k => XS.icmpYes XJ100100.here hx rfl (pc0 := 46) (pc' := 95) rfl (hb hby d2_46) rfl (teq hc200046).1 (by decide) (by decide) k) ?_
                      show Gl _ _ _ _ _ _ _ _ (TJ100100.setTop (mkF m 95 #[.val (.ref a1), .val (.ref a1), .val (.int (3 : Int32)), .val (.int (2 : Int32)), .val (.int u2), .val (.int s0_100100)] []))
                      exact J200095  TJ100100 _ XJ100100 eJ100100 NJ100100
                    · refine go (fun t k => XS.icmpNo XJ100100.here hx rfl (hb hby d2_46) rfl (feq hc200046).1 k) ?_
                      show Gl _ _ _ _ _ _ _ _ (TJ100100.setTop (mkF m 49 #[.val (.ref a1), .val (.ref a1), .val (.int (3 : Int32)), .val (.int (2 : Int32)), .val (.int u2), .val (.int s0_100100)] []))
                      refine go (fun t k => XS.iload XJ100100.here hx rfl (hb hby d2_49) rfl  k) ?_
                      show Gl _ _ _ _ _ _ _ _ (TJ100100.setTop (mkF m 51 #[.val (.ref a1), .val (.ref a1), .val (.int (3 : Int32)), .val (.int (2 : Int32)), .val (.int u2), .val (.int s0_100100)] [(.int u2)]))
                      refine go (fun t k => XS.bipush XJ100100.here hx rfl (hb hby d2_51) k) ?_
                      show Gl _ _ _ _ _ _ _ _ (TJ100100.setTop (mkF m 53 #[.val (.ref a1), .val (.ref a1), .val (.int (3 : Int32)), .val (.int (2 : Int32)), .val (.int u2), .val (.int s0_100100)] [(.int (10 : Int32)), (.int u2)]))
                      refine gR (c := u2 = (10 : Int32)) (fun hc200053 => ?_) (fun hc200053 => ?_)
                      · refine go (fun t k => XS.icmpYes XJ100100.here hx rfl (pc0 := 53) (pc' := 95) rfl (hb hby d2_53) rfl (teq hc200053).1 (by decide) (by decide) k) ?_
                        show Gl _ _ _ _ _ _ _ _ (TJ100100.setTop (mkF m 95 #[.val (.ref a1), .val (.ref a1), .val (.int (3 : Int32)), .val (.int (2 : Int32)), .val (.int u2), .val (.int s0_100100)] []))
                        exact J200095  TJ100100 _ XJ100100 eJ100100 NJ100100
                      · refine go (fun t k => XS.icmpNo XJ100100.here hx rfl (hb hby d2_53) rfl (feq hc200053).1 k) ?_
                        show Gl _ _ _ _ _ _ _ _ (TJ100100.setTop (mkF m 56 #[.val (.ref a1), .val (.ref a1), .val (.int (3 : Int32)), .val (.int (2 : Int32)), .val (.int u2), .val (.int s0_100100)] []))
                        refine go (fun t k => XS.iload XJ100100.here hx rfl (hb hby d2_56) rfl  k) ?_
                        show Gl _ _ _ _ _ _ _ _ (TJ100100.setTop (mkF m 58 #[.val (.ref a1), .val (.ref a1), .val (.int (3 : Int32)), .val (.int (2 : Int32)), .val (.int u2), .val (.int s0_100100)] [(.int u2)]))
                        refine gR (c := u2 = (0 : Int32)) (fun hc200058 => ?_) (fun hc200058 => ?_)
                        · refine go (fun t k => XS.ifYes XJ100100.here hx rfl (pc0 := 58) (pc' := 95) rfl (hb hby d2_58) rfl ((if0 _ _).trans (teq hc200058).1) (by decide) (by decide) k) ?_
                          show Gl _ _ _ _ _ _ _ _ (TJ100100.setTop (mkF m 95 #[.val (.ref a1), .val (.ref a1), .val (.int (3 : Int32)), .val (.int (2 : Int32)), .val (.int u2), .val (.int s0_100100)] []))
                          exact J200095  TJ100100 _ XJ100100 eJ100100 NJ100100
                        · refine go (fun t k => XS.ifNo XJ100100.here hx rfl (hb hby d2_58) rfl ((if0 _ _).trans (feq hc200058).1) k) ?_
                          show Gl _ _ _ _ _ _ _ _ (TJ100100.setTop (mkF m 61 #[.val (.ref a1), .val (.ref a1), .val (.int (3 : Int32)), .val (.int (2 : Int32)), .val (.int u2), .val (.int s0_100100)] []))
                          refine go (fun t k => XS.iload XJ100100.here hx rfl (hb hby d2_61) rfl  k) ?_
                          show Gl _ _ _ _ _ _ _ _ (TJ100100.setTop (mkF m 63 #[.val (.ref a1), .val (.ref a1), .val (.int (3 : Int32)), .val (.int (2 : Int32)), .val (.int u2), .val (.int s0_100100)] [(.int u2)]))
                          refine go (fun t k => XS.bipush XJ100100.here hx rfl (hb hby d2_63) k) ?_
                          show Gl _ _ _ _ _ _ _ _ (TJ100100.setTop (mkF m 65 #[.val (.ref a1), .val (.ref a1), .val (.int (3 : Int32)), .val (.int (2 : Int32)), .val (.int u2), .val (.int s0_100100)] [(.int (-17 : Int32)), (.int u2)]))
                          refine gR (c := u2 = (-17 : Int32)) (fun hc200065 => ?_) (fun hc200065 => ?_)
                          · refine go (fun t k => XS.icmpYes XJ100100.here hx rfl (pc0 := 65) (pc' := 95) rfl (hb hby d2_65) rfl (teq hc200065).1 (by decide) (by decide) k) ?_
                            show Gl _ _ _ _ _ _ _ _ (TJ100100.setTop (mkF m 95 #[.val (.ref a1), .val (.ref a1), .val (.int (3 : Int32)), .val (.int (2 : Int32)), .val (.int u2), .val (.int s0_100100)] []))
                            exact J200095  TJ100100 _ XJ100100 eJ100100 NJ100100
                          · refine go (fun t k => XS.icmpNo XJ100100.here hx rfl (hb hby d2_65) rfl (feq hc200065).1 k) ?_
                            show Gl _ _ _ _ _ _ _ _ (TJ100100.setTop (mkF m 68 #[.val (.ref a1), .val (.ref a1), .val (.int (3 : Int32)), .val (.int (2 : Int32)), .val (.int u2), .val (.int s0_100100)] []))
                            refine go (fun t k => XS.iload XJ100100.here hx rfl (hb hby d2_68) rfl  k) ?_
                            show Gl _ _ _ _ _ _ _ _ (TJ100100.setTop (mkF m 70 #[.val (.ref a1), .val (.ref a1), .val (.int (3 : Int32)), .val (.int (2 : Int32)), .val (.int u2), .val (.int s0_100100)] [(.int u2)]))
                            refine go (fun t k => XS.bipush XJ100100.here hx rfl (hb hby d2_70) k) ?_
                            show Gl _ _ _ _ _ _ _ _ (TJ100100.setTop (mkF m 72 #[.val (.ref a1), .val (.ref a1), .val (.int (3 : Int32)), .val (.int (2 : Int32)), .val (.int u2), .val (.int s0_100100)] [(.int (-69 : Int32)), (.int u2)]))
                            refine gR (c := u2 = (-69 : Int32)) (fun hc200072 => ?_) (fun hc200072 => ?_)
                            · refine go (fun t k => XS.icmpYes XJ100100.here hx rfl (pc0 := 72) (pc' := 95) rfl (hb hby d2_72) rfl (teq hc200072).1 (by decide) (by decide) k) ?_
                              show Gl _ _ _ _ _ _ _ _ (TJ100100.setTop (mkF m 95 #[.val (.ref a1), .val (.ref a1), .val (.int (3 : Int32)), .val (.int (2 : Int32)), .val (.int u2), .val (.int s0_100100)] []))
                              exact J200095  TJ100100 _ XJ100100 eJ100100 NJ100100
                            · refine go (fun t k => XS.icmpNo XJ100100.here hx rfl (hb hby d2_72) rfl (feq hc200072).1 k) ?_
                              show Gl _ _ _ _ _ _ _ _ (TJ100100.setTop (mkF m 75 #[.val (.ref a1), .val (.ref a1), .val (.int (3 : Int32)), .val (.int (2 : Int32)), .val (.int u2), .val (.int s0_100100)] []))
                              refine go (fun t k => XS.iload XJ100100.here hx rfl (hb hby d2_75) rfl  k) ?_
                              show Gl _ _ _ _ _ _ _ _ (TJ100100.setTop (mkF m 77 #[.val (.ref a1), .val (.ref a1), .val (.int (3 : Int32)), .val (.int (2 : Int32)), .val (.int u2), .val (.int s0_100100)] [(.int u2)]))
                              refine go (fun t k => XS.bipush XJ100100.here hx rfl (hb hby d2_77) k) ?_
                              show Gl _ _ _ _ _ _ _ _ (TJ100100.setTop (mkF m 79 #[.val (.ref a1), .val (.ref a1), .val (.int (3 : Int32)), .val (.int (2 : Int32)), .val (.int u2), .val (.int s0_100100)] [(.int (-65 : Int32)), (.int u2)]))
                              refine gR (c := u2 = (-65 : Int32)) (fun hc200079 => ?_) (fun hc200079 => ?_)
                              · refine go (fun t k => XS.icmpYes XJ100100.here hx rfl (pc0 := 79) (pc' := 95) rfl (hb hby d2_79) rfl (teq hc200079).1 (by decide) (by decide) k) ?_
                                show Gl _ _ _ _ _ _ _ _ (TJ100100.setTop (mkF m 95 #[.val (.ref a1), .val (.ref a1), .val (.int (3 : Int32)), .val (.int (2 : Int32)), .val (.int u2), .val (.int s0_100100)] []))
                                exact J200095  TJ100100 _ XJ100100 eJ100100 NJ100100
                              · refine go (fun t k => XS.icmpNo XJ100100.here hx rfl (hb hby d2_79) rfl (feq hc200079).1 k) ?_
                                show Gl _ _ _ _ _ _ _ _ (TJ100100.setTop (mkF m 82 #[.val (.ref a1), .val (.ref a1), .val (.int (3 : Int32)), .val (.int (2 : Int32)), .val (.int u2), .val (.int s0_100100)] []))
                                refine go (fun t k => XS.iload XJ100100.here hx rfl (hb hby d2_82) rfl  k) ?_
                                show Gl _ _ _ _ _ _ _ _ (TJ100100.setTop (mkF m 84 #[.val (.ref a1), .val (.ref a1), .val (.int (3 : Int32)), .val (.int (2 : Int32)), .val (.int u2), .val (.int s0_100100)] [(.int u2)]))
                                refine go (fun t k => XS.bipush XJ100100.here hx rfl (hb hby d2_84) k) ?_
                                show Gl _ _ _ _ _ _ _ _ (TJ100100.setTop (mkF m 86 #[.val (.ref a1), .val (.ref a1), .val (.int (3 : Int32)), .val (.int (2 : Int32)), .val (.int u2), .val (.int s0_100100)] [(.int (-2 : Int32)), (.int u2)]))
                                refine gR (c := u2 = (-2 : Int32)) (fun hc200086 => ?_) (fun hc200086 => ?_)
                                · refine go (fun t k => XS.icmpYes XJ100100.here hx rfl (pc0 := 86) (pc' := 95) rfl (hb hby d2_86) rfl (teq hc200086).1 (by decide) (by decide) k) ?_
                                  show Gl _ _ _ _ _ _ _ _ (TJ100100.setTop (mkF m 95 #[.val (.ref a1), .val (.ref a1), .val (.int (3 : Int32)), .val (.int (2 : Int32)), .val (.int u2), .val (.int s0_100100)] []))
                                  exact J200095  TJ100100 _ XJ100100 eJ100100 NJ100100
                                · refine go (fun t k => XS.icmpNo XJ100100.here hx rfl (hb hby d2_86) rfl (feq hc200086).1 k) ?_
                                  show Gl _ _ _ _ _ _ _ _ (TJ100100.setTop (mkF m 89 #[.val (.ref a1), .val (.ref a1), .val (.int (3 : Int32)), .val (.int (2 : Int32)), .val (.int u2), .val (.int s0_100100)] []))
                                  refine go (fun t k => XS.iload XJ100100.here hx rfl (hb hby d2_89) rfl  k) ?_
                                  show Gl _ _ _ _ _ _ _ _ (TJ100100.setTop (mkF m 91 #[.val (.ref a1), .val (.ref a1), .val (.int (3 : Int32)), .val (.int (2 : Int32)), .val (.int u2), .val (.int s0_100100)] [(.int u2)]))
                                  refine go (fun t k => XS.iconst XJ100100.here hx rfl (hb hby d2_91) k) ?_
                                  show Gl _ _ _ _ _ _ _ _ (TJ100100.setTop (mkF m 92 #[.val (.ref a1), .val (.ref a1), .val (.int (3 : Int32)), .val (.int (2 : Int32)), .val (.int u2), .val (.int s0_100100)] [(.int (-1 : Int32)), (.int u2)]))
                                  refine gR (c := u2 = (-1 : Int32)) (fun hc200092 => ?_) (fun hc200092 => ?_)
                                  · refine go (fun t k => XS.icmpNo XJ100100.here hx rfl (hb hby d2_92) rfl (teq hc200092).2 k) ?_
                                    show Gl _ _ _ _ _ _ _ _ (TJ100100.setTop (mkF m 95 #[.val (.ref a1), .val (.ref a1), .val (.int (3 : Int32)), .val (.int (2 : Int32)), .val (.int u2), .val (.int s0_100100)] []))
                                    exact J200095  TJ100100 _ XJ100100 eJ100100 NJ100100
                                  · refine go (fun t k => XS.icmpYes XJ100100.here hx rfl (pc0 := 92) (pc' := 99) rfl (hb hby d2_92) rfl (feq hc200092).2 (by decide) (by decide) k) ?_
                                    show Gl _ _ _ _ _ _ _ _ (TJ100100.setTop (mkF m 99 #[.val (.ref a1), .val (.ref a1), .val (.int (3 : Int32)), .val (.int (2 : Int32)), .val (.int u2), .val (.int s0_100100)] []))
                                    refine go (fun t k => XS.iconst XJ100100.here hx rfl (hb hby d2_99) k) ?_
                                    show Gl _ _ _ _ _ _ _ _ (TJ100100.setTop (mkF m 100 #[.val (.ref a1), .val (.ref a1), .val (.int (3 : Int32)), .val (.int (2 : Int32)), .val (.int u2), .val (.int s0_100100)] [(.int (0 : Int32))]))
                                    exact J200100 (0 : Int32) TJ100100 _ XJ100100 eJ100100 NJ100100
          have J100095 : ∀  (TJ100095 : State) (lJ100095 : List Loc) (XJ100095 : Stand p l e ({ frames := 0, cells := 0, slots := 0, locals := 0 } : Room) s m #[(.ref a1)] below meth c TJ100095 lJ100095 0 0) (eJ100095 : TJ100095.heap = h0) (NJ100095 : Fr n0 lJ100095), Gl p e below s n0 ({ frames := 0, cells := 0, slots := 0, locals := 0 } : Room).cells ({ frames := 0, cells := 0, slots := 0, locals := 0 } : Room).slots (Kv (some (.ref (b2t3_95t1 w_XACML w_COMPACT w_BLANK u2))) (fun h => h = h0)) (TJ100095.setTop (mkF m 95 #[.val (.ref a1), .val (.ref a1), .val (.int (3 : Int32)), .val (.int (1 : Int32)), .val (.int u1), .val (.int s0_100)] [])) := by
            intro  TJ100095 lJ100095 XJ100095 eJ100095 NJ100095
            show Gl _ _ _ _ _ _ _ (Kv (some (.ref (b2t3_100t1 w_XACML w_COMPACT w_BLANK u2 (1 : Int32)))) _) _
            refine go (fun t k => XS.iconst XJ100095.here hx rfl (hb hby d2_95) k) ?_
            show Gl _ _ _ _ _ _ _ _ (TJ100095.setTop (mkF m 96 #[.val (.ref a1), .val (.ref a1), .val (.int (3 : Int32)), .val (.int (1 : Int32)), .val (.int u1), .val (.int s0_100)] [(.int (1 : Int32))]))
            refine go (fun t k => XS.goto XJ100095.here hx rfl (pc0 := 96) (pc' := 100) rfl (hb hby d2_96) (by decide) (by decide) k) ?_
            show Gl _ _ _ _ _ _ _ _ (TJ100095.setTop (mkF m 100 #[.val (.ref a1), .val (.ref a1), .val (.int (3 : Int32)), .val (.int (1 : Int32)), .val (.int u1), .val (.int s0_100)] [(.int (1 : Int32))]))
            exact J100100 (1 : Int32) TJ100095 _ XJ100095 eJ100095 NJ100095
          refine gR (c := u1 = (32 : Int32)) (fun hc100032 => ?_) (fun hc100032 => ?_)
          · refine go (fun t k => XS.icmpYes XJ100.here hx rfl (pc0 := 32) (pc' := 95) rfl (hb hby d2_32) rfl (teq hc100032).1 (by decide) (by decide) k) ?_
            show Gl _ _ _ _ _ _ _ _ (TJ100.setTop (mkF m 95 #[.val (.ref a1), .val (.ref a1), .val (.int (3 : Int32)), .val (.int (1 : Int32)), .val (.int u1), .val (.int s0_100)] []))
            exact J100095  TJ100 _ XJ100 eJ100 NJ100
          · refine go (fun t k => XS.icmpNo XJ100.here hx rfl (hb hby d2_32) rfl (feq hc100032).1 k) ?_
            show Gl _ _ _ _ _ _ _ _ (TJ100.setTop (mkF m 35 #[.val (.ref a1), .val (.ref a1), .val (.int (3 : Int32)), .val (.int (1 : Int32)), .val (.int u1), .val (.int s0_100)] []))
            refine go (fun t k => XS.iload XJ100.here hx rfl (hb hby d2_35) rfl  k) ?_
            show Gl _ _ _ _ _ _ _ _ (TJ100.setTop (mkF m 37 #[.val (.ref a1), .val (.ref a1), .val (.int (3 : Int32)), .val (.int (1 : Int32)), .val (.int u1), .val (.int s0_100)] [(.int u1)]))
            refine go (fun t k => XS.bipush XJ100.here hx rfl (hb hby d2_37) k) ?_
            show Gl _ _ _ _ _ _ _ _ (TJ100.setTop (mkF m 39 #[.val (.ref a1), .val (.ref a1), .val (.int (3 : Int32)), .val (.int (1 : Int32)), .val (.int u1), .val (.int s0_100)] [(.int (9 : Int32)), (.int u1)]))
            refine gR (c := u1 = (9 : Int32)) (fun hc100039 => ?_) (fun hc100039 => ?_)
            · refine go (fun t k => XS.icmpYes XJ100.here hx rfl (pc0 := 39) (pc' := 95) rfl (hb hby d2_39) rfl (teq hc100039).1 (by decide) (by decide) k) ?_
              show Gl _ _ _ _ _ _ _ _ (TJ100.setTop (mkF m 95 #[.val (.ref a1), .val (.ref a1), .val (.int (3 : Int32)), .val (.int (1 : Int32)), .val (.int u1), .val (.int s0_100)] []))
              exact J100095  TJ100 _ XJ100 eJ100 NJ100
            · refine go (fun t k => XS.icmpNo XJ100.here hx rfl (hb hby d2_39) rfl (feq hc100039).1 k) ?_
              show Gl _ _ _ _ _ _ _ _ (TJ100.setTop (mkF m 42 #[.val (.ref a1), .val (.ref a1), .val (.int (3 : Int32)), .val (.int (1 : Int32)), .val (.int u1), .val (.int s0_100)] []))
              refine go (fun t k => XS.iload XJ100.here hx rfl (hb hby d2_42) rfl  k) ?_
              show Gl _ _ _ _ _ _ _ _ (TJ100.setTop (mkF m 44 #[.val (.ref a1), .val (.ref a1), .val (.int (3 : Int32)), .val (.int (1 : Int32)), .val (.int u1), .val (.int s0_100)] [(.int u1)]))
              refine go (fun t k => XS.bipush XJ100.here hx rfl (hb hby d2_44) k) ?_
              show Gl _ _ _ _ _ _ _ _ (TJ100.setTop (mkF m 46 #[.val (.ref a1), .val (.ref a1), .val (.int (3 : Int32)), .val (.int (1 : Int32)), .val (.int u1), .val (.int s0_100)] [(.int (13 : Int32)), (.int u1)]))
              refine gR (c := u1 = (13 : Int32)) (fun hc100046 => ?_) (fun hc100046 => ?_)
              · refine go (fun t k => XS.icmpYes XJ100.here hx rfl (pc0 := 46) (pc' := 95) rfl (hb hby d2_46) rfl (teq hc100046).1 (by decide) (by decide) k) ?_
                show Gl _ _ _ _ _ _ _ _ (TJ100.setTop (mkF m 95 #[.val (.ref a1), .val (.ref a1), .val (.int (3 : Int32)), .val (.int (1 : Int32)), .val (.int u1), .val (.int s0_100)] []))
                exact J100095  TJ100 _ XJ100 eJ100 NJ100
              · refine go (fun t k => XS.icmpNo XJ100.here hx rfl (hb hby d2_46) rfl (feq hc100046).1 k) ?_
                show Gl _ _ _ _ _ _ _ _ (TJ100.setTop (mkF m 49 #[.val (.ref a1), .val (.ref a1), .val (.int (3 : Int32)), .val (.int (1 : Int32)), .val (.int u1), .val (.int s0_100)] []))
                refine go (fun t k => XS.iload XJ100.here hx rfl (hb hby d2_49) rfl  k) ?_
                show Gl _ _ _ _ _ _ _ _ (TJ100.setTop (mkF m 51 #[.val (.ref a1), .val (.ref a1), .val (.int (3 : Int32)), .val (.int (1 : Int32)), .val (.int u1), .val (.int s0_100)] [(.int u1)]))
                refine go (fun t k => XS.bipush XJ100.here hx rfl (hb hby d2_51) k) ?_
                show Gl _ _ _ _ _ _ _ _ (TJ100.setTop (mkF m 53 #[.val (.ref a1), .val (.ref a1), .val (.int (3 : Int32)), .val (.int (1 : Int32)), .val (.int u1), .val (.int s0_100)] [(.int (10 : Int32)), (.int u1)]))
                refine gR (c := u1 = (10 : Int32)) (fun hc100053 => ?_) (fun hc100053 => ?_)
                · refine go (fun t k => XS.icmpYes XJ100.here hx rfl (pc0 := 53) (pc' := 95) rfl (hb hby d2_53) rfl (teq hc100053).1 (by decide) (by decide) k) ?_
                  show Gl _ _ _ _ _ _ _ _ (TJ100.setTop (mkF m 95 #[.val (.ref a1), .val (.ref a1), .val (.int (3 : Int32)), .val (.int (1 : Int32)), .val (.int u1), .val (.int s0_100)] []))
                  exact J100095  TJ100 _ XJ100 eJ100 NJ100
                · refine go (fun t k => XS.icmpNo XJ100.here hx rfl (hb hby d2_53) rfl (feq hc100053).1 k) ?_
                  show Gl _ _ _ _ _ _ _ _ (TJ100.setTop (mkF m 56 #[.val (.ref a1), .val (.ref a1), .val (.int (3 : Int32)), .val (.int (1 : Int32)), .val (.int u1), .val (.int s0_100)] []))
                  refine go (fun t k => XS.iload XJ100.here hx rfl (hb hby d2_56) rfl  k) ?_
                  show Gl _ _ _ _ _ _ _ _ (TJ100.setTop (mkF m 58 #[.val (.ref a1), .val (.ref a1), .val (.int (3 : Int32)), .val (.int (1 : Int32)), .val (.int u1), .val (.int s0_100)] [(.int u1)]))
                  refine gR (c := u1 = (0 : Int32)) (fun hc100058 => ?_) (fun hc100058 => ?_)
                  · refine go (fun t k => XS.ifYes XJ100.here hx rfl (pc0 := 58) (pc' := 95) rfl (hb hby d2_58) rfl ((if0 _ _).trans (teq hc100058).1) (by decide) (by decide) k) ?_
                    show Gl _ _ _ _ _ _ _ _ (TJ100.setTop (mkF m 95 #[.val (.ref a1), .val (.ref a1), .val (.int (3 : Int32)), .val (.int (1 : Int32)), .val (.int u1), .val (.int s0_100)] []))
                    exact J100095  TJ100 _ XJ100 eJ100 NJ100
                  · refine go (fun t k => XS.ifNo XJ100.here hx rfl (hb hby d2_58) rfl ((if0 _ _).trans (feq hc100058).1) k) ?_
                    show Gl _ _ _ _ _ _ _ _ (TJ100.setTop (mkF m 61 #[.val (.ref a1), .val (.ref a1), .val (.int (3 : Int32)), .val (.int (1 : Int32)), .val (.int u1), .val (.int s0_100)] []))
                    refine go (fun t k => XS.iload XJ100.here hx rfl (hb hby d2_61) rfl  k) ?_
                    show Gl _ _ _ _ _ _ _ _ (TJ100.setTop (mkF m 63 #[.val (.ref a1), .val (.ref a1), .val (.int (3 : Int32)), .val (.int (1 : Int32)), .val (.int u1), .val (.int s0_100)] [(.int u1)]))
                    refine go (fun t k => XS.bipush XJ100.here hx rfl (hb hby d2_63) k) ?_
                    show Gl _ _ _ _ _ _ _ _ (TJ100.setTop (mkF m 65 #[.val (.ref a1), .val (.ref a1), .val (.int (3 : Int32)), .val (.int (1 : Int32)), .val (.int u1), .val (.int s0_100)] [(.int (-17 : Int32)), (.int u1)]))
                    refine gR (c := u1 = (-17 : Int32)) (fun hc100065 => ?_) (fun hc100065 => ?_)
                    · refine go (fun t k => XS.icmpYes XJ100.here hx rfl (pc0 := 65) (pc' := 95) rfl (hb hby d2_65) rfl (teq hc100065).1 (by decide) (by decide) k) ?_
                      show Gl _ _ _ _ _ _ _ _ (TJ100.setTop (mkF m 95 #[.val (.ref a1), .val (.ref a1), .val (.int (3 : Int32)), .val (.int (1 : Int32)), .val (.int u1), .val (.int s0_100)] []))
                      exact J100095  TJ100 _ XJ100 eJ100 NJ100
                    · refine go (fun t k => XS.icmpNo XJ100.here hx rfl (hb hby d2_65) rfl (feq hc100065).1 k) ?_
                      show Gl _ _ _ _ _ _ _ _ (TJ100.setTop (mkF m 68 #[.val (.ref a1), .val (.ref a1), .val (.int (3 : Int32)), .val (.int (1 : Int32)), .val (.int u1), .val (.int s0_100)] []))
                      refine go (fun t k => XS.iload XJ100.here hx rfl (hb hby d2_68) rfl  k) ?_
                      show Gl _ _ _ _ _ _ _ _ (TJ100.setTop (mkF m 70 #[.val (.ref a1), .val (.ref a1), .val (.int (3 : Int32)), .val (.int (1 : Int32)), .val (.int u1), .val (.int s0_100)] [(.int u1)]))
                      refine go (fun t k => XS.bipush XJ100.here hx rfl (hb hby d2_70) k) ?_
                      show Gl _ _ _ _ _ _ _ _ (TJ100.setTop (mkF m 72 #[.val (.ref a1), .val (.ref a1), .val (.int (3 : Int32)), .val (.int (1 : Int32)), .val (.int u1), .val (.int s0_100)] [(.int (-69 : Int32)), (.int u1)]))
                      refine gR (c := u1 = (-69 : Int32)) (fun hc100072 => ?_) (fun hc100072 => ?_)
                      · refine go (fun t k => XS.icmpYes XJ100.here hx rfl (pc0 := 72) (pc' := 95) rfl (hb hby d2_72) rfl (teq hc100072).1 (by decide) (by decide) k) ?_
                        show Gl _ _ _ _ _ _ _ _ (TJ100.setTop (mkF m 95 #[.val (.ref a1), .val (.ref a1), .val (.int (3 : Int32)), .val (.int (1 : Int32)), .val (.int u1), .val (.int s0_100)] []))
                        exact J100095  TJ100 _ XJ100 eJ100 NJ100
                      · refine go (fun t k => XS.icmpNo XJ100.here hx rfl (hb hby d2_72) rfl (feq hc100072).1 k) ?_
                        show Gl _ _ _ _ _ _ _ _ (TJ100.setTop (mkF m 75 #[.val (.ref a1), .val (.ref a1), .val (.int (3 : Int32)), .val (.int (1 : Int32)), .val (.int u1), .val (.int s0_100)] []))
                        refine go (fun t k => XS.iload XJ100.here hx rfl (hb hby d2_75) rfl  k) ?_
                        show Gl _ _ _ _ _ _ _ _ (TJ100.setTop (mkF m 77 #[.val (.ref a1), .val (.ref a1), .val (.int (3 : Int32)), .val (.int (1 : Int32)), .val (.int u1), .val (.int s0_100)] [(.int u1)]))
                        refine go (fun t k => XS.bipush XJ100.here hx rfl (hb hby d2_77) k) ?_
                        show Gl _ _ _ _ _ _ _ _ (TJ100.setTop (mkF m 79 #[.val (.ref a1), .val (.ref a1), .val (.int (3 : Int32)), .val (.int (1 : Int32)), .val (.int u1), .val (.int s0_100)] [(.int (-65 : Int32)), (.int u1)]))
                        refine gR (c := u1 = (-65 : Int32)) (fun hc100079 => ?_) (fun hc100079 => ?_)
                        · refine go (fun t k => XS.icmpYes XJ100.here hx rfl (pc0 := 79) (pc' := 95) rfl (hb hby d2_79) rfl (teq hc100079).1 (by decide) (by decide) k) ?_
                          show Gl _ _ _ _ _ _ _ _ (TJ100.setTop (mkF m 95 #[.val (.ref a1), .val (.ref a1), .val (.int (3 : Int32)), .val (.int (1 : Int32)), .val (.int u1), .val (.int s0_100)] []))
                          exact J100095  TJ100 _ XJ100 eJ100 NJ100
                        · refine go (fun t k => XS.icmpNo XJ100.here hx rfl (hb hby d2_79) rfl (feq hc100079).1 k) ?_
                          show Gl _ _ _ _ _ _ _ _ (TJ100.setTop (mkF m 82 #[.val (.ref a1), .val (.ref a1), .val (.int (3 : Int32)), .val (.int (1 : Int32)), .val (.int u1), .val (.int s0_100)] []))
                          refine go (fun t k => XS.iload XJ100.here hx rfl (hb hby d2_82) rfl  k) ?_
                          show Gl _ _ _ _ _ _ _ _ (TJ100.setTop (mkF m 84 #[.val (.ref a1), .val (.ref a1), .val (.int (3 : Int32)), .val (.int (1 : Int32)), .val (.int u1), .val (.int s0_100)] [(.int u1)]))
                          refine go (fun t k => XS.bipush XJ100.here hx rfl (hb hby d2_84) k) ?_
                          show Gl _ _ _ _ _ _ _ _ (TJ100.setTop (mkF m 86 #[.val (.ref a1), .val (.ref a1), .val (.int (3 : Int32)), .val (.int (1 : Int32)), .val (.int u1), .val (.int s0_100)] [(.int (-2 : Int32)), (.int u1)]))
                          refine gR (c := u1 = (-2 : Int32)) (fun hc100086 => ?_) (fun hc100086 => ?_)
                          · refine go (fun t k => XS.icmpYes XJ100.here hx rfl (pc0 := 86) (pc' := 95) rfl (hb hby d2_86) rfl (teq hc100086).1 (by decide) (by decide) k) ?_
                            show Gl _ _ _ _ _ _ _ _ (TJ100.setTop (mkF m 95 #[.val (.ref a1), .val (.ref a1), .val (.int (3 : Int32)), .val (.int (1 : Int32)), .val (.int u1), .val (.int s0_100)] []))
                            exact J100095  TJ100 _ XJ100 eJ100 NJ100
                          · refine go (fun t k => XS.icmpNo XJ100.here hx rfl (hb hby d2_86) rfl (feq hc100086).1 k) ?_
                            show Gl _ _ _ _ _ _ _ _ (TJ100.setTop (mkF m 89 #[.val (.ref a1), .val (.ref a1), .val (.int (3 : Int32)), .val (.int (1 : Int32)), .val (.int u1), .val (.int s0_100)] []))
                            refine go (fun t k => XS.iload XJ100.here hx rfl (hb hby d2_89) rfl  k) ?_
                            show Gl _ _ _ _ _ _ _ _ (TJ100.setTop (mkF m 91 #[.val (.ref a1), .val (.ref a1), .val (.int (3 : Int32)), .val (.int (1 : Int32)), .val (.int u1), .val (.int s0_100)] [(.int u1)]))
                            refine go (fun t k => XS.iconst XJ100.here hx rfl (hb hby d2_91) k) ?_
                            show Gl _ _ _ _ _ _ _ _ (TJ100.setTop (mkF m 92 #[.val (.ref a1), .val (.ref a1), .val (.int (3 : Int32)), .val (.int (1 : Int32)), .val (.int u1), .val (.int s0_100)] [(.int (-1 : Int32)), (.int u1)]))
                            refine gR (c := u1 = (-1 : Int32)) (fun hc100092 => ?_) (fun hc100092 => ?_)
                            · refine go (fun t k => XS.icmpNo XJ100.here hx rfl (hb hby d2_92) rfl (teq hc100092).2 k) ?_
                              show Gl _ _ _ _ _ _ _ _ (TJ100.setTop (mkF m 95 #[.val (.ref a1), .val (.ref a1), .val (.int (3 : Int32)), .val (.int (1 : Int32)), .val (.int u1), .val (.int s0_100)] []))
                              exact J100095  TJ100 _ XJ100 eJ100 NJ100
                            · refine go (fun t k => XS.icmpYes XJ100.here hx rfl (pc0 := 92) (pc' := 99) rfl (hb hby d2_92) rfl (feq hc100092).2 (by decide) (by decide) k) ?_
                              show Gl _ _ _ _ _ _ _ _ (TJ100.setTop (mkF m 99 #[.val (.ref a1), .val (.ref a1), .val (.int (3 : Int32)), .val (.int (1 : Int32)), .val (.int u1), .val (.int s0_100)] []))
                              refine go (fun t k => XS.iconst XJ100.here hx rfl (hb hby d2_99) k) ?_
                              show Gl _ _ _ _ _ _ _ _ (TJ100.setTop (mkF m 100 #[.val (.ref a1), .val (.ref a1), .val (.int (3 : Int32)), .val (.int (1 : Int32)), .val (.int u1), .val (.int s0_100)] [(.int (0 : Int32))]))
                              exact J100100 (0 : Int32) TJ100 _ XJ100 eJ100 NJ100
    have J95 : ∀  (TJ95 : State) (lJ95 : List Loc) (XJ95 : Stand p l e ({ frames := 0, cells := 0, slots := 0, locals := 0 } : Room) s m #[(.ref a1)] below meth c TJ95 lJ95 0 0) (eJ95 : TJ95.heap = h0) (NJ95 : Fr n0 lJ95), Gl p e below s n0 ({ frames := 0, cells := 0, slots := 0, locals := 0 } : Room).cells ({ frames := 0, cells := 0, slots := 0, locals := 0 } : Room).slots (Kv (some (.ref (b2t3_95 w_XACML w_COMPACT w_BLANK u1 u2))) (fun h => h = h0)) (TJ95.setTop (mkF m 95 #[.val (.ref a1), .val (.ref a1), .val (.int (3 : Int32)), .val (.int (0 : Int32)), .val (.int u0), .unset] [])) := by
      intro  TJ95 lJ95 XJ95 eJ95 NJ95
      show Gl _ _ _ _ _ _ _ (Kv (some (.ref (b2t3_100 w_XACML w_COMPACT w_BLANK u1 u2 (1 : Int32)))) _) _
      refine go (fun t k => XS.iconst XJ95.here hx rfl (hb hby d2_95) k) ?_
      show Gl _ _ _ _ _ _ _ _ (TJ95.setTop (mkF m 96 #[.val (.ref a1), .val (.ref a1), .val (.int (3 : Int32)), .val (.int (0 : Int32)), .val (.int u0), .unset] [(.int (1 : Int32))]))
      refine go (fun t k => XS.goto XJ95.here hx rfl (pc0 := 96) (pc' := 100) rfl (hb hby d2_96) (by decide) (by decide) k) ?_
      show Gl _ _ _ _ _ _ _ _ (TJ95.setTop (mkF m 100 #[.val (.ref a1), .val (.ref a1), .val (.int (3 : Int32)), .val (.int (0 : Int32)), .val (.int u0), .unset] [(.int (1 : Int32))]))
      exact J100 (1 : Int32) TJ95 _ XJ95 eJ95 NJ95
    refine gR (c := u0 = (32 : Int32)) (fun hc32 => ?_) (fun hc32 => ?_)
    · refine go (fun t k => XS.icmpYes X0.here hx rfl (pc0 := 32) (pc' := 95) rfl (hb hby d2_32) rfl (teq hc32).1 (by decide) (by decide) k) ?_
      show Gl _ _ _ _ _ _ _ _ (s₁.setTop (mkF m 95 #[.val (.ref a1), .val (.ref a1), .val (.int (3 : Int32)), .val (.int (0 : Int32)), .val (.int u0), .unset] []))
      exact J95  s₁ _ X0 e0 N0
    · refine go (fun t k => XS.icmpNo X0.here hx rfl (hb hby d2_32) rfl (feq hc32).1 k) ?_
      show Gl _ _ _ _ _ _ _ _ (s₁.setTop (mkF m 35 #[.val (.ref a1), .val (.ref a1), .val (.int (3 : Int32)), .val (.int (0 : Int32)), .val (.int u0), .unset] []))
      refine go (fun t k => XS.iload X0.here hx rfl (hb hby d2_35) rfl  k) ?_
      show Gl _ _ _ _ _ _ _ _ (s₁.setTop (mkF m 37 #[.val (.ref a1), .val (.ref a1), .val (.int (3 : Int32)), .val (.int (0 : Int32)), .val (.int u0), .unset] [(.int u0)]))
      refine go (fun t k => XS.bipush X0.here hx rfl (hb hby d2_37) k) ?_
      show Gl _ _ _ _ _ _ _ _ (s₁.setTop (mkF m 39 #[.val (.ref a1), .val (.ref a1), .val (.int (3 : Int32)), .val (.int (0 : Int32)), .val (.int u0), .unset] [(.int (9 : Int32)), (.int u0)]))
      refine gR (c := u0 = (9 : Int32)) (fun hc39 => ?_) (fun hc39 => ?_)
      · refine go (fun t k => XS.icmpYes X0.here hx rfl (pc0 := 39) (pc' := 95) rfl (hb hby d2_39) rfl (teq hc39).1 (by decide) (by decide) k) ?_
        show Gl _ _ _ _ _ _ _ _ (s₁.setTop (mkF m 95 #[.val (.ref a1), .val (.ref a1), .val (.int (3 : Int32)), .val (.int (0 : Int32)), .val (.int u0), .unset] []))
        exact J95  s₁ _ X0 e0 N0
      · refine go (fun t k => XS.icmpNo X0.here hx rfl (hb hby d2_39) rfl (feq hc39).1 k) ?_
        show Gl _ _ _ _ _ _ _ _ (s₁.setTop (mkF m 42 #[.val (.ref a1), .val (.ref a1), .val (.int (3 : Int32)), .val (.int (0 : Int32)), .val (.int u0), .unset] []))
        refine go (fun t k => XS.iload X0.here hx rfl (hb hby d2_42) rfl  k) ?_
        show Gl _ _ _ _ _ _ _ _ (s₁.setTop (mkF m 44 #[.val (.ref a1), .val (.ref a1), .val (.int (3 : Int32)), .val (.int (0 : Int32)), .val (.int u0), .unset] [(.int u0)]))
        refine go (fun t k => XS.bipush X0.here hx rfl (hb hby d2_44) k) ?_
        show Gl _ _ _ _ _ _ _ _ (s₁.setTop (mkF m 46 #[.val (.ref a1), .val (.ref a1), .val (.int (3 : Int32)), .val (.int (0 : Int32)), .val (.int u0), .unset] [(.int (13 : Int32)), (.int u0)]))
        refine gR (c := u0 = (13 : Int32)) (fun hc46 => ?_) (fun hc46 => ?_)
        · refine go (fun t k => XS.icmpYes X0.here hx rfl (pc0 := 46) (pc' := 95) rfl (hb hby d2_46) rfl (teq hc46).1 (by decide) (by decide) k) ?_
          show Gl _ _ _ _ _ _ _ _ (s₁.setTop (mkF m 95 #[.val (.ref a1), .val (.ref a1), .val (.int (3 : Int32)), .val (.int (0 : Int32)), .val (.int u0), .unset] []))
          exact J95  s₁ _ X0 e0 N0
        · refine go (fun t k => XS.icmpNo X0.here hx rfl (hb hby d2_46) rfl (feq hc46).1 k) ?_
          show Gl _ _ _ _ _ _ _ _ (s₁.setTop (mkF m 49 #[.val (.ref a1), .val (.ref a1), .val (.int (3 : Int32)), .val (.int (0 : Int32)), .val (.int u0), .unset] []))
          refine go (fun t k => XS.iload X0.here hx rfl (hb hby d2_49) rfl  k) ?_
          show Gl _ _ _ _ _ _ _ _ (s₁.setTop (mkF m 51 #[.val (.ref a1), .val (.ref a1), .val (.int (3 : Int32)), .val (.int (0 : Int32)), .val (.int u0), .unset] [(.int u0)]))
          refine go (fun t k => XS.bipush X0.here hx rfl (hb hby d2_51) k) ?_
          show Gl _ _ _ _ _ _ _ _ (s₁.setTop (mkF m 53 #[.val (.ref a1), .val (.ref a1), .val (.int (3 : Int32)), .val (.int (0 : Int32)), .val (.int u0), .unset] [(.int (10 : Int32)), (.int u0)]))
          refine gR (c := u0 = (10 : Int32)) (fun hc53 => ?_) (fun hc53 => ?_)
          · refine go (fun t k => XS.icmpYes X0.here hx rfl (pc0 := 53) (pc' := 95) rfl (hb hby d2_53) rfl (teq hc53).1 (by decide) (by decide) k) ?_
            show Gl _ _ _ _ _ _ _ _ (s₁.setTop (mkF m 95 #[.val (.ref a1), .val (.ref a1), .val (.int (3 : Int32)), .val (.int (0 : Int32)), .val (.int u0), .unset] []))
            exact J95  s₁ _ X0 e0 N0
          · refine go (fun t k => XS.icmpNo X0.here hx rfl (hb hby d2_53) rfl (feq hc53).1 k) ?_
            show Gl _ _ _ _ _ _ _ _ (s₁.setTop (mkF m 56 #[.val (.ref a1), .val (.ref a1), .val (.int (3 : Int32)), .val (.int (0 : Int32)), .val (.int u0), .unset] []))
            refine go (fun t k => XS.iload X0.here hx rfl (hb hby d2_56) rfl  k) ?_
            show Gl _ _ _ _ _ _ _ _ (s₁.setTop (mkF m 58 #[.val (.ref a1), .val (.ref a1), .val (.int (3 : Int32)), .val (.int (0 : Int32)), .val (.int u0), .unset] [(.int u0)]))
            refine gR (c := u0 = (0 : Int32)) (fun hc58 => ?_) (fun hc58 => ?_)
            · refine go (fun t k => XS.ifYes X0.here hx rfl (pc0 := 58) (pc' := 95) rfl (hb hby d2_58) rfl ((if0 _ _).trans (teq hc58).1) (by decide) (by decide) k) ?_
              show Gl _ _ _ _ _ _ _ _ (s₁.setTop (mkF m 95 #[.val (.ref a1), .val (.ref a1), .val (.int (3 : Int32)), .val (.int (0 : Int32)), .val (.int u0), .unset] []))
              exact J95  s₁ _ X0 e0 N0
            · refine go (fun t k => XS.ifNo X0.here hx rfl (hb hby d2_58) rfl ((if0 _ _).trans (feq hc58).1) k) ?_
              show Gl _ _ _ _ _ _ _ _ (s₁.setTop (mkF m 61 #[.val (.ref a1), .val (.ref a1), .val (.int (3 : Int32)), .val (.int (0 : Int32)), .val (.int u0), .unset] []))
              refine go (fun t k => XS.iload X0.here hx rfl (hb hby d2_61) rfl  k) ?_
              show Gl _ _ _ _ _ _ _ _ (s₁.setTop (mkF m 63 #[.val (.ref a1), .val (.ref a1), .val (.int (3 : Int32)), .val (.int (0 : Int32)), .val (.int u0), .unset] [(.int u0)]))
              refine go (fun t k => XS.bipush X0.here hx rfl (hb hby d2_63) k) ?_
              show Gl _ _ _ _ _ _ _ _ (s₁.setTop (mkF m 65 #[.val (.ref a1), .val (.ref a1), .val (.int (3 : Int32)), .val (.int (0 : Int32)), .val (.int u0), .unset] [(.int (-17 : Int32)), (.int u0)]))
              refine gR (c := u0 = (-17 : Int32)) (fun hc65 => ?_) (fun hc65 => ?_)
              · refine go (fun t k => XS.icmpYes X0.here hx rfl (pc0 := 65) (pc' := 95) rfl (hb hby d2_65) rfl (teq hc65).1 (by decide) (by decide) k) ?_
                show Gl _ _ _ _ _ _ _ _ (s₁.setTop (mkF m 95 #[.val (.ref a1), .val (.ref a1), .val (.int (3 : Int32)), .val (.int (0 : Int32)), .val (.int u0), .unset] []))
                exact J95  s₁ _ X0 e0 N0
              · refine go (fun t k => XS.icmpNo X0.here hx rfl (hb hby d2_65) rfl (feq hc65).1 k) ?_
                show Gl _ _ _ _ _ _ _ _ (s₁.setTop (mkF m 68 #[.val (.ref a1), .val (.ref a1), .val (.int (3 : Int32)), .val (.int (0 : Int32)), .val (.int u0), .unset] []))
                refine go (fun t k => XS.iload X0.here hx rfl (hb hby d2_68) rfl  k) ?_
                show Gl _ _ _ _ _ _ _ _ (s₁.setTop (mkF m 70 #[.val (.ref a1), .val (.ref a1), .val (.int (3 : Int32)), .val (.int (0 : Int32)), .val (.int u0), .unset] [(.int u0)]))
                refine go (fun t k => XS.bipush X0.here hx rfl (hb hby d2_70) k) ?_
                show Gl _ _ _ _ _ _ _ _ (s₁.setTop (mkF m 72 #[.val (.ref a1), .val (.ref a1), .val (.int (3 : Int32)), .val (.int (0 : Int32)), .val (.int u0), .unset] [(.int (-69 : Int32)), (.int u0)]))
                refine gR (c := u0 = (-69 : Int32)) (fun hc72 => ?_) (fun hc72 => ?_)
                · refine go (fun t k => XS.icmpYes X0.here hx rfl (pc0 := 72) (pc' := 95) rfl (hb hby d2_72) rfl (teq hc72).1 (by decide) (by decide) k) ?_
                  show Gl _ _ _ _ _ _ _ _ (s₁.setTop (mkF m 95 #[.val (.ref a1), .val (.ref a1), .val (.int (3 : Int32)), .val (.int (0 : Int32)), .val (.int u0), .unset] []))
                  exact J95  s₁ _ X0 e0 N0
                · refine go (fun t k => XS.icmpNo X0.here hx rfl (hb hby d2_72) rfl (feq hc72).1 k) ?_
                  show Gl _ _ _ _ _ _ _ _ (s₁.setTop (mkF m 75 #[.val (.ref a1), .val (.ref a1), .val (.int (3 : Int32)), .val (.int (0 : Int32)), .val (.int u0), .unset] []))
                  refine go (fun t k => XS.iload X0.here hx rfl (hb hby d2_75) rfl  k) ?_
                  show Gl _ _ _ _ _ _ _ _ (s₁.setTop (mkF m 77 #[.val (.ref a1), .val (.ref a1), .val (.int (3 : Int32)), .val (.int (0 : Int32)), .val (.int u0), .unset] [(.int u0)]))
                  refine go (fun t k => XS.bipush X0.here hx rfl (hb hby d2_77) k) ?_
                  show Gl _ _ _ _ _ _ _ _ (s₁.setTop (mkF m 79 #[.val (.ref a1), .val (.ref a1), .val (.int (3 : Int32)), .val (.int (0 : Int32)), .val (.int u0), .unset] [(.int (-65 : Int32)), (.int u0)]))
                  refine gR (c := u0 = (-65 : Int32)) (fun hc79 => ?_) (fun hc79 => ?_)
                  · refine go (fun t k => XS.icmpYes X0.here hx rfl (pc0 := 79) (pc' := 95) rfl (hb hby d2_79) rfl (teq hc79).1 (by decide) (by decide) k) ?_
                    show Gl _ _ _ _ _ _ _ _ (s₁.setTop (mkF m 95 #[.val (.ref a1), .val (.ref a1), .val (.int (3 : Int32)), .val (.int (0 : Int32)), .val (.int u0), .unset] []))
                    exact J95  s₁ _ X0 e0 N0
                  · refine go (fun t k => XS.icmpNo X0.here hx rfl (hb hby d2_79) rfl (feq hc79).1 k) ?_
                    show Gl _ _ _ _ _ _ _ _ (s₁.setTop (mkF m 82 #[.val (.ref a1), .val (.ref a1), .val (.int (3 : Int32)), .val (.int (0 : Int32)), .val (.int u0), .unset] []))
                    refine go (fun t k => XS.iload X0.here hx rfl (hb hby d2_82) rfl  k) ?_
                    show Gl _ _ _ _ _ _ _ _ (s₁.setTop (mkF m 84 #[.val (.ref a1), .val (.ref a1), .val (.int (3 : Int32)), .val (.int (0 : Int32)), .val (.int u0), .unset] [(.int u0)]))
                    refine go (fun t k => XS.bipush X0.here hx rfl (hb hby d2_84) k) ?_
                    show Gl _ _ _ _ _ _ _ _ (s₁.setTop (mkF m 86 #[.val (.ref a1), .val (.ref a1), .val (.int (3 : Int32)), .val (.int (0 : Int32)), .val (.int u0), .unset] [(.int (-2 : Int32)), (.int u0)]))
                    refine gR (c := u0 = (-2 : Int32)) (fun hc86 => ?_) (fun hc86 => ?_)
                    · refine go (fun t k => XS.icmpYes X0.here hx rfl (pc0 := 86) (pc' := 95) rfl (hb hby d2_86) rfl (teq hc86).1 (by decide) (by decide) k) ?_
                      show Gl _ _ _ _ _ _ _ _ (s₁.setTop (mkF m 95 #[.val (.ref a1), .val (.ref a1), .val (.int (3 : Int32)), .val (.int (0 : Int32)), .val (.int u0), .unset] []))
                      exact J95  s₁ _ X0 e0 N0
                    · refine go (fun t k => XS.icmpNo X0.here hx rfl (hb hby d2_86) rfl (feq hc86).1 k) ?_
                      show Gl _ _ _ _ _ _ _ _ (s₁.setTop (mkF m 89 #[.val (.ref a1), .val (.ref a1), .val (.int (3 : Int32)), .val (.int (0 : Int32)), .val (.int u0), .unset] []))
                      refine go (fun t k => XS.iload X0.here hx rfl (hb hby d2_89) rfl  k) ?_
                      show Gl _ _ _ _ _ _ _ _ (s₁.setTop (mkF m 91 #[.val (.ref a1), .val (.ref a1), .val (.int (3 : Int32)), .val (.int (0 : Int32)), .val (.int u0), .unset] [(.int u0)]))
                      refine go (fun t k => XS.iconst X0.here hx rfl (hb hby d2_91) k) ?_
                      show Gl _ _ _ _ _ _ _ _ (s₁.setTop (mkF m 92 #[.val (.ref a1), .val (.ref a1), .val (.int (3 : Int32)), .val (.int (0 : Int32)), .val (.int u0), .unset] [(.int (-1 : Int32)), (.int u0)]))
                      refine gR (c := u0 = (-1 : Int32)) (fun hc92 => ?_) (fun hc92 => ?_)
                      · refine go (fun t k => XS.icmpNo X0.here hx rfl (hb hby d2_92) rfl (teq hc92).2 k) ?_
                        show Gl _ _ _ _ _ _ _ _ (s₁.setTop (mkF m 95 #[.val (.ref a1), .val (.ref a1), .val (.int (3 : Int32)), .val (.int (0 : Int32)), .val (.int u0), .unset] []))
                        exact J95  s₁ _ X0 e0 N0
                      · refine go (fun t k => XS.icmpYes X0.here hx rfl (pc0 := 92) (pc' := 99) rfl (hb hby d2_92) rfl (feq hc92).2 (by decide) (by decide) k) ?_
                        show Gl _ _ _ _ _ _ _ _ (s₁.setTop (mkF m 99 #[.val (.ref a1), .val (.ref a1), .val (.int (3 : Int32)), .val (.int (0 : Int32)), .val (.int u0), .unset] []))
                        refine go (fun t k => XS.iconst X0.here hx rfl (hb hby d2_99) k) ?_
                        show Gl _ _ _ _ _ _ _ _ (s₁.setTop (mkF m 100 #[.val (.ref a1), .val (.ref a1), .val (.int (3 : Int32)), .val (.int (0 : Int32)), .val (.int u0), .unset] [(.int (0 : Int32))]))
                        exact J100 (0 : Int32) s₁ _ X0 e0 N0
theorem ef_2t4 (m : MethodId) (a1 : Addr) : entryFrame m #[(.ref a1)] 6 = mkF m 0 #[.val (.ref a1), .unset, .unset, .unset, .unset, .unset] [] := by first | (simp [entryFrame, mkF, argsToLocals, Value.category]; done) | rfl
def b2t4_100t3 (w_COMPACT : Addr) (w_BLANK : Addr) (s0_300100 : Int32) : Addr := (if s0_300100 = (0 : Int32) then w_COMPACT else w_BLANK)
def b2t4_95t3 (w_COMPACT : Addr) (w_BLANK : Addr) : Addr := (b2t4_100t3 w_COMPACT w_BLANK (1 : Int32))
def b2t4_100t2 (w_XACML : Addr) (w_COMPACT : Addr) (w_BLANK : Addr) (u3 : Int32) (s0_200100 : Int32) : Addr := (if s0_200100 = (0 : Int32) then w_COMPACT else (if u3 = (60 : Int32) then w_XACML else (if u3 = (32 : Int32) then (b2t4_95t3 w_COMPACT w_BLANK) else (if u3 = (9 : Int32) then (b2t4_95t3 w_COMPACT w_BLANK) else (if u3 = (13 : Int32) then (b2t4_95t3 w_COMPACT w_BLANK) else (if u3 = (10 : Int32) then (b2t4_95t3 w_COMPACT w_BLANK) else (if u3 = (0 : Int32) then (b2t4_95t3 w_COMPACT w_BLANK) else (if u3 = (-17 : Int32) then (b2t4_95t3 w_COMPACT w_BLANK) else (if u3 = (-69 : Int32) then (b2t4_95t3 w_COMPACT w_BLANK) else (if u3 = (-65 : Int32) then (b2t4_95t3 w_COMPACT w_BLANK) else (if u3 = (-2 : Int32) then (b2t4_95t3 w_COMPACT w_BLANK) else (if u3 = (-1 : Int32) then (b2t4_95t3 w_COMPACT w_BLANK) else (b2t4_100t3 w_COMPACT w_BLANK (0 : Int32))))))))))))))
def b2t4_95t2 (w_XACML : Addr) (w_COMPACT : Addr) (w_BLANK : Addr) (u3 : Int32) : Addr := (b2t4_100t2 w_XACML w_COMPACT w_BLANK u3 (1 : Int32))
def b2t4_100t1 (w_XACML : Addr) (w_COMPACT : Addr) (w_BLANK : Addr) (u2 : Int32) (u3 : Int32) (s0_100100 : Int32) : Addr := (if s0_100100 = (0 : Int32) then w_COMPACT else (if u2 = (60 : Int32) then w_XACML else (if u2 = (32 : Int32) then (b2t4_95t2 w_XACML w_COMPACT w_BLANK u3) else (if u2 = (9 : Int32) then (b2t4_95t2 w_XACML w_COMPACT w_BLANK u3) else (if u2 = (13 : Int32) then (b2t4_95t2 w_XACML w_COMPACT w_BLANK u3) else (if u2 = (10 : Int32) then (b2t4_95t2 w_XACML w_COMPACT w_BLANK u3) else (if u2 = (0 : Int32) then (b2t4_95t2 w_XACML w_COMPACT w_BLANK u3) else (if u2 = (-17 : Int32) then (b2t4_95t2 w_XACML w_COMPACT w_BLANK u3) else (if u2 = (-69 : Int32) then (b2t4_95t2 w_XACML w_COMPACT w_BLANK u3) else (if u2 = (-65 : Int32) then (b2t4_95t2 w_XACML w_COMPACT w_BLANK u3) else (if u2 = (-2 : Int32) then (b2t4_95t2 w_XACML w_COMPACT w_BLANK u3) else (if u2 = (-1 : Int32) then (b2t4_95t2 w_XACML w_COMPACT w_BLANK u3) else (b2t4_100t2 w_XACML w_COMPACT w_BLANK u3 (0 : Int32))))))))))))))
def b2t4_95t1 (w_XACML : Addr) (w_COMPACT : Addr) (w_BLANK : Addr) (u2 : Int32) (u3 : Int32) : Addr := (b2t4_100t1 w_XACML w_COMPACT w_BLANK u2 u3 (1 : Int32))
def b2t4_100 (w_XACML : Addr) (w_COMPACT : Addr) (w_BLANK : Addr) (u1 : Int32) (u2 : Int32) (u3 : Int32) (s0_100 : Int32) : Addr := (if s0_100 = (0 : Int32) then w_COMPACT else (if u1 = (60 : Int32) then w_XACML else (if u1 = (32 : Int32) then (b2t4_95t1 w_XACML w_COMPACT w_BLANK u2 u3) else (if u1 = (9 : Int32) then (b2t4_95t1 w_XACML w_COMPACT w_BLANK u2 u3) else (if u1 = (13 : Int32) then (b2t4_95t1 w_XACML w_COMPACT w_BLANK u2 u3) else (if u1 = (10 : Int32) then (b2t4_95t1 w_XACML w_COMPACT w_BLANK u2 u3) else (if u1 = (0 : Int32) then (b2t4_95t1 w_XACML w_COMPACT w_BLANK u2 u3) else (if u1 = (-17 : Int32) then (b2t4_95t1 w_XACML w_COMPACT w_BLANK u2 u3) else (if u1 = (-69 : Int32) then (b2t4_95t1 w_XACML w_COMPACT w_BLANK u2 u3) else (if u1 = (-65 : Int32) then (b2t4_95t1 w_XACML w_COMPACT w_BLANK u2 u3) else (if u1 = (-2 : Int32) then (b2t4_95t1 w_XACML w_COMPACT w_BLANK u2 u3) else (if u1 = (-1 : Int32) then (b2t4_95t1 w_XACML w_COMPACT w_BLANK u2 u3) else (b2t4_100t1 w_XACML w_COMPACT w_BLANK u2 u3 (0 : Int32))))))))))))))
def b2t4_95 (w_XACML : Addr) (w_COMPACT : Addr) (w_BLANK : Addr) (u1 : Int32) (u2 : Int32) (u3 : Int32) : Addr := (b2t4_100 w_XACML w_COMPACT w_BLANK u1 u2 u3 (1 : Int32))
def b2t4_0 (w_XACML : Addr) (w_COMPACT : Addr) (w_BLANK : Addr) (u0 : Int32) (u1 : Int32) (u2 : Int32) (u3 : Int32) : Addr := (if u0 = (60 : Int32) then w_XACML else (if u0 = (32 : Int32) then (b2t4_95 w_XACML w_COMPACT w_BLANK u1 u2 u3) else (if u0 = (9 : Int32) then (b2t4_95 w_XACML w_COMPACT w_BLANK u1 u2 u3) else (if u0 = (13 : Int32) then (b2t4_95 w_XACML w_COMPACT w_BLANK u1 u2 u3) else (if u0 = (10 : Int32) then (b2t4_95 w_XACML w_COMPACT w_BLANK u1 u2 u3) else (if u0 = (0 : Int32) then (b2t4_95 w_XACML w_COMPACT w_BLANK u1 u2 u3) else (if u0 = (-17 : Int32) then (b2t4_95 w_XACML w_COMPACT w_BLANK u1 u2 u3) else (if u0 = (-69 : Int32) then (b2t4_95 w_XACML w_COMPACT w_BLANK u1 u2 u3) else (if u0 = (-65 : Int32) then (b2t4_95 w_XACML w_COMPACT w_BLANK u1 u2 u3) else (if u0 = (-2 : Int32) then (b2t4_95 w_XACML w_COMPACT w_BLANK u1 u2 u3) else (if u0 = (-1 : Int32) then (b2t4_95 w_XACML w_COMPACT w_BLANK u1 u2 u3) else (b2t4_100 w_XACML w_COMPACT w_BLANK u1 u2 u3 (0 : Int32)))))))))))))
set_option maxRecDepth 65536 in
set_option maxHeartbeats 40000000 in
theorem rm2t4 (l : Launch) (Z : State) (a0 : Array Value) (hw : ∀ d ∈ tables_1, d.before a0 Z = true) (ws : List Jvm.Cond) (a1 : Addr) (w_XACML : Addr) (w_COMPACT : Addr) (w_BLANK : Addr) (ka : ClassId) (u0 : Int32) (u1 : Int32) (u2 : Int32) (u3 : Int32) (h0 : Heap) (n0 : Nat) (Z0 : n0 ≤ h0.size) (S_XACML : Sta Z h0 "com/example/policylint/policylint/PolicySyntax" "XACML" "Lcom/example/policylint/policylint/PolicySyntax;" (.ref w_XACML)) (S_COMPACT : Sta Z h0 "com/example/policylint/policylint/PolicySyntax" "COMPACT" "Lcom/example/policylint/policylint/PolicySyntax;" (.ref w_COMPACT)) (S_BLANK : Sta Z h0 "com/example/policylint/policylint/PolicySyntax" "BLANK" "Lcom/example/policylint/policylint/PolicySyntax;" (.ref w_BLANK)) (V_a : Arv Z h0 a1 ka .byte (4 : Int32) [(.int u0), (.int u1), (.int u2), (.int u3)] (.int (0 : Int32))) :
    MetFree l (⟨"com/example/policylint/policylint/PolicySyntax", "of", "([B)Lcom/example/policylint/policylint/PolicySyntax;"⟩ : MethodName) (head1 (Jvm.Cond.code (⟨"com/example/policylint/policylint/PolicySyntax", "of", "([B)Lcom/example/policylint/policylint/PolicySyntax;"⟩ : MethodName) prog_7_method_4_code 6 (some (.object "com/example/policylint/policylint/PolicySyntax")) :: ws) ({ frames := 0, cells := 0, slots := 0, locals := 0 } : Room)) (fun a U => a = #[(.ref a1)] ∧ Z.Warmed39 U.vm ∧ U.heap = h0) (fun _ _ _ _ _ => True) (fun _ U o U' => ∃ v L, o = .returned v ∧ QK n0 (Kv (some (.ref (b2t4_0 w_XACML w_COMPACT w_BLANK u0 u1 u2 u3))) (fun h => h = h0)) v U'.heap L ∧ FrameEnd U o U' L ({ frames := 0, cells := 0, slots := 0, locals := 0 } : Room).cells ({ frames := 0, cells := 0, slots := 0, locals := 0 } : Room).slots) := by
  refine MetFree.of_bodySF (plainFor_of_name pn_1) hisR ?_
  intro p e s m args below meth c s₁ Bd hml0 hP hK
  obtain ⟨rfl, hZ, hh⟩ := hP
  have hx := Bd.exec
  have hby := Bd.bytes
  have hml : c.maxLocals = 6 := hml0
  have hown : s.vm.findClass "com/example/policylint/policylint/PolicySyntax" = some m.cls := findClass_of_methodNamed Bd.named
  have hnm := (name_of_methodNamed Bd.named Bd.method).1
  have X0 : Stand p l e ({ frames := 0, cells := 0, slots := 0, locals := 0 } : Room) s m #[(.ref a1)] below meth c s₁ [] 0 0 := Stand.of_body Bd
  have e0 : s₁.heap = h0 := by rw [← hh, Bd.state]; rfl
  have N0 := Fr.nil n0
  refine gl_start (ef_2t4 m a1) ?_
  show Gl p e below s n0 ({ frames := 0, cells := 0, slots := 0, locals := 0 } : Room).cells ({ frames := 0, cells := 0, slots := 0, locals := 0 } : Room).slots (Kv (some (.ref (if u0 = (60 : Int32) then w_XACML else (if u0 = (32 : Int32) then (b2t4_95 w_XACML w_COMPACT w_BLANK u1 u2 u3) else (if u0 = (9 : Int32) then (b2t4_95 w_XACML w_COMPACT w_BLANK u1 u2 u3) else (if u0 = (13 : Int32) then (b2t4_95 w_XACML w_COMPACT w_BLANK u1 u2 u3) else (if u0 = (10 : Int32) then (b2t4_95 w_XACML w_COMPACT w_BLANK u1 u2 u3) else (if u0 = (0 : Int32) then (b2t4_95 w_XACML w_COMPACT w_BLANK u1 u2 u3) else (if u0 = (-17 : Int32) then (b2t4_95 w_XACML w_COMPACT w_BLANK u1 u2 u3) else (if u0 = (-69 : Int32) then (b2t4_95 w_XACML w_COMPACT w_BLANK u1 u2 u3) else (if u0 = (-65 : Int32) then (b2t4_95 w_XACML w_COMPACT w_BLANK u1 u2 u3) else (if u0 = (-2 : Int32) then (b2t4_95 w_XACML w_COMPACT w_BLANK u1 u2 u3) else (if u0 = (-1 : Int32) then (b2t4_95 w_XACML w_COMPACT w_BLANK u1 u2 u3) else (b2t4_100 w_XACML w_COMPACT w_BLANK u1 u2 u3 (0 : Int32))))))))))))))) (fun h => h = h0)) (s₁.setTop (mkF m 0 #[.val (.ref a1), .unset, .unset, .unset, .unset, .unset] []))
  refine go (fun t k => XS.aloadN X0.here hx rfl (hb hby d2_0) rfl rfl k) ?_
  show Gl _ _ _ _ _ _ _ _ (s₁.setTop (mkF m 1 #[.val (.ref a1), .unset, .unset, .unset, .unset, .unset] [(.ref a1)]))
  refine go (fun t k => XS.astoreN X0.here hx rfl (hb hby d2_1) rfl rfl (l' := #[.val (.ref a1), .val (.ref a1), .unset, .unset, .unset, .unset]) rfl k) ?_
  show Gl _ _ _ _ _ _ _ _ (s₁.setTop (mkF m 2 #[.val (.ref a1), .val (.ref a1), .unset, .unset, .unset, .unset] []))
  refine go (fun t k => XS.aloadN X0.here hx rfl (hb hby d2_2) rfl rfl k) ?_
  show Gl _ _ _ _ _ _ _ _ (s₁.setTop (mkF m 3 #[.val (.ref a1), .val (.ref a1), .unset, .unset, .unset, .unset] [(.ref a1)]))
  obtain ⟨cl1, Ar1, vq1, S1, M1, Hh1, G1⟩ := id V_a
  have hl1 : cl1.slots.size.toInt32 = (4 : Int32) := len_of S1 M1
  refine go (fun t k => X0.arraylength hx (by rw [e0]; exact Ar1.1) (State.isArrayOf_alike hZ.alike Ar1.2.1) (g := (mkF m 3 #[.val (.ref a1), .val (.ref a1), .unset, .unset, .unset, .unset] [(.ref a1)])) rfl rfl (hb hby d2_3) _ (by rw [hl1]; exact k)) ?_
  show Gl _ _ _ _ _ _ _ _ (s₁.setTop (mkF m 4 #[.val (.ref a1), .val (.ref a1), .unset, .unset, .unset, .unset] [(.int (4 : Int32))]))
  refine go (fun t k => XS.istoreN X0.here hx rfl (hb hby d2_4) rfl (l' := #[.val (.ref a1), .val (.ref a1), .val (.int (4 : Int32)), .unset, .unset, .unset]) rfl k) ?_
  show Gl _ _ _ _ _ _ _ _ (s₁.setTop (mkF m 5 #[.val (.ref a1), .val (.ref a1), .val (.int (4 : Int32)), .unset, .unset, .unset] []))
  refine go (fun t k => XS.iconst X0.here hx rfl (hb hby d2_5) k) ?_
  show Gl _ _ _ _ _ _ _ _ (s₁.setTop (mkF m 6 #[.val (.ref a1), .val (.ref a1), .val (.int (4 : Int32)), .unset, .unset, .unset] [(.int (0 : Int32))]))
  refine go (fun t k => XS.istoreN X0.here hx rfl (hb hby d2_6) rfl (l' := #[.val (.ref a1), .val (.ref a1), .val (.int (4 : Int32)), .val (.int (0 : Int32)), .unset, .unset]) rfl k) ?_
  show Gl _ _ _ _ _ _ _ _ (s₁.setTop (mkF m 7 #[.val (.ref a1), .val (.ref a1), .val (.int (4 : Int32)), .val (.int (0 : Int32)), .unset, .unset] []))
  refine go (fun t k => XS.iloadN X0.here hx rfl (hb hby d2_7) rfl  k) ?_
  show Gl _ _ _ _ _ _ _ _ (s₁.setTop (mkF m 8 #[.val (.ref a1), .val (.ref a1), .val (.int (4 : Int32)), .val (.int (0 : Int32)), .unset, .unset] [(.int (0 : Int32))]))
  refine go (fun t k => XS.iloadN X0.here hx rfl (hb hby d2_8) rfl  k) ?_
  show Gl _ _ _ _ _ _ _ _ (s₁.setTop (mkF m 9 #[.val (.ref a1), .val (.ref a1), .val (.int (4 : Int32)), .val (.int (0 : Int32)), .unset, .unset] [(.int (4 : Int32)), (.int (0 : Int32))]))
  refine go (fun t k => XS.icmpNo X0.here hx rfl (hb hby d2_9) rfl (tlt (by decide : (0 : Int32) < (4 : Int32))).2.1 k) ?_
  show Gl _ _ _ _ _ _ _ _ (s₁.setTop (mkF m 12 #[.val (.ref a1), .val (.ref a1), .val (.int (4 : Int32)), .val (.int (0 : Int32)), .unset, .unset] []))
  refine go (fun t k => XS.aloadN X0.here hx rfl (hb hby d2_12) rfl rfl k) ?_
  show Gl _ _ _ _ _ _ _ _ (s₁.setTop (mkF m 13 #[.val (.ref a1), .val (.ref a1), .val (.int (4 : Int32)), .val (.int (0 : Int32)), .unset, .unset] [(.ref a1)]))
  refine go (fun t k => XS.iloadN X0.here hx rfl (hb hby d2_13) rfl  k) ?_
  show Gl _ _ _ _ _ _ _ _ (s₁.setTop (mkF m 14 #[.val (.ref a1), .val (.ref a1), .val (.int (4 : Int32)), .val (.int (0 : Int32)), .unset, .unset] [(.int (0 : Int32)), (.ref a1)]))
  obtain ⟨cl2, Ar2, vq2, S2, M2, Hh2, G2⟩ := id V_a
  have hin2 : ¬ ((0 : Int32) < 0 ∨ cl2.slots.size ≤ ((0 : Int32)).toNatClampNeg) := inb_of S2 ⟨by decide, by decide⟩
  have hat2 : cl2.slots[((0 : Int32)).toNatClampNeg]? = some (.int u0) := Hh2 0 (by rw [S2]; decide)
  refine go (fun t k => X0.baloadBytes hx (j := (0 : Int32)) (v := (.int u0)) (by rw [e0]; exact Ar2.1) (State.isArrayOf_alike hZ.alike Ar2.2.1) Ar2.2.2 hin2 hat2 (g := (mkF m 14 #[.val (.ref a1), .val (.ref a1), .val (.int (4 : Int32)), .val (.int (0 : Int32)), .unset, .unset] [(.int (0 : Int32)), (.ref a1)])) rfl rfl (hb hby d2_14) _ k) ?_
  show Gl _ _ _ _ _ _ _ _ (s₁.setTop (mkF m 15 #[.val (.ref a1), .val (.ref a1), .val (.int (4 : Int32)), .val (.int (0 : Int32)), .unset, .unset] [(.int u0)]))
  refine go (fun t k => XS.istore X0.here hx rfl (hb hby d2_15) rfl (l' := #[.val (.ref a1), .val (.ref a1), .val (.int (4 : Int32)), .val (.int (0 : Int32)), .val (.int u0), .unset]) rfl k) ?_
  show Gl _ _ _ _ _ _ _ _ (s₁.setTop (mkF m 17 #[.val (.ref a1), .val (.ref a1), .val (.int (4 : Int32)), .val (.int (0 : Int32)), .val (.int u0), .unset] []))
  refine go (fun t k => XS.iload X0.here hx rfl (hb hby d2_17) rfl  k) ?_
  show Gl _ _ _ _ _ _ _ _ (s₁.setTop (mkF m 19 #[.val (.ref a1), .val (.ref a1), .val (.int (4 : Int32)), .val (.int (0 : Int32)), .val (.int u0), .unset] [(.int u0)]))
  refine go (fun t k => XS.bipush X0.here hx rfl (hb hby d2_19) k) ?_
  show Gl _ _ _ _ _ _ _ _ (s₁.setTop (mkF m 21 #[.val (.ref a1), .val (.ref a1), .val (.int (4 : Int32)), .val (.int (0 : Int32)), .val (.int u0), .unset] [(.int (60 : Int32)), (.int u0)]))
  refine gR (c := u0 = (60 : Int32)) (fun hc21 => ?_) (fun hc21 => ?_)
  · refine go (fun t k => XS.icmpNo X0.here hx rfl (hb hby d2_21) rfl (teq hc21).2 k) ?_
    show Gl _ _ _ _ _ _ _ _ (s₁.setTop (mkF m 24 #[.val (.ref a1), .val (.ref a1), .val (.int (4 : Int32)), .val (.int (0 : Int32)), .val (.int u0), .unset] []))
    obtain ⟨T3, X3, e3, st3⟩ := getS2 X0 hx hZ hown (host := "") (Or.inl (hw _ (List.mem_of_getElem? (i := 21) rfl))) Via.refl e0 S_XACML (g := (mkF m 24 #[.val (.ref a1), .val (.ref a1), .val (.int (4 : Int32)), .val (.int (0 : Int32)), .val (.int u0), .unset] [])) rfl (hb hby d2_24)
    refine go (fun t k => st3 _ k) ?_
    show Gl _ _ _ _ _ _ _ _ (T3.setTop (mkF m 27 #[.val (.ref a1), .val (.ref a1), .val (.int (4 : Int32)), .val (.int (0 : Int32)), .val (.int u0), .unset] [(.ref w_XACML)]))
    exact endR X3 hx Bd rfl (hb hby d2_27) ⟨rfl, e3⟩ N0 (by decide) (by decide)
  · refine go (fun t k => XS.icmpYes X0.here hx rfl (pc0 := 21) (pc' := 28) rfl (hb hby d2_21) rfl (feq hc21).2 (by decide) (by decide) k) ?_
    show Gl _ _ _ _ _ _ _ _ (s₁.setTop (mkF m 28 #[.val (.ref a1), .val (.ref a1), .val (.int (4 : Int32)), .val (.int (0 : Int32)), .val (.int u0), .unset] []))
    refine go (fun t k => XS.iload X0.here hx rfl (hb hby d2_28) rfl  k) ?_
    show Gl _ _ _ _ _ _ _ _ (s₁.setTop (mkF m 30 #[.val (.ref a1), .val (.ref a1), .val (.int (4 : Int32)), .val (.int (0 : Int32)), .val (.int u0), .unset] [(.int u0)]))
    refine go (fun t k => XS.bipush X0.here hx rfl (hb hby d2_30) k) ?_
    show Gl _ _ _ _ _ _ _ _ (s₁.setTop (mkF m 32 #[.val (.ref a1), .val (.ref a1), .val (.int (4 : Int32)), .val (.int (0 : Int32)), .val (.int u0), .unset] [(.int (32 : Int32)), (.int u0)]))
    have J100 : ∀ (s0_100 : Int32) (TJ100 : State) (lJ100 : List Loc) (XJ100 : Stand p l e ({ frames := 0, cells := 0, slots := 0, locals := 0 } : Room) s m #[(.ref a1)] below meth c TJ100 lJ100 0 0) (eJ100 : TJ100.heap = h0) (NJ100 : Fr n0 lJ100), Gl p e below s n0 ({ frames := 0, cells := 0, slots := 0, locals := 0 } : Room).cells ({ frames := 0, cells := 0, slots := 0, locals := 0 } : Room).slots (Kv (some (.ref (b2t4_100 w_XACML w_COMPACT w_BLANK u1 u2 u3 s0_100))) (fun h => h = h0)) (TJ100.setTop (mkF m 100 #[.val (.ref a1), .val (.ref a1), .val (.int (4 : Int32)), .val (.int (0 : Int32)), .val (.int u0), .unset] [(.int s0_100)])) := by
      intro s0_100 TJ100 lJ100 XJ100 eJ100 NJ100
      show Gl _ _ _ _ _ _ _ (Kv (some (.ref (if s0_100 = (0 : Int32) then w_COMPACT else (if u1 = (60 : Int32) then w_XACML else (if u1 = (32 : Int32) then (b2t4_95t1 w_XACML w_COMPACT w_BLANK u2 u3) else (if u1 = (9 : Int32) then (b2t4_95t1 w_XACML w_COMPACT w_BLANK u2 u3) else (if u1 = (13 : Int32) then (b2t4_95t1 w_XACML w_COMPACT w_BLANK u2 u3) else (if u1 = (10 : Int32) then (b2t4_95t1 w_XACML w_COMPACT w_BLANK u2 u3) else (if u1 = (0 : Int32) then (b2t4_95t1 w_XACML w_COMPACT w_BLANK u2 u3) else (if u1 = (-17 : Int32) then (b2t4_95t1 w_XACML w_COMPACT w_BLANK u2 u3) else (if u1 = (-69 : Int32) then (b2t4_95t1 w_XACML w_COMPACT w_BLANK u2 u3) else (if u1 = (-65 : Int32) then (b2t4_95t1 w_XACML w_COMPACT w_BLANK u2 u3) else (if u1 = (-2 : Int32) then (b2t4_95t1 w_XACML w_COMPACT w_BLANK u2 u3) else (if u1 = (-1 : Int32) then (b2t4_95t1 w_XACML w_COMPACT w_BLANK u2 u3) else (b2t4_100t1 w_XACML w_COMPACT w_BLANK u2 u3 (0 : Int32)))))))))))))))) _) _
      refine go (fun t k => XS.istore XJ100.here hx rfl (hb hby d2_100) rfl (l' := #[.val (.ref a1), .val (.ref a1), .val (.int (4 : Int32)), .val (.int (0 : Int32)), .val (.int u0), .val (.int s0_100)]) rfl k) ?_
      show Gl _ _ _ _ _ _ _ _ (TJ100.setTop (mkF m 102 #[.val (.ref a1), .val (.ref a1), .val (.int (4 : Int32)), .val (.int (0 : Int32)), .val (.int u0), .val (.int s0_100)] []))
      refine go (fun t k => XS.iload XJ100.here hx rfl (hb hby d2_102) rfl  k) ?_
      show Gl _ _ _ _ _ _ _ _ (TJ100.setTop (mkF m 104 #[.val (.ref a1), .val (.ref a1), .val (.int (4 : Int32)), .val (.int (0 : Int32)), .val (.int u0), .val (.int s0_100)] [(.int s0_100)]))
      refine gR (c := s0_100 = (0 : Int32)) (fun hc104 => ?_) (fun hc104 => ?_)
      · refine go (fun t k => XS.ifNo XJ100.here hx rfl (hb hby d2_104) rfl ((if0 _ _).trans (teq hc104).2) k) ?_
        show Gl _ _ _ _ _ _ _ _ (TJ100.setTop (mkF m 107 #[.val (.ref a1), .val (.ref a1), .val (.int (4 : Int32)), .val (.int (0 : Int32)), .val (.int u0), .val (.int s0_100)] []))
        obtain ⟨T5, X5, e5, st5⟩ := getS2 XJ100 hx hZ hown (host := "") (Or.inl (hw _ (List.mem_of_getElem? (i := 24) rfl))) Via.refl eJ100 S_COMPACT (g := (mkF m 107 #[.val (.ref a1), .val (.ref a1), .val (.int (4 : Int32)), .val (.int (0 : Int32)), .val (.int u0), .val (.int s0_100)] [])) rfl (hb hby d2_107)
        refine go (fun t k => st5 _ k) ?_
        show Gl _ _ _ _ _ _ _ _ (T5.setTop (mkF m 110 #[.val (.ref a1), .val (.ref a1), .val (.int (4 : Int32)), .val (.int (0 : Int32)), .val (.int u0), .val (.int s0_100)] [(.ref w_COMPACT)]))
        exact endR X5 hx Bd rfl (hb hby d2_110) ⟨rfl, e5⟩ NJ100 (by decide) (by decide)
      · refine go (fun t k => XS.ifYes XJ100.here hx rfl (pc0 := 104) (pc' := 111) rfl (hb hby d2_104) rfl ((if0 _ _).trans (feq hc104).2) (by decide) (by decide) k) ?_
        show Gl _ _ _ _ _ _ _ _ (TJ100.setTop (mkF m 111 #[.val (.ref a1), .val (.ref a1), .val (.int (4 : Int32)), .val (.int (0 : Int32)), .val (.int u0), .val (.int s0_100)] []))
        refine go (fun t k => XS.iinc XJ100.here hx rfl (hb hby d2_111) rfl (l' := #[.val (.ref a1), .val (.ref a1), .val (.int (4 : Int32)), .val (.int (1 : Int32)), .val (.int u0), .val (.int s0_100)]) rfl k) ?_
        show Gl _ _ _ _ _ _ _ _ (TJ100.setTop (mkF m 114 #[.val (.ref a1), .val (.ref a1), .val (.int (4 : Int32)), .val (.int (1 : Int32)), .val (.int u0), .val (.int s0_100)] []))
        refine go (fun t k => XS.goto XJ100.here hx rfl (pc0 := 114) (pc' := 7) rfl (hb hby d2_114) (by decide) (by decide) k) ?_
        show Gl _ _ _ _ _ _ _ _ (TJ100.setTop (mkF m 7 #[.val (.ref a1), .val (.ref a1), .val (.int (4 : Int32)), .val (.int (1 : Int32)), .val (.int u0), .val (.int s0_100)] []))
        refine go (fun t k => XS.iloadN XJ100.here hx rfl (hb hby d2_7) rfl  k) ?_
        show Gl _ _ _ _ _ _ _ _ (TJ100.setTop (mkF m 8 #[.val (.ref a1), .val (.ref a1), .val (.int (4 : Int32)), .val (.int (1 : Int32)), .val (.int u0), .val (.int s0_100)] [(.int (1 : Int32))]))
        refine go (fun t k => XS.iloadN XJ100.here hx rfl (hb hby d2_8) rfl  k) ?_
        show Gl _ _ _ _ _ _ _ _ (TJ100.setTop (mkF m 9 #[.val (.ref a1), .val (.ref a1), .val (.int (4 : Int32)), .val (.int (1 : Int32)), .val (.int u0), .val (.int s0_100)] [(.int (4 : Int32)), (.int (1 : Int32))]))
        refine go (fun t k => XS.icmpNo XJ100.here hx rfl (hb hby d2_9) rfl (tlt (by decide : (1 : Int32) < (4 : Int32))).2.1 k) ?_
        show Gl _ _ _ _ _ _ _ _ (TJ100.setTop (mkF m 12 #[.val (.ref a1), .val (.ref a1), .val (.int (4 : Int32)), .val (.int (1 : Int32)), .val (.int u0), .val (.int s0_100)] []))
        refine go (fun t k => XS.aloadN XJ100.here hx rfl (hb hby d2_12) rfl rfl k) ?_
        show Gl _ _ _ _ _ _ _ _ (TJ100.setTop (mkF m 13 #[.val (.ref a1), .val (.ref a1), .val (.int (4 : Int32)), .val (.int (1 : Int32)), .val (.int u0), .val (.int s0_100)] [(.ref a1)]))
        refine go (fun t k => XS.iloadN XJ100.here hx rfl (hb hby d2_13) rfl  k) ?_
        show Gl _ _ _ _ _ _ _ _ (TJ100.setTop (mkF m 14 #[.val (.ref a1), .val (.ref a1), .val (.int (4 : Int32)), .val (.int (1 : Int32)), .val (.int u0), .val (.int s0_100)] [(.int (1 : Int32)), (.ref a1)]))
        obtain ⟨cl6, Ar6, vq6, S6, M6, Hh6, G6⟩ := id V_a
        have hin6 : ¬ ((1 : Int32) < 0 ∨ cl6.slots.size ≤ ((1 : Int32)).toNatClampNeg) := inb_of S6 ⟨by decide, by decide⟩
        have hat6 : cl6.slots[((1 : Int32)).toNatClampNeg]? = some (.int u1) := Hh6 1 (by rw [S6]; decide)
        refine go (fun t k => XJ100.baloadBytes hx (j := (1 : Int32)) (v := (.int u1)) (by rw [eJ100]; exact Ar6.1) (State.isArrayOf_alike hZ.alike Ar6.2.1) Ar6.2.2 hin6 hat6 (g := (mkF m 14 #[.val (.ref a1), .val (.ref a1), .val (.int (4 : Int32)), .val (.int (1 : Int32)), .val (.int u0), .val (.int s0_100)] [(.int (1 : Int32)), (.ref a1)])) rfl rfl (hb hby d2_14) _ k) ?_
        show Gl _ _ _ _ _ _ _ _ (TJ100.setTop (mkF m 15 #[.val (.ref a1), .val (.ref a1), .val (.int (4 : Int32)), .val (.int (1 : Int32)), .val (.int u0), .val (.int s0_100)] [(.int u1)]))
        refine go (fun t k => XS.istore XJ100.here hx rfl (hb hby d2_15) rfl (l' := #[.val (.ref a1), .val (.ref a1), .val (.int (4 : Int32)), .val (.int (1 : Int32)), .val (.int u1), .val (.int s0_100)]) rfl k) ?_
        show Gl _ _ _ _ _ _ _ _ (TJ100.setTop (mkF m 17 #[.val (.ref a1), .val (.ref a1), .val (.int (4 : Int32)), .val (.int (1 : Int32)), .val (.int u1), .val (.int s0_100)] []))
        refine go (fun t k => XS.iload XJ100.here hx rfl (hb hby d2_17) rfl  k) ?_
        show Gl _ _ _ _ _ _ _ _ (TJ100.setTop (mkF m 19 #[.val (.ref a1), .val (.ref a1), .val (.int (4 : Int32)), .val (.int (1 : Int32)), .val (.int u1), .val (.int s0_100)] [(.int u1)]))
        refine go (fun t k => XS.bipush XJ100.here hx rfl (hb hby d2_19) k) ?_
        show Gl _ _ _ _ _ _ _ _ (TJ100.setTop (mkF m 21 #[.val (.ref a1), .val (.ref a1), .val (.int (4 : Int32)), .val (.int (1 : Int32)), .val (.int u1), .val (.int s0_100)] [(.int (60 : Int32)), (.int u1)]))
        refine gR (c := u1 = (60 : Int32)) (fun hc100021 => ?_) (fun hc100021 => ?_)
        · refine go (fun t k => XS.icmpNo XJ100.here hx rfl (hb hby d2_21) rfl (teq hc100021).2 k) ?_
          show Gl _ _ _ _ _ _ _ _ (TJ100.setTop (mkF m 24 #[.val (.ref a1), .val (.ref a1), .val (.int (4 : Int32)), .val (.int (1 : Int32)), .val (.int u1), .val (.int s0_100)] []))
          obtain ⟨T7, X7, e7, st7⟩ := getS2 XJ100 hx hZ hown (host := "") (Or.inl (hw _ (List.mem_of_getElem? (i := 21) rfl))) Via.refl eJ100 S_XACML (g := (mkF m 24 #[.val (.ref a1), .val (.ref a1), .val (.int (4 : Int32)), .val (.int (1 : Int32)), .val (.int u1), .val (.int s0_100)] [])) rfl (hb hby d2_24)
          refine go (fun t k => st7 _ k) ?_
          show Gl _ _ _ _ _ _ _ _ (T7.setTop (mkF m 27 #[.val (.ref a1), .val (.ref a1), .val (.int (4 : Int32)), .val (.int (1 : Int32)), .val (.int u1), .val (.int s0_100)] [(.ref w_XACML)]))
          exact endR X7 hx Bd rfl (hb hby d2_27) ⟨rfl, e7⟩ NJ100 (by decide) (by decide)
        · refine go (fun t k => XS.icmpYes XJ100.here hx rfl (pc0 := 21) (pc' := 28) rfl (hb hby d2_21) rfl (feq hc100021).2 (by decide) (by decide) k) ?_
          show Gl _ _ _ _ _ _ _ _ (TJ100.setTop (mkF m 28 #[.val (.ref a1), .val (.ref a1), .val (.int (4 : Int32)), .val (.int (1 : Int32)), .val (.int u1), .val (.int s0_100)] []))
          refine go (fun t k => XS.iload XJ100.here hx rfl (hb hby d2_28) rfl  k) ?_
          show Gl _ _ _ _ _ _ _ _ (TJ100.setTop (mkF m 30 #[.val (.ref a1), .val (.ref a1), .val (.int (4 : Int32)), .val (.int (1 : Int32)), .val (.int u1), .val (.int s0_100)] [(.int u1)]))
          refine go (fun t k => XS.bipush XJ100.here hx rfl (hb hby d2_30) k) ?_
          show Gl _ _ _ _ _ _ _ _ (TJ100.setTop (mkF m 32 #[.val (.ref a1), .val (.ref a1), .val (.int (4 : Int32)), .val (.int (1 : Int32)), .val (.int u1), .val (.int s0_100)] [(.int (32 : Int32)), (.int u1)]))
          have J100100 : ∀ (s0_100100 : Int32) (TJ100100 : State) (lJ100100 : List Loc) (XJ100100 : Stand p l e ({ frames := 0, cells := 0, slots := 0, locals := 0 } : Room) s m #[(.ref a1)] below meth c TJ100100 lJ100100 0 0) (eJ100100 : TJ100100.heap = h0) (NJ100100 : Fr n0 lJ100100), Gl p e below s n0 ({ frames := 0, cells := 0, slots := 0, locals := 0 } : Room).cells ({ frames := 0, cells := 0, slots := 0, locals := 0 } : Room).slots (Kv (some (.ref (b2t4_100t1 w_XACML w_COMPACT w_BLANK u2 u3 s0_100100))) (fun h => h = h0)) (TJ100100.setTop (mkF m 100 #[.val (.ref a1), .val (.ref a1), .val (.int (4 : Int32)), .val (.int (1 : Int32)), .val (.int u1), .val (.int s0_100)] [(.int s0_100100)])) := by
            intro s0_100100 TJ100100 lJ100100 XJ100100 eJ100100 NJ100100
            show Gl _ _ _ _ _ _ _ (Kv (some (.ref (if s0_100100 = (0 : Int32) then w_COMPACT else (if u2 = (60 : Int32) then w_XACML else (if u2 = (32 : Int32) then (b2t4_95t2 w_XACML w_COMPACT w_BLANK u3) else (if u2 = (9 : Int32) then (b2t4_95t2 w_XACML w_COMPACT w_BLANK u3) else (if u2 = (13 : Int32) then (b2t4_95t2 w_XACML w_COMPACT w_BLANK u3) else (if u2 = (10 : Int32) then (b2t4_95t2 w_XACML w_COMPACT w_BLANK u3) else (if u2 = (0 : Int32) then (b2t4_95t2 w_XACML w_COMPACT w_BLANK u3) else (if u2 = (-17 : Int32) then (b2t4_95t2 w_XACML w_COMPACT w_BLANK u3) else (if u2 = (-69 : Int32) then (b2t4_95t2 w_XACML w_COMPACT w_BLANK u3) else (if u2 = (-65 : Int32) then (b2t4_95t2 w_XACML w_COMPACT w_BLANK u3) else (if u2 = (-2 : Int32) then (b2t4_95t2 w_XACML w_COMPACT w_BLANK u3) else (if u2 = (-1 : Int32) then (b2t4_95t2 w_XACML w_COMPACT w_BLANK u3) else (b2t4_100t2 w_XACML w_COMPACT w_BLANK u3 (0 : Int32)))))))))))))))) _) _
            refine go (fun t k => XS.istore XJ100100.here hx rfl (hb hby d2_100) rfl (l' := #[.val (.ref a1), .val (.ref a1), .val (.int (4 : Int32)), .val (.int (1 : Int32)), .val (.int u1), .val (.int s0_100100)]) rfl k) ?_
            show Gl _ _ _ _ _ _ _ _ (TJ100100.setTop (mkF m 102 #[.val (.ref a1), .val (.ref a1), .val (.int (4 : Int32)), .val (.int (1 : Int32)), .val (.int u1), .val (.int s0_100100)] []))
            refine go (fun t k => XS.iload XJ100100.here hx rfl (hb hby d2_102) rfl  k) ?_
            show Gl _ _ _ _ _ _ _ _ (TJ100100.setTop (mkF m 104 #[.val (.ref a1), .val (.ref a1), .val (.int (4 : Int32)), .val (.int (1 : Int32)), .val (.int u1), .val (.int s0_100100)] [(.int s0_100100)]))
            refine gR (c := s0_100100 = (0 : Int32)) (fun hc100104 => ?_) (fun hc100104 => ?_)
            · refine go (fun t k => XS.ifNo XJ100100.here hx rfl (hb hby d2_104) rfl ((if0 _ _).trans (teq hc100104).2) k) ?_
              show Gl _ _ _ _ _ _ _ _ (TJ100100.setTop (mkF m 107 #[.val (.ref a1), .val (.ref a1), .val (.int (4 : Int32)), .val (.int (1 : Int32)), .val (.int u1), .val (.int s0_100100)] []))
              obtain ⟨T9, X9, e9, st9⟩ := getS2 XJ100100 hx hZ hown (host := "") (Or.inl (hw _ (List.mem_of_getElem? (i := 24) rfl))) Via.refl eJ100100 S_COMPACT (g := (mkF m 107 #[.val (.ref a1), .val (.ref a1), .val (.int (4 : Int32)), .val (.int (1 : Int32)), .val (.int u1), .val (.int s0_100100)] [])) rfl (hb hby d2_107)
              refine go (fun t k => st9 _ k) ?_
              show Gl _ _ _ _ _ _ _ _ (T9.setTop (mkF m 110 #[.val (.ref a1), .val (.ref a1), .val (.int (4 : Int32)), .val (.int (1 : Int32)), .val (.int u1), .val (.int s0_100100)] [(.ref w_COMPACT)]))
              exact endR X9 hx Bd rfl (hb hby d2_110) ⟨rfl, e9⟩ NJ100100 (by decide) (by decide)
            · refine go (fun t k => XS.ifYes XJ100100.here hx rfl (pc0 := 104) (pc' := 111) rfl (hb hby d2_104) rfl ((if0 _ _).trans (feq hc100104).2) (by decide) (by decide) k) ?_
              show Gl _ _ _ _ _ _ _ _ (TJ100100.setTop (mkF m 111 #[.val (.ref a1), .val (.ref a1), .val (.int (4 : Int32)), .val (.int (1 : Int32)), .val (.int u1), .val (.int s0_100100)] []))
              refine go (fun t k => XS.iinc XJ100100.here hx rfl (hb hby d2_111) rfl (l' := #[.val (.ref a1), .val (.ref a1), .val (.int (4 : Int32)), .val (.int (2 : Int32)), .val (.int u1), .val (.int s0_100100)]) rfl k) ?_
              show Gl _ _ _ _ _ _ _ _ (TJ100100.setTop (mkF m 114 #[.val (.ref a1), .val (.ref a1), .val (.int (4 : Int32)), .val (.int (2 : Int32)), .val (.int u1), .val (.int s0_100100)] []))
              refine go (fun t k => XS.goto XJ100100.here hx rfl (pc0 := 114) (pc' := 7) rfl (hb hby d2_114) (by decide) (by decide) k) ?_
              show Gl _ _ _ _ _ _ _ _ (TJ100100.setTop (mkF m 7 #[.val (.ref a1), .val (.ref a1), .val (.int (4 : Int32)), .val (.int (2 : Int32)), .val (.int u1), .val (.int s0_100100)] []))
              refine go (fun t k => XS.iloadN XJ100100.here hx rfl (hb hby d2_7) rfl  k) ?_
              show Gl _ _ _ _ _ _ _ _ (TJ100100.setTop (mkF m 8 #[.val (.ref a1), .val (.ref a1), .val (.int (4 : Int32)), .val (.int (2 : Int32)), .val (.int u1), .val (.int s0_100100)] [(.int (2 : Int32))]))
              refine go (fun t k => XS.iloadN XJ100100.here hx rfl (hb hby d2_8) rfl  k) ?_
              show Gl _ _ _ _ _ _ _ _ (TJ100100.setTop (mkF m 9 #[.val (.ref a1), .val (.ref a1), .val (.int (4 : Int32)), .val (.int (2 : Int32)), .val (.int u1), .val (.int s0_100100)] [(.int (4 : Int32)), (.int (2 : Int32))]))
              refine go (fun t k => XS.icmpNo XJ100100.here hx rfl (hb hby d2_9) rfl (tlt (by decide : (2 : Int32) < (4 : Int32))).2.1 k) ?_
              show Gl _ _ _ _ _ _ _ _ (TJ100100.setTop (mkF m 12 #[.val (.ref a1), .val (.ref a1), .val (.int (4 : Int32)), .val (.int (2 : Int32)), .val (.int u1), .val (.int s0_100100)] []))
              refine go (fun t k => XS.aloadN XJ100100.here hx rfl (hb hby d2_12) rfl rfl k) ?_
              show Gl _ _ _ _ _ _ _ _ (TJ100100.setTop (mkF m 13 #[.val (.ref a1), .val (.ref a1), .val (.int (4 : Int32)), .val (.int (2 : Int32)), .val (.int u1), .val (.int s0_100100)] [(.ref a1)]))
              refine go (fun t k => XS.iloadN XJ100100.here hx rfl (hb hby d2_13) rfl  k) ?_
              show Gl _ _ _ _ _ _ _ _ (TJ100100.setTop (mkF m 14 #[.val (.ref a1), .val (.ref a1), .val (.int (4 : Int32)), .val (.int (2 : Int32)), .val (.int u1), .val (.int s0_100100)] [(.int (2 : Int32)), (.ref a1)]))
              obtain ⟨cl10, Ar10, vq10, S10, M10, Hh10, G10⟩ := id V_a
              have hin10 : ¬ ((2 : Int32) < 0 ∨ cl10.slots.size ≤ ((2 : Int32)).toNatClampNeg) := inb_of S10 ⟨by decide, by decide⟩
              have hat10 : cl10.slots[((2 : Int32)).toNatClampNeg]? = some (.int u2) := Hh10 2 (by rw [S10]; decide)
              refine go (fun t k => XJ100100.baloadBytes hx (j := (2 : Int32)) (v := (.int u2)) (by rw [eJ100100]; exact Ar10.1) (State.isArrayOf_alike hZ.alike Ar10.2.1) Ar10.2.2 hin10 hat10 (g := (mkF m 14 #[.val (.ref a1), .val (.ref a1), .val (.int (4 : Int32)), .val (.int (2 : Int32)), .val (.int u1), .val (.int s0_100100)] [(.int (2 : Int32)), (.ref a1)])) rfl rfl (hb hby d2_14) _ k) ?_
              show Gl _ _ _ _ _ _ _ _ (TJ100100.setTop (mkF m 15 #[.val (.ref a1), .val (.ref a1), .val (.int (4 : Int32)), .val (.int (2 : Int32)), .val (.int u1), .val (.int s0_100100)] [(.int u2)]))
              refine go (fun t k => XS.istore XJ100100.here hx rfl (hb hby d2_15) rfl (l' := #[.val (.ref a1), .val (.ref a1), .val (.int (4 : Int32)), .val (.int (2 : Int32)), .val (.int u2), .val (.int s0_100100)]) rfl k) ?_
              show Gl _ _ _ _ _ _ _ _ (TJ100100.setTop (mkF m 17 #[.val (.ref a1), .val (.ref a1), .val (.int (4 : Int32)), .val (.int (2 : Int32)), .val (.int u2), .val (.int s0_100100)] []))
              refine go (fun t k => XS.iload XJ100100.here hx rfl (hb hby d2_17) rfl  k) ?_
              show Gl _ _ _ _ _ _ _ _ (TJ100100.setTop (mkF m 19 #[.val (.ref a1), .val (.ref a1), .val (.int (4 : Int32)), .val (.int (2 : Int32)), .val (.int u2), .val (.int s0_100100)] [(.int u2)]))
              refine go (fun t k => XS.bipush XJ100100.here hx rfl (hb hby d2_19) k) ?_
              show Gl _ _ _ _ _ _ _ _ (TJ100100.setTop (mkF m 21 #[.val (.ref a1), .val (.ref a1), .val (.int (4 : Int32)), .val (.int (2 : Int32)), .val (.int u2), .val (.int s0_100100)] [(.int (60 : Int32)), (.int u2)]))
              refine gR (c := u2 = (60 : Int32)) (fun hc200021 => ?_) (fun hc200021 => ?_)
              · refine go (fun t k => XS.icmpNo XJ100100.here hx rfl (hb hby d2_21) rfl (teq hc200021).2 k) ?_
                show Gl _ _ _ _ _ _ _ _ (TJ100100.setTop (mkF m 24 #[.val (.ref a1), .val (.ref a1), .val (.int (4 : Int32)), .val (.int (2 : Int32)), .val (.int u2), .val (.int s0_100100)] []))
                obtain ⟨T11, X11, e11, st11⟩ := getS2 XJ100100 hx hZ hown (host := "") (Or.inl (hw _ (List.mem_of_getElem? (i := 21) rfl))) Via.refl eJ100100 S_XACML (g := (mkF m 24 #[.val (.ref a1), .val (.ref a1), .val (.int (4 : Int32)), .val (.int (2 : Int32)), .val (.int u2), .val (.int s0_100100)] [])) rfl (hb hby d2_24)
                refine go (fun t k => st11 _ k) ?_
                show Gl _ _ _ _ _ _ _ _ (T11.setTop (mkF m 27 #[.val (.ref a1), .val (.ref a1), .val (.int (4 : Int32)), .val (.int (2 : Int32)), .val (.int u2), .val (.int s0_100100)] [(.ref w_XACML)]))
                exact endR X11 hx Bd rfl (hb hby d2_27) ⟨rfl, e11⟩ NJ100100 (by decide) (by decide)
              · refine go (fun t k => XS.icmpYes XJ100100.here hx rfl (pc0 := 21) (pc' := 28) rfl (hb hby d2_21) rfl (feq hc200021).2 (by decide) (by decide) k) ?_
                show Gl _ _ _ _ _ _ _ _ (TJ100100.setTop (mkF m 28 #[.val (.ref a1), .val (.ref a1), .val (.int (4 : Int32)), .val (.int (2 : Int32)), .val (.int u2), .val (.int s0_100100)] []))
                refine go (fun t k => XS.iload XJ100100.here hx rfl (hb hby d2_28) rfl  k) ?_
                show Gl _ _ _ _ _ _ _ _ (TJ100100.setTop (mkF m 30 #[.val (.ref a1), .val (.ref a1), .val (.int (4 : Int32)), .val (.int (2 : Int32)), .val (.int u2), .val (.int s0_100100)] [(.int u2)]))
                refine go (fun t k => XS.bipush XJ100100.here hx rfl (hb hby d2_30) k) ?_
                show Gl _ _ _ _ _ _ _ _ (TJ100100.setTop (mkF m 32 #[.val (.ref a1), .val (.ref a1), .val (.int (4 : Int32)), .val (.int (2 : Int32)), .val (.int u2), .val (.int s0_100100)] [(.int (32 : Int32)), (.int u2)]))
                have J200100 : ∀ (s0_200100 : Int32) (TJ200100 : State) (lJ200100 : List Loc) (XJ200100 : Stand p l e ({ frames := 0, cells := 0, slots := 0, locals := 0 } : Room) s m #[(.ref a1)] below meth c TJ200100 lJ200100 0 0) (eJ200100 : TJ200100.heap = h0) (NJ200100 : Fr n0 lJ200100), Gl p e below s n0 ({ frames := 0, cells := 0, slots := 0, locals := 0 } : Room).cells ({ frames := 0, cells := 0, slots := 0, locals := 0 } : Room).slots (Kv (some (.ref (b2t4_100t2 w_XACML w_COMPACT w_BLANK u3 s0_200100))) (fun h => h = h0)) (TJ200100.setTop (mkF m 100 #[.val (.ref a1), .val (.ref a1), .val (.int (4 : Int32)), .val (.int (2 : Int32)), .val (.int u2), .val (.int s0_100100)] [(.int s0_200100)])) := by
                  intro s0_200100 TJ200100 lJ200100 XJ200100 eJ200100 NJ200100
                  show Gl _ _ _ _ _ _ _ (Kv (some (.ref (if s0_200100 = (0 : Int32) then w_COMPACT else (if u3 = (60 : Int32) then w_XACML else (if u3 = (32 : Int32) then (b2t4_95t3 w_COMPACT w_BLANK) else (if u3 = (9 : Int32) then (b2t4_95t3 w_COMPACT w_BLANK) else (if u3 = (13 : Int32) then (b2t4_95t3 w_COMPACT w_BLANK) else (if u3 = (10 : Int32) then (b2t4_95t3 w_COMPACT w_BLANK) else (if u3 = (0 : Int32) then (b2t4_95t3 w_COMPACT w_BLANK) else (if u3 = (-17 : Int32) then (b2t4_95t3 w_COMPACT w_BLANK) else (if u3 = (-69 : Int32) then (b2t4_95t3 w_COMPACT w_BLANK) else (if u3 = (-65 : Int32) then (b2t4_95t3 w_COMPACT w_BLANK) else (if u3 = (-2 : Int32) then (b2t4_95t3 w_COMPACT w_BLANK) else (if u3 = (-1 : Int32) then (b2t4_95t3 w_COMPACT w_BLANK) else (b2t4_100t3 w_COMPACT w_BLANK (0 : Int32)))))))))))))))) _) _
                  refine go (fun t k => XS.istore XJ200100.here hx rfl (hb hby d2_100) rfl (l' := #[.val (.ref a1), .val (.ref a1), .val (.int (4 : Int32)), .val (.int (2 : Int32)), .val (.int u2), .val (.int s0_200100)]) rfl k) ?_
                  show Gl _ _ _ _ _ _ _ _ (TJ200100.setTop (mkF m 102 #[.val (.ref a1), .val (.ref a1), .val (.int (4 : Int32)), .val (.int (2 : Int32)), .val (.int u2), .val (.int s0_200100)] []))
                  refine go (fun t k => XS.iload XJ200100.here hx rfl (hb hby d2_102) rfl  k) ?_
                  show Gl _ _ _ _ _ _ _ _ (TJ200100.setTop (mkF m 104 #[.val (.ref a1), .val (.ref a1), .val (.int (4 : Int32)), .val (.int (2 : Int32)), .val (.int u2), .val (.int s0_200100)] [(.int s0_200100)]))
                  refine gR (c := s0_200100 = (0 : Int32)) (fun hc200104 => ?_) (fun hc200104 => ?_)
                  · refine go (fun t k => XS.ifNo XJ200100.here hx rfl (hb hby d2_104) rfl ((if0 _ _).trans (teq hc200104).2) k) ?_
                    show Gl _ _ _ _ _ _ _ _ (TJ200100.setTop (mkF m 107 #[.val (.ref a1), .val (.ref a1), .val (.int (4 : Int32)), .val (.int (2 : Int32)), .val (.int u2), .val (.int s0_200100)] []))
                    obtain ⟨T13, X13, e13, st13⟩ := getS2 XJ200100 hx hZ hown (host := "") (Or.inl (hw _ (List.mem_of_getElem? (i := 24) rfl))) Via.refl eJ200100 S_COMPACT (g := (mkF m 107 #[.val (.ref a1), .val (.ref a1), .val (.int (4 : Int32)), .val (.int (2 : Int32)), .val (.int u2), .val (.int s0_200100)] [])) rfl (hb hby d2_107)
                    refine go (fun t k => st13 _ k) ?_
                    show Gl _ _ _ _ _ _ _ _ (T13.setTop (mkF m 110 #[.val (.ref a1), .val (.ref a1), .val (.int (4 : Int32)), .val (.int (2 : Int32)), .val (.int u2), .val (.int s0_200100)] [(.ref w_COMPACT)]))
                    exact endR X13 hx Bd rfl (hb hby d2_110) ⟨rfl, e13⟩ NJ200100 (by decide) (by decide)
                  · refine go (fun t k => XS.ifYes XJ200100.here hx rfl (pc0 := 104) (pc' := 111) rfl (hb hby d2_104) rfl ((if0 _ _).trans (feq hc200104).2) (by decide) (by decide) k) ?_
                    show Gl _ _ _ _ _ _ _ _ (TJ200100.setTop (mkF m 111 #[.val (.ref a1), .val (.ref a1), .val (.int (4 : Int32)), .val (.int (2 : Int32)), .val (.int u2), .val (.int s0_200100)] []))
                    refine go (fun t k => XS.iinc XJ200100.here hx rfl (hb hby d2_111) rfl (l' := #[.val (.ref a1), .val (.ref a1), .val (.int (4 : Int32)), .val (.int (3 : Int32)), .val (.int u2), .val (.int s0_200100)]) rfl k) ?_
                    show Gl _ _ _ _ _ _ _ _ (TJ200100.setTop (mkF m 114 #[.val (.ref a1), .val (.ref a1), .val (.int (4 : Int32)), .val (.int (3 : Int32)), .val (.int u2), .val (.int s0_200100)] []))
                    refine go (fun t k => XS.goto XJ200100.here hx rfl (pc0 := 114) (pc' := 7) rfl (hb hby d2_114) (by decide) (by decide) k) ?_
                    show Gl _ _ _ _ _ _ _ _ (TJ200100.setTop (mkF m 7 #[.val (.ref a1), .val (.ref a1), .val (.int (4 : Int32)), .val (.int (3 : Int32)), .val (.int u2), .val (.int s0_200100)] []))
                    refine go (fun t k => XS.iloadN XJ200100.here hx rfl (hb hby d2_7) rfl  k) ?_
                    show Gl _ _ _ _ _ _ _ _ (TJ200100.setTop (mkF m 8 #[.val (.ref a1), .val (.ref a1), .val (.int (4 : Int32)), .val (.int (3 : Int32)), .val (.int u2), .val (.int s0_200100)] [(.int (3 : Int32))]))
                    refine go (fun t k => XS.iloadN XJ200100.here hx rfl (hb hby d2_8) rfl  k) ?_
                    show Gl _ _ _ _ _ _ _ _ (TJ200100.setTop (mkF m 9 #[.val (.ref a1), .val (.ref a1), .val (.int (4 : Int32)), .val (.int (3 : Int32)), .val (.int u2), .val (.int s0_200100)] [(.int (4 : Int32)), (.int (3 : Int32))]))
                    refine go (fun t k => XS.icmpNo XJ200100.here hx rfl (hb hby d2_9) rfl (tlt (by decide : (3 : Int32) < (4 : Int32))).2.1 k) ?_
                    show Gl _ _ _ _ _ _ _ _ (TJ200100.setTop (mkF m 12 #[.val (.ref a1), .val (.ref a1), .val (.int (4 : Int32)), .val (.int (3 : Int32)), .val (.int u2), .val (.int s0_200100)] []))
                    refine go (fun t k => XS.aloadN XJ200100.here hx rfl (hb hby d2_12) rfl rfl k) ?_
                    show Gl _ _ _ _ _ _ _ _ (TJ200100.setTop (mkF m 13 #[.val (.ref a1), .val (.ref a1), .val (.int (4 : Int32)), .val (.int (3 : Int32)), .val (.int u2), .val (.int s0_200100)] [(.ref a1)]))
                    refine go (fun t k => XS.iloadN XJ200100.here hx rfl (hb hby d2_13) rfl  k) ?_
                    show Gl _ _ _ _ _ _ _ _ (TJ200100.setTop (mkF m 14 #[.val (.ref a1), .val (.ref a1), .val (.int (4 : Int32)), .val (.int (3 : Int32)), .val (.int u2), .val (.int s0_200100)] [(.int (3 : Int32)), (.ref a1)]))
                    obtain ⟨cl14, Ar14, vq14, S14, M14, Hh14, G14⟩ := id V_a
                    have hin14 : ¬ ((3 : Int32) < 0 ∨ cl14.slots.size ≤ ((3 : Int32)).toNatClampNeg) := inb_of S14 ⟨by decide, by decide⟩
                    have hat14 : cl14.slots[((3 : Int32)).toNatClampNeg]? = some (.int u3) := Hh14 3 (by rw [S14]; decide)
                    refine go (fun t k => XJ200100.baloadBytes hx (j := (3 : Int32)) (v := (.int u3)) (by rw [eJ200100]; exact Ar14.1) (State.isArrayOf_alike hZ.alike Ar14.2.1) Ar14.2.2 hin14 hat14 (g := (mkF m 14 #[.val (.ref a1), .val (.ref a1), .val (.int (4 : Int32)), .val (.int (3 : Int32)), .val (.int u2), .val (.int s0_200100)] [(.int (3 : Int32)), (.ref a1)])) rfl rfl (hb hby d2_14) _ k) ?_
                    show Gl _ _ _ _ _ _ _ _ (TJ200100.setTop (mkF m 15 #[.val (.ref a1), .val (.ref a1), .val (.int (4 : Int32)), .val (.int (3 : Int32)), .val (.int u2), .val (.int s0_200100)] [(.int u3)]))
                    refine go (fun t k => XS.istore XJ200100.here hx rfl (hb hby d2_15) rfl (l' := #[.val (.ref a1), .val (.ref a1), .val (.int (4 : Int32)), .val (.int (3 : Int32)), .val (.int u3), .val (.int s0_200100)]) rfl k) ?_
                    show Gl _ _ _ _ _ _ _ _ (TJ200100.setTop (mkF m 17 #[.val (.ref a1), .val (.ref a1), .val (.int (4 : Int32)), .val (.int (3 : Int32)), .val (.int u3), .val (.int s0_200100)] []))
                    refine go (fun t k => XS.iload XJ200100.here hx rfl (hb hby d2_17) rfl  k) ?_
                    show Gl _ _ _ _ _ _ _ _ (TJ200100.setTop (mkF m 19 #[.val (.ref a1), .val (.ref a1), .val (.int (4 : Int32)), .val (.int (3 : Int32)), .val (.int u3), .val (.int s0_200100)] [(.int u3)]))
                    refine go (fun t k => XS.bipush XJ200100.here hx rfl (hb hby d2_19) k) ?_
                    show Gl _ _ _ _ _ _ _ _ (TJ200100.setTop (mkF m 21 #[.val (.ref a1), .val (.ref a1), .val (.int (4 : Int32)), .val (.int (3 : Int32)), .val (.int u3), .val (.int s0_200100)] [(.int (60 : Int32)), (.int u3)]))
                    refine gR (c := u3 = (60 : Int32)) (fun hc300021 => ?_) (fun hc300021 => ?_)
                    · refine go (fun t k => XS.icmpNo XJ200100.here hx rfl (hb hby d2_21) rfl (teq hc300021).2 k) ?_
                      show Gl _ _ _ _ _ _ _ _ (TJ200100.setTop (mkF m 24 #[.val (.ref a1), .val (.ref a1), .val (.int (4 : Int32)), .val (.int (3 : Int32)), .val (.int u3), .val (.int s0_200100)] []))
                      obtain ⟨T15, X15, e15, st15⟩ := getS2 XJ200100 hx hZ hown (host := "") (Or.inl (hw _ (List.mem_of_getElem? (i := 21) rfl))) Via.refl eJ200100 S_XACML (g := (mkF m 24 #[.val (.ref a1), .val (.ref a1), .val (.int (4 : Int32)), .val (.int (3 : Int32)), .val (.int u3), .val (.int s0_200100)] [])) rfl (hb hby d2_24)
                      refine go (fun t k => st15 _ k) ?_
                      show Gl _ _ _ _ _ _ _ _ (T15.setTop (mkF m 27 #[.val (.ref a1), .val (.ref a1), .val (.int (4 : Int32)), .val (.int (3 : Int32)), .val (.int u3), .val (.int s0_200100)] [(.ref w_XACML)]))
                      exact endR X15 hx Bd rfl (hb hby d2_27) ⟨rfl, e15⟩ NJ200100 (by decide) (by decide)
                    · refine go (fun t k => XS.icmpYes XJ200100.here hx rfl (pc0 := 21) (pc' := 28) rfl (hb hby d2_21) rfl (feq hc300021).2 (by decide) (by decide) k) ?_
                      show Gl _ _ _ _ _ _ _ _ (TJ200100.setTop (mkF m 28 #[.val (.ref a1), .val (.ref a1), .val (.int (4 : Int32)), .val (.int (3 : Int32)), .val (.int u3), .val (.int s0_200100)] []))
                      refine go (fun t k => XS.iload XJ200100.here hx rfl (hb hby d2_28) rfl  k) ?_
                      show Gl _ _ _ _ _ _ _ _ (TJ200100.setTop (mkF m 30 #[.val (.ref a1), .val (.ref a1), .val (.int (4 : Int32)), .val (.int (3 : Int32)), .val (.int u3), .val (.int s0_200100)] [(.int u3)]))
                      refine go (fun t k => XS.bipush XJ200100.here hx rfl (hb hby d2_30) k) ?_
                      show Gl _ _ _ _ _ _ _ _ (TJ200100.setTop (mkF m 32 #[.val (.ref a1), .val (.ref a1), .val (.int (4 : Int32)), .val (.int (3 : Int32)), .val (.int u3), .val (.int s0_200100)] [(.int (32 : Int32)), (.int u3)]))
                      have J300100 : ∀ (s0_300100 : Int32) (TJ300100 : State) (lJ300100 : List Loc) (XJ300100 : Stand p l e ({ frames := 0, cells := 0, slots := 0, locals := 0 } : Room) s m #[(.ref a1)] below meth c TJ300100 lJ300100 0 0) (eJ300100 : TJ300100.heap = h0) (NJ300100 : Fr n0 lJ300100), Gl p e below s n0 ({ frames := 0, cells := 0, slots := 0, locals := 0 } : Room).cells ({ frames := 0, cells := 0, slots := 0, locals := 0 } : Room).slots (Kv (some (.ref (b2t4_100t3 w_COMPACT w_BLANK s0_300100))) (fun h => h = h0)) (TJ300100.setTop (mkF m 100 #[.val (.ref a1), .val (.ref a1), .val (.int (4 : Int32)), .val (.int (3 : Int32)), .val (.int u3), .val (.int s0_200100)] [(.int s0_300100)])) := by
                        intro s0_300100 TJ300100 lJ300100 XJ300100 eJ300100 NJ300100
                        show Gl _ _ _ _ _ _ _ (Kv (some (.ref (if s0_300100 = (0 : Int32) then w_COMPACT else w_BLANK))) _) _
                        refine go (fun t k => XS.istore XJ300100.here hx rfl (hb hby d2_100) rfl (l' := #[.val (.ref a1), .val (.ref a1), .val (.int (4 : Int32)), .val (.int (3 : Int32)), .val (.int u3), .val (.int s0_300100)]) rfl k) ?_
                        show Gl _ _ _ _ _ _ _ _ (TJ300100.setTop (mkF m 102 #[.val (.ref a1), .val (.ref a1), .val (.int (4 : Int32)), .val (.int (3 : Int32)), .val (.int u3), .val (.int s0_300100)] []))
                        refine go (fun t k => XS.iload XJ300100.here hx rfl (hb hby d2_102) rfl  k) ?_
                        show Gl _ _ _ _ _ _ _ _ (TJ300100.setTop (mkF m 104 #[.val (.ref a1), .val (.ref a1), .val (.int (4 : Int32)), .val (.int (3 : Int32)), .val (.int u3), .val (.int s0_300100)] [(.int s0_300100)]))
                        refine gR (c := s0_300100 = (0 : Int32)) (fun hc300104 => ?_) (fun hc300104 => ?_)
                        · refine go (fun t k => XS.ifNo XJ300100.here hx rfl (hb hby d2_104) rfl ((if0 _ _).trans (teq hc300104).2) k) ?_
                          show Gl _ _ _ _ _ _ _ _ (TJ300100.setTop (mkF m 107 #[.val (.ref a1), .val (.ref a1), .val (.int (4 : Int32)), .val (.int (3 : Int32)), .val (.int u3), .val (.int s0_300100)] []))
                          obtain ⟨T17, X17, e17, st17⟩ := getS2 XJ300100 hx hZ hown (host := "") (Or.inl (hw _ (List.mem_of_getElem? (i := 24) rfl))) Via.refl eJ300100 S_COMPACT (g := (mkF m 107 #[.val (.ref a1), .val (.ref a1), .val (.int (4 : Int32)), .val (.int (3 : Int32)), .val (.int u3), .val (.int s0_300100)] [])) rfl (hb hby d2_107)
                          refine go (fun t k => st17 _ k) ?_
                          show Gl _ _ _ _ _ _ _ _ (T17.setTop (mkF m 110 #[.val (.ref a1), .val (.ref a1), .val (.int (4 : Int32)), .val (.int (3 : Int32)), .val (.int u3), .val (.int s0_300100)] [(.ref w_COMPACT)]))
                          exact endR X17 hx Bd rfl (hb hby d2_110) ⟨rfl, e17⟩ NJ300100 (by decide) (by decide)
                        · refine go (fun t k => XS.ifYes XJ300100.here hx rfl (pc0 := 104) (pc' := 111) rfl (hb hby d2_104) rfl ((if0 _ _).trans (feq hc300104).2) (by decide) (by decide) k) ?_
                          show Gl _ _ _ _ _ _ _ _ (TJ300100.setTop (mkF m 111 #[.val (.ref a1), .val (.ref a1), .val (.int (4 : Int32)), .val (.int (3 : Int32)), .val (.int u3), .val (.int s0_300100)] []))
                          refine go (fun t k => XS.iinc XJ300100.here hx rfl (hb hby d2_111) rfl (l' := #[.val (.ref a1), .val (.ref a1), .val (.int (4 : Int32)), .val (.int (4 : Int32)), .val (.int u3), .val (.int s0_300100)]) rfl k) ?_
                          show Gl _ _ _ _ _ _ _ _ (TJ300100.setTop (mkF m 114 #[.val (.ref a1), .val (.ref a1), .val (.int (4 : Int32)), .val (.int (4 : Int32)), .val (.int u3), .val (.int s0_300100)] []))
                          refine go (fun t k => XS.goto XJ300100.here hx rfl (pc0 := 114) (pc' := 7) rfl (hb hby d2_114) (by decide) (by decide) k) ?_
                          show Gl _ _ _ _ _ _ _ _ (TJ300100.setTop (mkF m 7 #[.val (.ref a1), .val (.ref a1), .val (.int (4 : Int32)), .val (.int (4 : Int32)), .val (.int u3), .val (.int s0_300100)] []))
                          refine go (fun t k => XS.iloadN XJ300100.here hx rfl (hb hby d2_7) rfl  k) ?_
                          show Gl _ _ _ _ _ _ _ _ (TJ300100.setTop (mkF m 8 #[.val (.ref a1), .val (.ref a1), .val (.int (4 : Int32)), .val (.int (4 : Int32)), .val (.int u3), .val (.int s0_300100)] [(.int (4 : Int32))]))
                          refine go (fun t k => XS.iloadN XJ300100.here hx rfl (hb hby d2_8) rfl  k) ?_
                          show Gl _ _ _ _ _ _ _ _ (TJ300100.setTop (mkF m 9 #[.val (.ref a1), .val (.ref a1), .val (.int (4 : Int32)), .val (.int (4 : Int32)), .val (.int u3), .val (.int s0_300100)] [(.int (4 : Int32)), (.int (4 : Int32))]))
                          refine go (fun t k => XS.icmpYes XJ300100.here hx rfl (pc0 := 9) (pc' := 117) rfl (hb hby d2_9) rfl (flt (by decide : ¬ ((4 : Int32) < (4 : Int32)))).2.1 (by decide) (by decide) k) ?_
                          show Gl _ _ _ _ _ _ _ _ (TJ300100.setTop (mkF m 117 #[.val (.ref a1), .val (.ref a1), .val (.int (4 : Int32)), .val (.int (4 : Int32)), .val (.int u3), .val (.int s0_300100)] []))
                          obtain ⟨T18, X18, e18, st18⟩ := getS2 XJ300100 hx hZ hown (host := "") (Or.inl (hw _ (List.mem_of_getElem? (i := 12) rfl))) Via.refl eJ300100 S_BLANK (g := (mkF m 117 #[.val (.ref a1), .val (.ref a1), .val (.int (4 : Int32)), .val (.int (4 : Int32)), .val (.int u3), .val (.int s0_300100)] [])) rfl (hb hby d2_117)
                          refine go (fun t k => st18 _ k) ?_
                          show Gl _ _ _ _ _ _ _ _ (T18.setTop (mkF m 120 #[.val (.ref a1), .val (.ref a1), .val (.int (4 : Int32)), .val (.int (4 : Int32)), .val (.int u3), .val (.int s0_300100)] [(.ref w_BLANK)]))
                          exact endR X18 hx Bd rfl (hb hby d2_120) ⟨rfl, e18⟩ NJ300100 (by decide) (by decide)
                      have J300095 : ∀  (TJ300095 : State) (lJ300095 : List Loc) (XJ300095 : Stand p l e ({ frames := 0, cells := 0, slots := 0, locals := 0 } : Room) s m #[(.ref a1)] below meth c TJ300095 lJ300095 0 0) (eJ300095 : TJ300095.heap = h0) (NJ300095 : Fr n0 lJ300095), Gl p e below s n0 ({ frames := 0, cells := 0, slots := 0, locals := 0 } : Room).cells ({ frames := 0, cells := 0, slots := 0, locals := 0 } : Room).slots (Kv (some (.ref (b2t4_95t3 w_COMPACT w_BLANK))) (fun h => h = h0)) (TJ300095.setTop (mkF m 95 #[.val (.ref a1), .val (.ref a1), .val (.int (4 : Int32)), .val (.int (3 : Int32)), .val (.int u3), .val (.int s0_200100)] [])) := by
                        intro  TJ300095 lJ300095 XJ300095 eJ300095 NJ300095
                        show Gl _ _ _ _ _ _ _ (Kv (some (.ref (b2t4_100t3 w_COMPACT w_BLANK (1 : Int32)))) _) _
                        refine go (fun t k => XS.iconst XJ300095.here hx rfl (hb hby d2_95) k) ?_
                        show Gl _ _ _ _ _ _ _ _ (TJ300095.setTop (mkF m 96 #[.val (.ref a1), .val (.ref a1), .val (.int (4 : Int32)), .val (.int (3 : Int32)), .val (.int u3), .val (.int s0_200100)] [(.int (1 : Int32))]))
                        refine go (fun t k => XS.goto XJ300095.here hx rfl (pc0 := 96) (pc' := 100) rfl (hb hby d2_96) (by decide) (by decide) k) ?_
                        show Gl _ _ _ _ _ _ _ _ (TJ300095.setTop (mkF m 100 #[.val (.ref a1), .val (.ref a1), .val (.int (4 : Int32)), .val (.int (3 : Int32)), .val (.int u3), .val (.int s0_200100)] [(.int (1 : Int32))]))
                        exact J300100 (1 : Int32) TJ300095 _ XJ300095 eJ300095 NJ300095
                      refine gR (c := u3 = (32 : Int32)) (fun hc300032 => ?_) (fun hc300032 => ?_)
                      · refine go (fun t k => XS.icmpYes XJ200100.here hx rfl (pc0 := 32) (pc' := 95) rfl (hb hby d2_32) rfl (teq hc300032).1 (by decide) (by decide) k) ?_
                        show Gl _ _ _ _ _ _ _ _ (TJ200100.setTop (mkF m 95 #[.val (.ref a1), .val (.ref a1), .val (.int (4 : Int32)), .val (.int (3 : Int32)), .val (.int u3), .val (.int s0_200100)] []))
                        exact J300095  TJ200100 _ XJ200100 eJ200100 NJ200100
                      · refine go (fun t k => XS.icmpNo XJ200100.here hx rfl (hb hby d2_32) rfl (feq hc300032).1 k) ?_
                        show Gl _ _ _ _ _ _ _ _ (TJ200100.setTop (mkF m 35 #[.val (.ref a1), .val (.ref a1), .val (.int (4 : Int32)), .val (.int (3 : Int32)), .val (.int u3), .val (.int s0_200100)] []))
                        refine go (fun t k => XS.iload XJ200100.here hx rfl (hb hby d2_35) rfl  k) ?_
                        show Gl _ _ _ _ _ _ _ _ (TJ200100.setTop (mkF m 37 #[.val (.ref a1), .val (.ref a1), .val (.int (4 : Int32)), .val (.int (3 : Int32)), .val (.int u3), .val (.int s0_200100)] [(.int u3)]))
                        refine go (fun t k => XS.bipush XJ200100.here hx rfl (hb hby d2_37) k) ?_
                        show Gl _ _ _ _ _ _ _ _ (TJ200100.setTop (mkF m 39 #[.val (.ref a1), .val (.ref a1), .val (.int (4 : Int32)), .val (.int (3 : Int32)), .val (.int u3), .val (.int s0_200100)] [(.int (9 : Int32)), (.int u3)]))
                        refine gR (c := u3 = (9 : Int32)) (fun hc300039 => ?_) (fun hc300039 => ?_)
                        · refine go (fun t k => XS.icmpYes XJ200100.here hx rfl (pc0 := 39) (pc' := 95) rfl (hb hby d2_39) rfl (teq hc300039).1 (by decide) (by decide) k) ?_
                          show Gl _ _ _ _ _ _ _ _ (TJ200100.setTop (mkF m 95 #[.val (.ref a1), .val (.ref a1), .val (.int (4 : Int32)), .val (.int (3 : Int32)), .val (.int u3), .val (.int s0_200100)] []))
                          exact J300095  TJ200100 _ XJ200100 eJ200100 NJ200100
                        · refine go (fun t k => XS.icmpNo XJ200100.here hx rfl (hb hby d2_39) rfl (feq hc300039).1 k) ?_
                          show Gl _ _ _ _ _ _ _ _ (TJ200100.setTop (mkF m 42 #[.val (.ref a1), .val (.ref a1), .val (.int (4 : Int32)), .val (.int (3 : Int32)), .val (.int u3), .val (.int s0_200100)] []))
                          refine go (fun t k => XS.iload XJ200100.here hx rfl (hb hby d2_42) rfl  k) ?_
                          show Gl _ _ _ _ _ _ _ _ (TJ200100.setTop (mkF m 44 #[.val (.ref a1), .val (.ref a1), .val (.int (4 : Int32)), .val (.int (3 : Int32)), .val (.int u3), .val (.int s0_200100)] [(.int u3)]))
                          refine go (fun t k => XS.bipush XJ200100.here hx rfl (hb hby d2_44) k) ?_
                          show Gl _ _ _ _ _ _ _ _ (TJ200100.setTop (mkF m 46 #[.val (.ref a1), .val (.ref a1), .val (.int (4 : Int32)), .val (.int (3 : Int32)), .val (.int u3), .val (.int s0_200100)] [(.int (13 : Int32)), (.int u3)]))
                          refine gR (c := u3 = (13 : Int32)) (fun hc300046 => ?_) (fun hc300046 => ?_)
                          · refine go (fun t k => XS.icmpYes XJ200100.here hx rfl (pc0 := 46) (pc' := 95) rfl (hb hby d2_46) rfl (teq hc300046).1 (by decide) (by decide) k) ?_
                            show Gl _ _ _ _ _ _ _ _ (TJ200100.setTop (mkF m 95 #[.val (.ref a1), .val (.ref a1), .val (.int (4 : Int32)), .val (.int (3 : Int32)), .val (.int u3), .val (.int s0_200100)] []))
                            exact J300095  TJ200100 _ XJ200100 eJ200100 NJ200100
                          · refine go (fun t k => XS.icmpNo XJ200100.here hx rfl (hb hby d2_46) rfl (feq hc300046).1 k) ?_
                            show Gl _ _ _ _ _ _ _ _ (TJ200100.setTop (mkF m 49 #[.val (.ref a1), .val (.ref a1), .val (.int (4 : Int32)), .val (.int (3 : Int32)), .val (.int u3), .val (.int s0_200100)] []))
                            refine go (fun t k => XS.iload XJ200100.here hx rfl (hb hby d2_49) rfl  k) ?_
                            show Gl _ _ _ _ _ _ _ _ (TJ200100.setTop (mkF m 51 #[.val (.ref a1), .val (.ref a1), .val (.int (4 : Int32)), .val (.int (3 : Int32)), .val (.int u3), .val (.int s0_200100)] [(.int u3)]))
                            refine go (fun t k => XS.bipush XJ200100.here hx rfl (hb hby d2_51) k) ?_
                            show Gl _ _ _ _ _ _ _ _ (TJ200100.setTop (mkF m 53 #[.val (.ref a1), .val (.ref a1), .val (.int (4 : Int32)), .val (.int (3 : Int32)), .val (.int u3), .val (.int s0_200100)] [(.int (10 : Int32)), (.int u3)]))
                            refine gR (c := u3 = (10 : Int32)) (fun hc300053 => ?_) (fun hc300053 => ?_)
                            · refine go (fun t k => XS.icmpYes XJ200100.here hx rfl (pc0 := 53) (pc' := 95) rfl (hb hby d2_53) rfl (teq hc300053).1 (by decide) (by decide) k) ?_
                              show Gl _ _ _ _ _ _ _ _ (TJ200100.setTop (mkF m 95 #[.val (.ref a1), .val (.ref a1), .val (.int (4 : Int32)), .val (.int (3 : Int32)), .val (.int u3), .val (.int s0_200100)] []))
                              exact J300095  TJ200100 _ XJ200100 eJ200100 NJ200100
                            · refine go (fun t k => XS.icmpNo XJ200100.here hx rfl (hb hby d2_53) rfl (feq hc300053).1 k) ?_
                              show Gl _ _ _ _ _ _ _ _ (TJ200100.setTop (mkF m 56 #[.val (.ref a1), .val (.ref a1), .val (.int (4 : Int32)), .val (.int (3 : Int32)), .val (.int u3), .val (.int s0_200100)] []))
                              refine go (fun t k => XS.iload XJ200100.here hx rfl (hb hby d2_56) rfl  k) ?_
                              show Gl _ _ _ _ _ _ _ _ (TJ200100.setTop (mkF m 58 #[.val (.ref a1), .val (.ref a1), .val (.int (4 : Int32)), .val (.int (3 : Int32)), .val (.int u3), .val (.int s0_200100)] [(.int u3)]))
                              refine gR (c := u3 = (0 : Int32)) (fun hc300058 => ?_) (fun hc300058 => ?_)
                              · refine go (fun t k => XS.ifYes XJ200100.here hx rfl (pc0 := 58) (pc' := 95) rfl (hb hby d2_58) rfl ((if0 _ _).trans (teq hc300058).1) (by decide) (by decide) k) ?_
                                show Gl _ _ _ _ _ _ _ _ (TJ200100.setTop (mkF m 95 #[.val (.ref a1), .val (.ref a1), .val (.int (4 : Int32)), .val (.int (3 : Int32)), .val (.int u3), .val (.int s0_200100)] []))
                                exact J300095  TJ200100 _ XJ200100 eJ200100 NJ200100
                              · refine go (fun t k => XS.ifNo XJ200100.here hx rfl (hb hby d2_58) rfl ((if0 _ _).trans (feq hc300058).1) k) ?_
                                show Gl _ _ _ _ _ _ _ _ (TJ200100.setTop (mkF m 61 #[.val (.ref a1), .val (.ref a1), .val (.int (4 : Int32)), .val (.int (3 : Int32)), .val (.int u3), .val (.int s0_200100)] []))
                                refine go (fun t k => XS.iload XJ200100.here hx rfl (hb hby d2_61) rfl  k) ?_
                                show Gl _ _ _ _ _ _ _ _ (TJ200100.setTop (mkF m 63 #[.val (.ref a1), .val (.ref a1), .val (.int (4 : Int32)), .val (.int (3 : Int32)), .val (.int u3), .val (.int s0_200100)] [(.int u3)]))
                                refine go (fun t k => XS.bipush XJ200100.here hx rfl (hb hby d2_63) k) ?_
                                show Gl _ _ _ _ _ _ _ _ (TJ200100.setTop (mkF m 65 #[.val (.ref a1), .val (.ref a1), .val (.int (4 : Int32)), .val (.int (3 : Int32)), .val (.int u3), .val (.int s0_200100)] [(.int (-17 : Int32)), (.int u3)]))
                                refine gR (c := u3 = (-17 : Int32)) (fun hc300065 => ?_) (fun hc300065 => ?_)
                                · refine go (fun t k => XS.icmpYes XJ200100.here hx rfl (pc0 := 65) (pc' := 95) rfl (hb hby d2_65) rfl (teq hc300065).1 (by decide) (by decide) k) ?_
                                  show Gl _ _ _ _ _ _ _ _ (TJ200100.setTop (mkF m 95 #[.val (.ref a1), .val (.ref a1), .val (.int (4 : Int32)), .val (.int (3 : Int32)), .val (.int u3), .val (.int s0_200100)] []))
                                  exact J300095  TJ200100 _ XJ200100 eJ200100 NJ200100
                                · refine go (fun t k => XS.icmpNo XJ200100.here hx rfl (hb hby d2_65) rfl (feq hc300065).1 k) ?_
                                  show Gl _ _ _ _ _ _ _ _ (TJ200100.setTop (mkF m 68 #[.val (.ref a1), .val (.ref a1), .val (.int (4 : Int32)), .val (.int (3 : Int32)), .val (.int u3), .val (.int s0_200100)] []))
                                  refine go (fun t k => XS.iload XJ200100.here hx rfl (hb hby d2_68) rfl  k) ?_
                                  show Gl _ _ _ _ _ _ _ _ (TJ200100.setTop (mkF m 70 #[.val (.ref a1), .val (.ref a1), .val (.int (4 : Int32)), .val (.int (3 : Int32)), .val (.int u3), .val (.int s0_200100)] [(.int u3)]))
                                  refine go (fun t k => XS.bipush XJ200100.here hx rfl (hb hby d2_70) k) ?_
                                  show Gl _ _ _ _ _ _ _ _ (TJ200100.setTop (mkF m 72 #[.val (.ref a1), .val (.ref a1), .val (.int (4 : Int32)), .val (.int (3 : Int32)), .val (.int u3), .val (.int s0_200100)] [(.int (-69 : Int32)), (.int u3)]))
                                  refine gR (c := u3 = (-69 : Int32)) (fun hc300072 => ?_) (fun hc300072 => ?_)
                                  · refine go (fun t k => XS.icmpYes XJ200100.here hx rfl (pc0 := 72) (pc' := 95) rfl (hb hby d2_72) rfl (teq hc300072).1 (by decide) (by decide) k) ?_
                                    show Gl _ _ _ _ _ _ _ _ (TJ200100.setTop (mkF m 95 #[.val (.ref a1), .val (.ref a1), .val (.int (4 : Int32)), .val (.int (3 : Int32)), .val (.int u3), .val (.int s0_200100)] []))
                                    exact J300095  TJ200100 _ XJ200100 eJ200100 NJ200100
                                  · refine go (fun t k => XS.icmpNo XJ200100.here hx rfl (hb hby d2_72) rfl (feq hc300072).1 k) ?_
                                    show Gl _ _ _ _ _ _ _ _ (TJ200100.setTop (mkF m 75 #[.val (.ref a1), .val (.ref a1), .val (.int (4 : Int32)), .val (.int (3 : Int32)), .val (.int u3), .val (.int s0_200100)] []))
                                    refine go (fun t k => XS.iload XJ200100.here hx rfl (hb hby d2_75) rfl  k) ?_
                                    show Gl _ _ _ _ _ _ _ _ (TJ200100.setTop (mkF m 77 #[.val (.ref a1), .val (.ref a1), .val (.int (4 : Int32)), .val (.int (3 : Int32)), .val (.int u3), .val (.int s0_200100)] [(.int u3)]))
                                    refine go (fun t k => XS.bipush XJ200100.here hx rfl (hb hby d2_77) k) ?_
                                    show Gl _ _ _ _ _ _ _ _ (TJ200100.setTop (mkF m 79 #[.val (.ref a1), .val (.ref a1), .val (.int (4 : Int32)), .val (.int (3 : Int32)), .val (.int u3), .val (.int s0_200100)] [(.int (-65 : Int32)), (.int u3)]))
                                    refine gR (c := u3 = (-65 : Int32)) (fun hc300079 => ?_) (fun hc300079 => ?_)
                                    · refine go (fun t k => XS.icmpYes XJ200100.here hx rfl (pc0 := 79) (pc' := 95) rfl (hb hby d2_79) rfl (teq hc300079).1 (by decide) (by decide) k) ?_
                                      show Gl _ _ _ _ _ _ _ _ (TJ200100.setTop (mkF m 95 #[.val (.ref a1), .val (.ref a1), .val (.int (4 : Int32)), .val (.int (3 : Int32)), .val (.int u3), .val (.int s0_200100)] []))
                                      exact J300095  TJ200100 _ XJ200100 eJ200100 NJ200100
                                    · refine go (fun t k => XS.icmpNo XJ200100.here hx rfl (hb hby d2_79) rfl (feq hc300079).1 k) ?_
                                      show Gl _ _ _ _ _ _ _ _ (TJ200100.setTop (mkF m 82 #[.val (.ref a1), .val (.ref a1), .val (.int (4 : Int32)), .val (.int (3 : Int32)), .val (.int u3), .val (.int s0_200100)] []))
                                      refine go (fun t k => XS.iload XJ200100.here hx rfl (hb hby d2_82) rfl  k) ?_
                                      show Gl _ _ _ _ _ _ _ _ (TJ200100.setTop (mkF m 84 #[.val (.ref a1), .val (.ref a1), .val (.int (4 : Int32)), .val (.int (3 : Int32)), .val (.int u3), .val (.int s0_200100)] [(.int u3)]))
                                      refine go (fun t k => XS.bipush XJ200100.here hx rfl (hb hby d2_84) k) ?_
                                      show Gl _ _ _ _ _ _ _ _ (TJ200100.setTop (mkF m 86 #[.val (.ref a1), .val (.ref a1), .val (.int (4 : Int32)), .val (.int (3 : Int32)), .val (.int u3), .val (.int s0_200100)] [(.int (-2 : Int32)), (.int u3)]))
                                      refine gR (c := u3 = (-2 : Int32)) (fun hc300086 => ?_) (fun hc300086 => ?_)
                                      · refine go (fun t k => XS.icmpYes XJ200100.here hx rfl (pc0 := 86) (pc' := 95) rfl (hb hby d2_86) rfl (teq hc300086).1 (by decide) (by decide) k) ?_
                                        show Gl _ _ _ _ _ _ _ _ (TJ200100.setTop (mkF m 95 #[.val (.ref a1), .val (.ref a1), .val (.int (4 : Int32)), .val (.int (3 : Int32)), .val (.int u3), .val (.int s0_200100)] []))
                                        exact J300095  TJ200100 _ XJ200100 eJ200100 NJ200100
                                      · refine go (fun t k => XS.icmpNo XJ200100.here hx rfl (hb hby d2_86) rfl (feq hc300086).1 k) ?_
                                        show Gl _ _ _ _ _ _ _ _ (TJ200100.setTop (mkF m 89 #[.val (.ref a1), .val (.ref a1), .val (.int (4 : Int32)), .val (.int (3 : Int32)), .val (.int u3), .val (.int s0_200100)] []))
                                        refine go (fun t k => XS.iload XJ200100.here hx rfl (hb hby d2_89) rfl  k) ?_
                                        show Gl _ _ _ _ _ _ _ _ (TJ200100.setTop (mkF m 91 #[.val (.ref a1), .val (.ref a1), .val (.int (4 : Int32)), .val (.int (3 : Int32)), .val (.int u3), .val (.int s0_200100)] [(.int u3)]))
                                        refine go (fun t k => XS.iconst XJ200100.here hx rfl (hb hby d2_91) k) ?_
                                        show Gl _ _ _ _ _ _ _ _ (TJ200100.setTop (mkF m 92 #[.val (.ref a1), .val (.ref a1), .val (.int (4 : Int32)), .val (.int (3 : Int32)), .val (.int u3), .val (.int s0_200100)] [(.int (-1 : Int32)), (.int u3)]))
                                        refine gR (c := u3 = (-1 : Int32)) (fun hc300092 => ?_) (fun hc300092 => ?_)
                                        · refine go (fun t k => XS.icmpNo XJ200100.here hx rfl (hb hby d2_92) rfl (teq hc300092).2 k) ?_
                                          show Gl _ _ _ _ _ _ _ _ (TJ200100.setTop (mkF m 95 #[.val (.ref a1), .val (.ref a1), .val (.int (4 : Int32)), .val (.int (3 : Int32)), .val (.int u3), .val (.int s0_200100)] []))
                                          exact J300095  TJ200100 _ XJ200100 eJ200100 NJ200100
                                        · refine go (fun t k => XS.icmpYes XJ200100.here hx rfl (pc0 := 92) (pc' := 99) rfl (hb hby d2_92) rfl (feq hc300092).2 (by decide) (by decide) k) ?_
                                          show Gl _ _ _ _ _ _ _ _ (TJ200100.setTop (mkF m 99 #[.val (.ref a1), .val (.ref a1), .val (.int (4 : Int32)), .val (.int (3 : Int32)), .val (.int u3), .val (.int s0_200100)] []))
                                          refine go (fun t k => XS.iconst XJ200100.here hx rfl (hb hby d2_99) k) ?_
                                          show Gl _ _ _ _ _ _ _ _ (TJ200100.setTop (mkF m 100 #[.val (.ref a1), .val (.ref a1), .val (.int (4 : Int32)), .val (.int (3 : Int32)), .val (.int u3), .val (.int s0_200100)] [(.int (0 : Int32))]))
                                          exact J300100 (0 : Int32) TJ200100 _ XJ200100 eJ200100 NJ200100
                have J200095 : ∀  (TJ200095 : State) (lJ200095 : List Loc) (XJ200095 : Stand p l e ({ frames := 0, cells := 0, slots := 0, locals := 0 } : Room) s m #[(.ref a1)] below meth c TJ200095 lJ200095 0 0) (eJ200095 : TJ200095.heap = h0) (NJ200095 : Fr n0 lJ200095), Gl p e below s n0 ({ frames := 0, cells := 0, slots := 0, locals := 0 } : Room).cells ({ frames := 0, cells := 0, slots := 0, locals := 0 } : Room).slots (Kv (some (.ref (b2t4_95t2 w_XACML w_COMPACT w_BLANK u3))) (fun h => h = h0)) (TJ200095.setTop (mkF m 95 #[.val (.ref a1), .val (.ref a1), .val (.int (4 : Int32)), .val (.int (2 : Int32)), .val (.int u2), .val (.int s0_100100)] [])) := by
                  intro  TJ200095 lJ200095 XJ200095 eJ200095 NJ200095
                  show Gl _ _ _ _ _ _ _ (Kv (some (.ref (b2t4_100t2 w_XACML w_COMPACT w_BLANK u3 (1 : Int32)))) _) _
                  refine go (fun t k => XS.iconst XJ200095.here hx rfl (hb hby d2_95) k) ?_
                  show Gl _ _ _ _ _ _ _ _ (TJ200095.setTop (mkF m 96 #[.val (.ref a1), .val (.ref a1), .val (.int (4 : Int32)), .val (.int (2 : Int32)), .val (.int u2), .val (.int s0_100100)] [(.int (1 : Int32))]))
                  refine go (fun t k => XS.goto XJ200095.here hx rfl (pc0 := 96) (pc' := 100) rfl (hb hby d2_96) (by decide) (by decide) k) ?_
                  show Gl _ _ _ _ _ _ _ _ (TJ200095.setTop (mkF m 100 #[.val (.ref a1), .val (.ref a1), .val (.int (4 : Int32)), .val (.int (2 : Int32)), .val (.int u2), .val (.int s0_100100)] [(.int (1 : Int32))]))
                  exact J200100 (1 : Int32) TJ200095 _ XJ200095 eJ200095 NJ200095
                refine gR (c := u2 = (32 : Int32)) (fun hc200032 => ?_) (fun hc200032 => ?_)
                · refine go (fun t k => XS.icmpYes XJ100100.here hx rfl (pc0 := 32) (pc' := 95) rfl (hb hby d2_32) rfl (teq hc200032).1 (by decide) (by decide) k) ?_
                  show Gl _ _ _ _ _ _ _ _ (TJ100100.setTop (mkF m 95 #[.val (.ref a1), .val (.ref a1), .val (.int (4 : Int32)), .val (.int (2 : Int32)), .val (.int u2), .val (.int s0_100100)] []))
                  exact J200095  TJ100100 _ XJ100100 eJ100100 NJ100100
                · refine go (fun t k => XS.icmpNo XJ100100.here hx rfl (hb hby d2_32) rfl (feq hc200032).1 k) ?_
                  show Gl _ _ _ _ _ _ _ _ (TJ100100.setTop (mkF m 35 #[.val (.ref a1), .val (.ref a1), .val (.int (4 : Int32)), .val (.int (2 : Int32)), .val (.int u2), .val (.int s0_100100)] []))
                  refine go (fun t k => XS.iload XJ100100.here hx rfl (hb hby d2_35) rfl  k) ?_
                  show Gl _ _ _ _ _ _ _ _ (TJ100100.setTop (mkF m 37 #[.val (.ref a1), .val (.ref a1), .val (.int (4 : Int32)), .val (.int (2 : Int32)), .val (.int u2), .val (.int s0_100100)] [(.int u2)]))
                  refine go (fun t k => XS.bipush XJ100100.here hx rfl (hb hby d2_37) k) ?_
                  show Gl _ _ _ _ _ _ _ _ (TJ100100.setTop (mkF m 39 #[.val (.ref a1), .val (.ref a1), .val (.int (4 : Int32)), .val (.int (2 : Int32)), .val (.int u2), .val (.int s0_100100)] [(.int (9 : Int32)), (.int u2)]))
                  refine gR (c := u2 = (9 : Int32)) (fun hc200039 => ?_) (fun hc200039 => ?_)
                  · refine go (fun t k => XS.icmpYes XJ100100.here hx rfl (pc0 := 39) (pc' := 95) rfl (hb hby d2_39) rfl (teq hc200039).1 (by decide) (by decide) k) ?_
                    show Gl _ _ _ _ _ _ _ _ (TJ100100.setTop (mkF m 95 #[.val (.ref a1), .val (.ref a1), .val (.int (4 : Int32)), .val (.int (2 : Int32)), .val (.int u2), .val (.int s0_100100)] []))
                    exact J200095  TJ100100 _ XJ100100 eJ100100 NJ100100
                  · refine go (fun t k => XS.icmpNo XJ100100.here hx rfl (hb hby d2_39) rfl (feq hc200039).1 k) ?_
                    show Gl _ _ _ _ _ _ _ _ (TJ100100.setTop (mkF m 42 #[.val (.ref a1), .val (.ref a1), .val (.int (4 : Int32)), .val (.int (2 : Int32)), .val (.int u2), .val (.int s0_100100)] []))
                    refine go (fun t k => XS.iload XJ100100.here hx rfl (hb hby d2_42) rfl  k) ?_
                    show Gl _ _ _ _ _ _ _ _ (TJ100100.setTop (mkF m 44 #[.val (.ref a1), .val (.ref a1), .val (.int (4 : Int32)), .val (.int (2 : Int32)), .val (.int u2), .val (.int s0_100100)] [(.int u2)]))
                    refine go (fun t k => XS.bipush XJ100100.here hx rfl (hb hby d2_44) k) ?_
                    show Gl _ _ _ _ _ _ _ _ (TJ100100.setTop (mkF m 46 #[.val (.ref a1), .val (.ref a1), .val (.int (4 : Int32)), .val (.int (2 : Int32)), .val (.int u2), .val (.int s0_100100)] [(.int (13 : Int32)), (.int u2)]))
                    refine gR (c := u2 = (13 : Int32)) (fun hc200046 => ?_) (fun hc200046 => ?_)
                    · refine go (fun t k => XS.icmpYes XJ100100.here hx rfl (pc0 := 46) (pc' := 95) rfl (hb hby d2_46) rfl (teq hc200046).1 (by decide) (by decide) k) ?_
                      show Gl _ _ _ _ _ _ _ _ (TJ100100.setTop (mkF m 95 #[.val (.ref a1), .val (.ref a1), .val (.int (4 : Int32)), .val (.int (2 : Int32)), .val (.int u2), .val (.int s0_100100)] []))
                      exact J200095  TJ100100 _ XJ100100 eJ100100 NJ100100
                    · refine go (fun t k => XS.icmpNo XJ100100.here hx rfl (hb hby d2_46) rfl (feq hc200046).1 k) ?_
                      show Gl _ _ _ _ _ _ _ _ (TJ100100.setTop (mkF m 49 #[.val (.ref a1), .val (.ref a1), .val (.int (4 : Int32)), .val (.int (2 : Int32)), .val (.int u2), .val (.int s0_100100)] []))
                      refine go (fun t k => XS.iload XJ100100.here hx rfl (hb hby d2_49) rfl  k) ?_
                      show Gl _ _ _ _ _ _ _ _ (TJ100100.setTop (mkF m 51 #[.val (.ref a1), .val (.ref a1), .val (.int (4 : Int32)), .val (.int (2 : Int32)), .val (.int u2), .val (.int s0_100100)] [(.int u2)]))
                      refine go (fun t k => XS.bipush XJ100100.here hx rfl (hb hby d2_51) k) ?_
                      show Gl _ _ _ _ _ _ _ _ (TJ100100.setTop (mkF m 53 #[.val (.ref a1), .val (.ref a1), .val (.int (4 : Int32)), .val (.int (2 : Int32)), .val (.int u2), .val (.int s0_100100)] [(.int (10 : Int32)), (.int u2)]))
                      refine gR (c := u2 = (10 : Int32)) (fun hc200053 => ?_) (fun hc200053 => ?_)
                      · refine go (fun t k => XS.icmpYes XJ100100.here hx rfl (pc0 := 53) (pc' := 95) rfl (hb hby d2_53) rfl (teq hc200053).1 (by decide) (by decide) k) ?_
                        show Gl _ _ _ _ _ _ _ _ (TJ100100.setTop (mkF m 95 #[.val (.ref a1), .val (.ref a1), .val (.int (4 : Int32)), .val (.int (2 : Int32)), .val (.int u2), .val (.int s0_100100)] []))
                        exact J200095  TJ100100 _ XJ100100 eJ100100 NJ100100
                      · refine go (fun t k => XS.icmpNo XJ100100.here hx rfl (hb hby d2_53) rfl (feq hc200053).1 k) ?_
                        show Gl _ _ _ _ _ _ _ _ (TJ100100.setTop (mkF m 56 #[.val (.ref a1), .val (.ref a1), .val (.int (4 : Int32)), .val (.int (2 : Int32)), .val (.int u2), .val (.int s0_100100)] []))
                        refine go (fun t k => XS.iload XJ100100.here hx rfl (hb hby d2_56) rfl  k) ?_
                        show Gl _ _ _ _ _ _ _ _ (TJ100100.setTop (mkF m 58 #[.val (.ref a1), .val (.ref a1), .val (.int (4 : Int32)), .val (.int (2 : Int32)), .val (.int u2), .val (.int s0_100100)] [(.int u2)]))
                        refine gR (c := u2 = (0 : Int32)) (fun hc200058 => ?_) (fun hc200058 => ?_)
                        · refine go (fun t k => XS.ifYes XJ100100.here hx rfl (pc0 := 58) (pc' := 95) rfl (hb hby d2_58) rfl ((if0 _ _).trans (teq hc200058).1) (by decide) (by decide) k) ?_
                          show Gl _ _ _ _ _ _ _ _ (TJ100100.setTop (mkF m 95 #[.val (.ref a1), .val (.ref a1), .val (.int (4 : Int32)), .val (.int (2 : Int32)), .val (.int u2), .val (.int s0_100100)] []))
                          exact J200095  TJ100100 _ XJ100100 eJ100100 NJ100100
                        · refine go (fun t k => XS.ifNo XJ100100.here hx rfl (hb hby d2_58) rfl ((if0 _ _).trans (feq hc200058).1) k) ?_
                          show Gl _ _ _ _ _ _ _ _ (TJ100100.setTop (mkF m 61 #[.val (.ref a1), .val (.ref a1), .val (.int (4 : Int32)), .val (.int (2 : Int32)), .val (.int u2), .val (.int s0_100100)] []))
                          refine go (fun t k => XS.iload XJ100100.here hx rfl (hb hby d2_61) rfl  k) ?_
                          show Gl _ _ _ _ _ _ _ _ (TJ100100.setTop (mkF m 63 #[.val (.ref a1), .val (.ref a1), .val (.int (4 : Int32)), .val (.int (2 : Int32)), .val (.int u2), .val (.int s0_100100)] [(.int u2)]))
                          refine go (fun t k => XS.bipush XJ100100.here hx rfl (hb hby d2_63) k) ?_
                          show Gl _ _ _ _ _ _ _ _ (TJ100100.setTop (mkF m 65 #[.val (.ref a1), .val (.ref a1), .val (.int (4 : Int32)), .val (.int (2 : Int32)), .val (.int u2), .val (.int s0_100100)] [(.int (-17 : Int32)), (.int u2)]))
                          refine gR (c := u2 = (-17 : Int32)) (fun hc200065 => ?_) (fun hc200065 => ?_)
                          · refine go (fun t k => XS.icmpYes XJ100100.here hx rfl (pc0 := 65) (pc' := 95) rfl (hb hby d2_65) rfl (teq hc200065).1 (by decide) (by decide) k) ?_
                            show Gl _ _ _ _ _ _ _ _ (TJ100100.setTop (mkF m 95 #[.val (.ref a1), .val (.ref a1), .val (.int (4 : Int32)), .val (.int (2 : Int32)), .val (.int u2), .val (.int s0_100100)] []))
                            exact J200095  TJ100100 _ XJ100100 eJ100100 NJ100100
                          · refine go (fun t k => XS.icmpNo XJ100100.here hx rfl (hb hby d2_65) rfl (feq hc200065).1 k) ?_
                            show Gl _ _ _ _ _ _ _ _ (TJ100100.setTop (mkF m 68 #[.val (.ref a1), .val (.ref a1), .val (.int (4 : Int32)), .val (.int (2 : Int32)), .val (.int u2), .val (.int s0_100100)] []))
                            refine go (fun t k => XS.iload XJ100100.here hx rfl (hb hby d2_68) rfl  k) ?_
                            show Gl _ _ _ _ _ _ _ _ (TJ100100.setTop (mkF m 70 #[.val (.ref a1), .val (.ref a1), .val (.int (4 : Int32)), .val (.int (2 : Int32)), .val (.int u2), .val (.int s0_100100)] [(.int u2)]))
                            refine go (fun t k => XS.bipush XJ100100.here hx rfl (hb hby d2_70) k) ?_
                            show Gl _ _ _ _ _ _ _ _ (TJ100100.setTop (mkF m 72 #[.val (.ref a1), .val (.ref a1), .val (.int (4 : Int32)), .val (.int (2 : Int32)), .val (.int u2), .val (.int s0_100100)] [(.int (-69 : Int32)), (.int u2)]))
                            refine gR (c := u2 = (-69 : Int32)) (fun hc200072 => ?_) (fun hc200072 => ?_)
                            · refine go (fun t k => XS.icmpYes XJ100100.here hx rfl (pc0 := 72) (pc' := 95) rfl (hb hby d2_72) rfl (teq hc200072).1 (by decide) (by decide) k) ?_
                              show Gl _ _ _ _ _ _ _ _ (TJ100100.setTop (mkF m 95 #[.val (.ref a1), .val (.ref a1), .val (.int (4 : Int32)), .val (.int (2 : Int32)), .val (.int u2), .val (.int s0_100100)] []))
                              exact J200095  TJ100100 _ XJ100100 eJ100100 NJ100100
                            · refine go (fun t k => XS.icmpNo XJ100100.here hx rfl (hb hby d2_72) rfl (feq hc200072).1 k) ?_
                              show Gl _ _ _ _ _ _ _ _ (TJ100100.setTop (mkF m 75 #[.val (.ref a1), .val (.ref a1), .val (.int (4 : Int32)), .val (.int (2 : Int32)), .val (.int u2), .val (.int s0_100100)] []))
                              refine go (fun t k => XS.iload XJ100100.here hx rfl (hb hby d2_75) rfl  k) ?_
                              show Gl _ _ _ _ _ _ _ _ (TJ100100.setTop (mkF m 77 #[.val (.ref a1), .val (.ref a1), .val (.int (4 : Int32)), .val (.int (2 : Int32)), .val (.int u2), .val (.int s0_100100)] [(.int u2)]))
                              refine go (fun t k => XS.bipush XJ100100.here hx rfl (hb hby d2_77) k) ?_
                              show Gl _ _ _ _ _ _ _ _ (TJ100100.setTop (mkF m 79 #[.val (.ref a1), .val (.ref a1), .val (.int (4 : Int32)), .val (.int (2 : Int32)), .val (.int u2), .val (.int s0_100100)] [(.int (-65 : Int32)), (.int u2)]))
                              refine gR (c := u2 = (-65 : Int32)) (fun hc200079 => ?_) (fun hc200079 => ?_)
                              · refine go (fun t k => XS.icmpYes XJ100100.here hx rfl (pc0 := 79) (pc' := 95) rfl (hb hby d2_79) rfl (teq hc200079).1 (by decide) (by decide) k) ?_
                                show Gl _ _ _ _ _ _ _ _ (TJ100100.setTop (mkF m 95 #[.val (.ref a1), .val (.ref a1), .val (.int (4 : Int32)), .val (.int (2 : Int32)), .val (.int u2), .val (.int s0_100100)] []))
                                exact J200095  TJ100100 _ XJ100100 eJ100100 NJ100100
                              · refine go (fun t k => XS.icmpNo XJ100100.here hx rfl (hb hby d2_79) rfl (feq hc200079).1 k) ?_
                                show Gl _ _ _ _ _ _ _ _ (TJ100100.setTop (mkF m 82 #[.val (.ref a1), .val (.ref a1), .val (.int (4 : Int32)), .val (.int (2 : Int32)), .val (.int u2), .val (.int s0_100100)] []))
                                refine go (fun t k => XS.iload XJ100100.here hx rfl (hb hby d2_82) rfl  k) ?_
                                show Gl _ _ _ _ _ _ _ _ (TJ100100.setTop (mkF m 84 #[.val (.ref a1), .val (.ref a1), .val (.int (4 : Int32)), .val (.int (2 : Int32)), .val (.int u2), .val (.int s0_100100)] [(.int u2)]))
                                refine go (fun t k => XS.bipush XJ100100.here hx rfl (hb hby d2_84) k) ?_
                                show Gl _ _ _ _ _ _ _ _ (TJ100100.setTop (mkF m 86 #[.val (.ref a1), .val (.ref a1), .val (.int (4 : Int32)), .val (.int (2 : Int32)), .val (.int u2), .val (.int s0_100100)] [(.int (-2 : Int32)), (.int u2)]))
                                refine gR (c := u2 = (-2 : Int32)) (fun hc200086 => ?_) (fun hc200086 => ?_)
                                · refine go (fun t k => XS.icmpYes XJ100100.here hx rfl (pc0 := 86) (pc' := 95) rfl (hb hby d2_86) rfl (teq hc200086).1 (by decide) (by decide) k) ?_
                                  show Gl _ _ _ _ _ _ _ _ (TJ100100.setTop (mkF m 95 #[.val (.ref a1), .val (.ref a1), .val (.int (4 : Int32)), .val (.int (2 : Int32)), .val (.int u2), .val (.int s0_100100)] []))
                                  exact J200095  TJ100100 _ XJ100100 eJ100100 NJ100100
                                · refine go (fun t k => XS.icmpNo XJ100100.here hx rfl (hb hby d2_86) rfl (feq hc200086).1 k) ?_
                                  show Gl _ _ _ _ _ _ _ _ (TJ100100.setTop (mkF m 89 #[.val (.ref a1), .val (.ref a1), .val (.int (4 : Int32)), .val (.int (2 : Int32)), .val (.int u2), .val (.int s0_100100)] []))
                                  refine go (fun t k => XS.iload XJ100100.here hx rfl (hb hby d2_89) rfl  k) ?_
                                  show Gl _ _ _ _ _ _ _ _ (TJ100100.setTop (mkF m 91 #[.val (.ref a1), .val (.ref a1), .val (.int (4 : Int32)), .val (.int (2 : Int32)), .val (.int u2), .val (.int s0_100100)] [(.int u2)]))
                                  refine go (fun t k => XS.iconst XJ100100.here hx rfl (hb hby d2_91) k) ?_
                                  show Gl _ _ _ _ _ _ _ _ (TJ100100.setTop (mkF m 92 #[.val (.ref a1), .val (.ref a1), .val (.int (4 : Int32)), .val (.int (2 : Int32)), .val (.int u2), .val (.int s0_100100)] [(.int (-1 : Int32)), (.int u2)]))
                                  refine gR (c := u2 = (-1 : Int32)) (fun hc200092 => ?_) (fun hc200092 => ?_)
                                  · refine go (fun t k => XS.icmpNo XJ100100.here hx rfl (hb hby d2_92) rfl (teq hc200092).2 k) ?_
                                    show Gl _ _ _ _ _ _ _ _ (TJ100100.setTop (mkF m 95 #[.val (.ref a1), .val (.ref a1), .val (.int (4 : Int32)), .val (.int (2 : Int32)), .val (.int u2), .val (.int s0_100100)] []))
                                    exact J200095  TJ100100 _ XJ100100 eJ100100 NJ100100
                                  · refine go (fun t k => XS.icmpYes XJ100100.here hx rfl (pc0 := 92) (pc' := 99) rfl (hb hby d2_92) rfl (feq hc200092).2 (by decide) (by decide) k) ?_
                                    show Gl _ _ _ _ _ _ _ _ (TJ100100.setTop (mkF m 99 #[.val (.ref a1), .val (.ref a1), .val (.int (4 : Int32)), .val (.int (2 : Int32)), .val (.int u2), .val (.int s0_100100)] []))
                                    refine go (fun t k => XS.iconst XJ100100.here hx rfl (hb hby d2_99) k) ?_
                                    show Gl _ _ _ _ _ _ _ _ (TJ100100.setTop (mkF m 100 #[.val (.ref a1), .val (.ref a1), .val (.int (4 : Int32)), .val (.int (2 : Int32)), .val (.int u2), .val (.int s0_100100)] [(.int (0 : Int32))]))
                                    exact J200100 (0 : Int32) TJ100100 _ XJ100100 eJ100100 NJ100100
          have J100095 : ∀  (TJ100095 : State) (lJ100095 : List Loc) (XJ100095 : Stand p l e ({ frames := 0, cells := 0, slots := 0, locals := 0 } : Room) s m #[(.ref a1)] below meth c TJ100095 lJ100095 0 0) (eJ100095 : TJ100095.heap = h0) (NJ100095 : Fr n0 lJ100095), Gl p e below s n0 ({ frames := 0, cells := 0, slots := 0, locals := 0 } : Room).cells ({ frames := 0, cells := 0, slots := 0, locals := 0 } : Room).slots (Kv (some (.ref (b2t4_95t1 w_XACML w_COMPACT w_BLANK u2 u3))) (fun h => h = h0)) (TJ100095.setTop (mkF m 95 #[.val (.ref a1), .val (.ref a1), .val (.int (4 : Int32)), .val (.int (1 : Int32)), .val (.int u1), .val (.int s0_100)] [])) := by
            intro  TJ100095 lJ100095 XJ100095 eJ100095 NJ100095
            show Gl _ _ _ _ _ _ _ (Kv (some (.ref (b2t4_100t1 w_XACML w_COMPACT w_BLANK u2 u3 (1 : Int32)))) _) _
            refine go (fun t k => XS.iconst XJ100095.here hx rfl (hb hby d2_95) k) ?_
            show Gl _ _ _ _ _ _ _ _ (TJ100095.setTop (mkF m 96 #[.val (.ref a1), .val (.ref a1), .val (.int (4 : Int32)), .val (.int (1 : Int32)), .val (.int u1), .val (.int s0_100)] [(.int (1 : Int32))]))
            refine go (fun t k => XS.goto XJ100095.here hx rfl (pc0 := 96) (pc' := 100) rfl (hb hby d2_96) (by decide) (by decide) k) ?_
            show Gl _ _ _ _ _ _ _ _ (TJ100095.setTop (mkF m 100 #[.val (.ref a1), .val (.ref a1), .val (.int (4 : Int32)), .val (.int (1 : Int32)), .val (.int u1), .val (.int s0_100)] [(.int (1 : Int32))]))
            exact J100100 (1 : Int32) TJ100095 _ XJ100095 eJ100095 NJ100095
          refine gR (c := u1 = (32 : Int32)) (fun hc100032 => ?_) (fun hc100032 => ?_)
          · refine go (fun t k => XS.icmpYes XJ100.here hx rfl (pc0 := 32) (pc' := 95) rfl (hb hby d2_32) rfl (teq hc100032).1 (by decide) (by decide) k) ?_
            show Gl _ _ _ _ _ _ _ _ (TJ100.setTop (mkF m 95 #[.val (.ref a1), .val (.ref a1), .val (.int (4 : Int32)), .val (.int (1 : Int32)), .val (.int u1), .val (.int s0_100)] []))
            exact J100095  TJ100 _ XJ100 eJ100 NJ100
          · refine go (fun t k => XS.icmpNo XJ100.here hx rfl (hb hby d2_32) rfl (feq hc100032).1 k) ?_
            show Gl _ _ _ _ _ _ _ _ (TJ100.setTop (mkF m 35 #[.val (.ref a1), .val (.ref a1), .val (.int (4 : Int32)), .val (.int (1 : Int32)), .val (.int u1), .val (.int s0_100)] []))
            refine go (fun t k => XS.iload XJ100.here hx rfl (hb hby d2_35) rfl  k) ?_
            show Gl _ _ _ _ _ _ _ _ (TJ100.setTop (mkF m 37 #[.val (.ref a1), .val (.ref a1), .val (.int (4 : Int32)), .val (.int (1 : Int32)), .val (.int u1), .val (.int s0_100)] [(.int u1)]))
            refine go (fun t k => XS.bipush XJ100.here hx rfl (hb hby d2_37) k) ?_
            show Gl _ _ _ _ _ _ _ _ (TJ100.setTop (mkF m 39 #[.val (.ref a1), .val (.ref a1), .val (.int (4 : Int32)), .val (.int (1 : Int32)), .val (.int u1), .val (.int s0_100)] [(.int (9 : Int32)), (.int u1)]))
            refine gR (c := u1 = (9 : Int32)) (fun hc100039 => ?_) (fun hc100039 => ?_)
            · refine go (fun t k => XS.icmpYes XJ100.here hx rfl (pc0 := 39) (pc' := 95) rfl (hb hby d2_39) rfl (teq hc100039).1 (by decide) (by decide) k) ?_
              show Gl _ _ _ _ _ _ _ _ (TJ100.setTop (mkF m 95 #[.val (.ref a1), .val (.ref a1), .val (.int (4 : Int32)), .val (.int (1 : Int32)), .val (.int u1), .val (.int s0_100)] []))
              exact J100095  TJ100 _ XJ100 eJ100 NJ100
            · refine go (fun t k => XS.icmpNo XJ100.here hx rfl (hb hby d2_39) rfl (feq hc100039).1 k) ?_
              show Gl _ _ _ _ _ _ _ _ (TJ100.setTop (mkF m 42 #[.val (.ref a1), .val (.ref a1), .val (.int (4 : Int32)), .val (.int (1 : Int32)), .val (.int u1), .val (.int s0_100)] []))
              refine go (fun t k => XS.iload XJ100.here hx rfl (hb hby d2_42) rfl  k) ?_
              show Gl _ _ _ _ _ _ _ _ (TJ100.setTop (mkF m 44 #[.val (.ref a1), .val (.ref a1), .val (.int (4 : Int32)), .val (.int (1 : Int32)), .val (.int u1), .val (.int s0_100)] [(.int u1)]))
              refine go (fun t k => XS.bipush XJ100.here hx rfl (hb hby d2_44) k) ?_
              show Gl _ _ _ _ _ _ _ _ (TJ100.setTop (mkF m 46 #[.val (.ref a1), .val (.ref a1), .val (.int (4 : Int32)), .val (.int (1 : Int32)), .val (.int u1), .val (.int s0_100)] [(.int (13 : Int32)), (.int u1)]))
              refine gR (c := u1 = (13 : Int32)) (fun hc100046 => ?_) (fun hc100046 => ?_)
              · refine go (fun t k => XS.icmpYes XJ100.here hx rfl (pc0 := 46) (pc' := 95) rfl (hb hby d2_46) rfl (teq hc100046).1 (by decide) (by decide) k) ?_
                show Gl _ _ _ _ _ _ _ _ (TJ100.setTop (mkF m 95 #[.val (.ref a1), .val (.ref a1), .val (.int (4 : Int32)), .val (.int (1 : Int32)), .val (.int u1), .val (.int s0_100)] []))
                exact J100095  TJ100 _ XJ100 eJ100 NJ100
              · refine go (fun t k => XS.icmpNo XJ100.here hx rfl (hb hby d2_46) rfl (feq hc100046).1 k) ?_
                show Gl _ _ _ _ _ _ _ _ (TJ100.setTop (mkF m 49 #[.val (.ref a1), .val (.ref a1), .val (.int (4 : Int32)), .val (.int (1 : Int32)), .val (.int u1), .val (.int s0_100)] []))
                refine go (fun t k => XS.iload XJ100.here hx rfl (hb hby d2_49) rfl  k) ?_
                show Gl _ _ _ _ _ _ _ _ (TJ100.setTop (mkF m 51 #[.val (.ref a1), .val (.ref a1), .val (.int (4 : Int32)), .val (.int (1 : Int32)), .val (.int u1), .val (.int s0_100)] [(.int u1)]))
                refine go (fun t k => XS.bipush XJ100.here hx rfl (hb hby d2_51) k) ?_
                show Gl _ _ _ _ _ _ _ _ (TJ100.setTop (mkF m 53 #[.val (.ref a1), .val (.ref a1), .val (.int (4 : Int32)), .val (.int (1 : Int32)), .val (.int u1), .val (.int s0_100)] [(.int (10 : Int32)), (.int u1)]))
                refine gR (c := u1 = (10 : Int32)) (fun hc100053 => ?_) (fun hc100053 => ?_)
                · refine go (fun t k => XS.icmpYes XJ100.here hx rfl (pc0 := 53) (pc' := 95) rfl (hb hby d2_53) rfl (teq hc100053).1 (by decide) (by decide) k) ?_
                  show Gl _ _ _ _ _ _ _ _ (TJ100.setTop (mkF m 95 #[.val (.ref a1), .val (.ref a1), .val (.int (4 : Int32)), .val (.int (1 : Int32)), .val (.int u1), .val (.int s0_100)] []))
                  exact J100095  TJ100 _ XJ100 eJ100 NJ100
                · refine go (fun t k => XS.icmpNo XJ100.here hx rfl (hb hby d2_53) rfl (feq hc100053).1 k) ?_
                  show Gl _ _ _ _ _ _ _ _ (TJ100.setTop (mkF m 56 #[.val (.ref a1), .val (.ref a1), .val (.int (4 : Int32)), .val (.int (1 : Int32)), .val (.int u1), .val (.int s0_100)] []))
                  refine go (fun t k => XS.iload XJ100.here hx rfl (hb hby d2_56) rfl  k) ?_
                  show Gl _ _ _ _ _ _ _ _ (TJ100.setTop (mkF m 58 #[.val (.ref a1), .val (.ref a1), .val (.int (4 : Int32)), .val (.int (1 : Int32)), .val (.int u1), .val (.int s0_100)] [(.int u1)]))
                  refine gR (c := u1 = (0 : Int32)) (fun hc100058 => ?_) (fun hc100058 => ?_)
                  · refine go (fun t k => XS.ifYes XJ100.here hx rfl (pc0 := 58) (pc' := 95) rfl (hb hby d2_58) rfl ((if0 _ _).trans (teq hc100058).1) (by decide) (by decide) k) ?_
                    show Gl _ _ _ _ _ _ _ _ (TJ100.setTop (mkF m 95 #[.val (.ref a1), .val (.ref a1), .val (.int (4 : Int32)), .val (.int (1 : Int32)), .val (.int u1), .val (.int s0_100)] []))
                    exact J100095  TJ100 _ XJ100 eJ100 NJ100
                  · refine go (fun t k => XS.ifNo XJ100.here hx rfl (hb hby d2_58) rfl ((if0 _ _).trans (feq hc100058).1) k) ?_
                    show Gl _ _ _ _ _ _ _ _ (TJ100.setTop (mkF m 61 #[.val (.ref a1), .val (.ref a1), .val (.int (4 : Int32)), .val (.int (1 : Int32)), .val (.int u1), .val (.int s0_100)] []))
                    refine go (fun t k => XS.iload XJ100.here hx rfl (hb hby d2_61) rfl  k) ?_
                    show Gl _ _ _ _ _ _ _ _ (TJ100.setTop (mkF m 63 #[.val (.ref a1), .val (.ref a1), .val (.int (4 : Int32)), .val (.int (1 : Int32)), .val (.int u1), .val (.int s0_100)] [(.int u1)]))
                    refine go (fun t k => XS.bipush XJ100.here hx rfl (hb hby d2_63) k) ?_
                    show Gl _ _ _ _ _ _ _ _ (TJ100.setTop (mkF m 65 #[.val (.ref a1), .val (.ref a1), .val (.int (4 : Int32)), .val (.int (1 : Int32)), .val (.int u1), .val (.int s0_100)] [(.int (-17 : Int32)), (.int u1)]))
                    refine gR (c := u1 = (-17 : Int32)) (fun hc100065 => ?_) (fun hc100065 => ?_)
                    · refine go (fun t k => XS.icmpYes XJ100.here hx rfl (pc0 := 65) (pc' := 95) rfl (hb hby d2_65) rfl (teq hc100065).1 (by decide) (by decide) k) ?_
                      show Gl _ _ _ _ _ _ _ _ (TJ100.setTop (mkF m 95 #[.val (.ref a1), .val (.ref a1), .val (.int (4 : Int32)), .val (.int (1 : Int32)), .val (.int u1), .val (.int s0_100)] []))
                      exact J100095  TJ100 _ XJ100 eJ100 NJ100
                    · refine go (fun t k => XS.icmpNo XJ100.here hx rfl (hb hby d2_65) rfl (feq hc100065).1 k) ?_
                      show Gl _ _ _ _ _ _ _ _ (TJ100.setTop (mkF m 68 #[.val (.ref a1), .val (.ref a1), .val (.int (4 : Int32)), .val (.int (1 : Int32)), .val (.int u1), .val (.int s0_100)] []))
                      refine go (fun t k => XS.iload XJ100.here hx rfl (hb hby d2_68) rfl  k) ?_
                      show Gl _ _ _ _ _ _ _ _ (TJ100.setTop (mkF m 70 #[.val (.ref a1), .val (.ref a1), .val (.int (4 : Int32)), .val (.int (1 : Int32)), .val (.int u1), .val (.int s0_100)] [(.int u1)]))
                      refine go (fun t k => XS.bipush XJ100.here hx rfl (hb hby d2_70) k) ?_
                      show Gl _ _ _ _ _ _ _ _ (TJ100.setTop (mkF m 72 #[.val (.ref a1), .val (.ref a1), .val (.int (4 : Int32)), .val (.int (1 : Int32)), .val (.int u1), .val (.int s0_100)] [(.int (-69 : Int32)), (.int u1)]))
                      refine gR (c := u1 = (-69 : Int32)) (fun hc100072 => ?_) (fun hc100072 => ?_)
                      · refine go (fun t k => XS.icmpYes XJ100.here hx rfl (pc0 := 72) (pc' := 95) rfl (hb hby d2_72) rfl (teq hc100072).1 (by decide) (by decide) k) ?_
                        show Gl _ _ _ _ _ _ _ _ (TJ100.setTop (mkF m 95 #[.val (.ref a1), .val (.ref a1), .val (.int (4 : Int32)), .val (.int (1 : Int32)), .val (.int u1), .val (.int s0_100)] []))
                        exact J100095  TJ100 _ XJ100 eJ100 NJ100
                      · refine go (fun t k => XS.icmpNo XJ100.here hx rfl (hb hby d2_72) rfl (feq hc100072).1 k) ?_
                        show Gl _ _ _ _ _ _ _ _ (TJ100.setTop (mkF m 75 #[.val (.ref a1), .val (.ref a1), .val (.int (4 : Int32)), .val (.int (1 : Int32)), .val (.int u1), .val (.int s0_100)] []))
                        refine go (fun t k => XS.iload XJ100.here hx rfl (hb hby d2_75) rfl  k) ?_
                        show Gl _ _ _ _ _ _ _ _ (TJ100.setTop (mkF m 77 #[.val (.ref a1), .val (.ref a1), .val (.int (4 : Int32)), .val (.int (1 : Int32)), .val (.int u1), .val (.int s0_100)] [(.int u1)]))
                        refine go (fun t k => XS.bipush XJ100.here hx rfl (hb hby d2_77) k) ?_
                        show Gl _ _ _ _ _ _ _ _ (TJ100.setTop (mkF m 79 #[.val (.ref a1), .val (.ref a1), .val (.int (4 : Int32)), .val (.int (1 : Int32)), .val (.int u1), .val (.int s0_100)] [(.int (-65 : Int32)), (.int u1)]))
                        refine gR (c := u1 = (-65 : Int32)) (fun hc100079 => ?_) (fun hc100079 => ?_)
                        · refine go (fun t k => XS.icmpYes XJ100.here hx rfl (pc0 := 79) (pc' := 95) rfl (hb hby d2_79) rfl (teq hc100079).1 (by decide) (by decide) k) ?_
                          show Gl _ _ _ _ _ _ _ _ (TJ100.setTop (mkF m 95 #[.val (.ref a1), .val (.ref a1), .val (.int (4 : Int32)), .val (.int (1 : Int32)), .val (.int u1), .val (.int s0_100)] []))
                          exact J100095  TJ100 _ XJ100 eJ100 NJ100
                        · refine go (fun t k => XS.icmpNo XJ100.here hx rfl (hb hby d2_79) rfl (feq hc100079).1 k) ?_
                          show Gl _ _ _ _ _ _ _ _ (TJ100.setTop (mkF m 82 #[.val (.ref a1), .val (.ref a1), .val (.int (4 : Int32)), .val (.int (1 : Int32)), .val (.int u1), .val (.int s0_100)] []))
                          refine go (fun t k => XS.iload XJ100.here hx rfl (hb hby d2_82) rfl  k) ?_
                          show Gl _ _ _ _ _ _ _ _ (TJ100.setTop (mkF m 84 #[.val (.ref a1), .val (.ref a1), .val (.int (4 : Int32)), .val (.int (1 : Int32)), .val (.int u1), .val (.int s0_100)] [(.int u1)]))
                          refine go (fun t k => XS.bipush XJ100.here hx rfl (hb hby d2_84) k) ?_
                          show Gl _ _ _ _ _ _ _ _ (TJ100.setTop (mkF m 86 #[.val (.ref a1), .val (.ref a1), .val (.int (4 : Int32)), .val (.int (1 : Int32)), .val (.int u1), .val (.int s0_100)] [(.int (-2 : Int32)), (.int u1)]))
                          refine gR (c := u1 = (-2 : Int32)) (fun hc100086 => ?_) (fun hc100086 => ?_)
                          · refine go (fun t k => XS.icmpYes XJ100.here hx rfl (pc0 := 86) (pc' := 95) rfl (hb hby d2_86) rfl (teq hc100086).1 (by decide) (by decide) k) ?_
                            show Gl _ _ _ _ _ _ _ _ (TJ100.setTop (mkF m 95 #[.val (.ref a1), .val (.ref a1), .val (.int (4 : Int32)), .val (.int (1 : Int32)), .val (.int u1), .val (.int s0_100)] []))
                            exact J100095  TJ100 _ XJ100 eJ100 NJ100
                          · refine go (fun t k => XS.icmpNo XJ100.here hx rfl (hb hby d2_86) rfl (feq hc100086).1 k) ?_
                            show Gl _ _ _ _ _ _ _ _ (TJ100.setTop (mkF m 89 #[.val (.ref a1), .val (.ref a1), .val (.int (4 : Int32)), .val (.int (1 : Int32)), .val (.int u1), .val (.int s0_100)] []))
                            refine go (fun t k => XS.iload XJ100.here hx rfl (hb hby d2_89) rfl  k) ?_
                            show Gl _ _ _ _ _ _ _ _ (TJ100.setTop (mkF m 91 #[.val (.ref a1), .val (.ref a1), .val (.int (4 : Int32)), .val (.int (1 : Int32)), .val (.int u1), .val (.int s0_100)] [(.int u1)]))
                            refine go (fun t k => XS.iconst XJ100.here hx rfl (hb hby d2_91) k) ?_
                            show Gl _ _ _ _ _ _ _ _ (TJ100.setTop (mkF m 92 #[.val (.ref a1), .val (.ref a1), .val (.int (4 : Int32)), .val (.int (1 : Int32)), .val (.int u1), .val (.int s0_100)] [(.int (-1 : Int32)), (.int u1)]))
                            refine gR (c := u1 = (-1 : Int32)) (fun hc100092 => ?_) (fun hc100092 => ?_)
                            · refine go (fun t k => XS.icmpNo XJ100.here hx rfl (hb hby d2_92) rfl (teq hc100092).2 k) ?_
                              show Gl _ _ _ _ _ _ _ _ (TJ100.setTop (mkF m 95 #[.val (.ref a1), .val (.ref a1), .val (.int (4 : Int32)), .val (.int (1 : Int32)), .val (.int u1), .val (.int s0_100)] []))
                              exact J100095  TJ100 _ XJ100 eJ100 NJ100
                            · refine go (fun t k => XS.icmpYes XJ100.here hx rfl (pc0 := 92) (pc' := 99) rfl (hb hby d2_92) rfl (feq hc100092).2 (by decide) (by decide) k) ?_
                              show Gl _ _ _ _ _ _ _ _ (TJ100.setTop (mkF m 99 #[.val (.ref a1), .val (.ref a1), .val (.int (4 : Int32)), .val (.int (1 : Int32)), .val (.int u1), .val (.int s0_100)] []))
                              refine go (fun t k => XS.iconst XJ100.here hx rfl (hb hby d2_99) k) ?_
                              show Gl _ _ _ _ _ _ _ _ (TJ100.setTop (mkF m 100 #[.val (.ref a1), .val (.ref a1), .val (.int (4 : Int32)), .val (.int (1 : Int32)), .val (.int u1), .val (.int s0_100)] [(.int (0 : Int32))]))
                              exact J100100 (0 : Int32) TJ100 _ XJ100 eJ100 NJ100
    have J95 : ∀  (TJ95 : State) (lJ95 : List Loc) (XJ95 : Stand p l e ({ frames := 0, cells := 0, slots := 0, locals := 0 } : Room) s m #[(.ref a1)] below meth c TJ95 lJ95 0 0) (eJ95 : TJ95.heap = h0) (NJ95 : Fr n0 lJ95), Gl p e below s n0 ({ frames := 0, cells := 0, slots := 0, locals := 0 } : Room).cells ({ frames := 0, cells := 0, slots := 0, locals := 0 } : Room).slots (Kv (some (.ref (b2t4_95 w_XACML w_COMPACT w_BLANK u1 u2 u3))) (fun h => h = h0)) (TJ95.setTop (mkF m 95 #[.val (.ref a1), .val (.ref a1), .val (.int (4 : Int32)), .val (.int (0 : Int32)), .val (.int u0), .unset] [])) := by
      intro  TJ95 lJ95 XJ95 eJ95 NJ95
      show Gl _ _ _ _ _ _ _ (Kv (some (.ref (b2t4_100 w_XACML w_COMPACT w_BLANK u1 u2 u3 (1 : Int32)))) _) _
      refine go (fun t k => XS.iconst XJ95.here hx rfl (hb hby d2_95) k) ?_
      show Gl _ _ _ _ _ _ _ _ (TJ95.setTop (mkF m 96 #[.val (.ref a1), .val (.ref a1), .val (.int (4 : Int32)), .val (.int (0 : Int32)), .val (.int u0), .unset] [(.int (1 : Int32))]))
      refine go (fun t k => XS.goto XJ95.here hx rfl (pc0 := 96) (pc' := 100) rfl (hb hby d2_96) (by decide) (by decide) k) ?_
      show Gl _ _ _ _ _ _ _ _ (TJ95.setTop (mkF m 100 #[.val (.ref a1), .val (.ref a1), .val (.int (4 : Int32)), .val (.int (0 : Int32)), .val (.int u0), .unset] [(.int (1 : Int32))]))
      exact J100 (1 : Int32) TJ95 _ XJ95 eJ95 NJ95
    refine gR (c := u0 = (32 : Int32)) (fun hc32 => ?_) (fun hc32 => ?_)
    · refine go (fun t k => XS.icmpYes X0.here hx rfl (pc0 := 32) (pc' := 95) rfl (hb hby d2_32) rfl (teq hc32).1 (by decide) (by decide) k) ?_
      show Gl _ _ _ _ _ _ _ _ (s₁.setTop (mkF m 95 #[.val (.ref a1), .val (.ref a1), .val (.int (4 : Int32)), .val (.int (0 : Int32)), .val (.int u0), .unset] []))
      exact J95  s₁ _ X0 e0 N0
    · refine go (fun t k => XS.icmpNo X0.here hx rfl (hb hby d2_32) rfl (feq hc32).1 k) ?_
      show Gl _ _ _ _ _ _ _ _ (s₁.setTop (mkF m 35 #[.val (.ref a1), .val (.ref a1), .val (.int (4 : Int32)), .val (.int (0 : Int32)), .val (.int u0), .unset] []))
      refine go (fun t k => XS.iload X0.here hx rfl (hb hby d2_35) rfl  k) ?_
      show Gl _ _ _ _ _ _ _ _ (s₁.setTop (mkF m 37 #[.val (.ref a1), .val (.ref a1), .val (.int (4 : Int32)), .val (.int (0 : Int32)), .val (.int u0), .unset] [(.int u0)]))
      refine go (fun t k => XS.bipush X0.here hx rfl (hb hby d2_37) k) ?_
      show Gl _ _ _ _ _ _ _ _ (s₁.setTop (mkF m 39 #[.val (.ref a1), .val (.ref a1), .val (.int (4 : Int32)), .val (.int (0 : Int32)), .val (.int u0), .unset] [(.int (9 : Int32)), (.int u0)]))
      refine gR (c := u0 = (9 : Int32)) (fun hc39 => ?_) (fun hc39 => ?_)
      · refine go (fun t k => XS.icmpYes X0.here hx rfl (pc0 := 39) (pc' := 95) rfl (hb hby d2_39) rfl (teq hc39).1 (by decide) (by decide) k) ?_
        show Gl _ _ _ _ _ _ _ _ (s₁.setTop (mkF m 95 #[.val (.ref a1), .val (.ref a1), .val (.int (4 : Int32)), .val (.int (0 : Int32)), .val (.int u0), .unset] []))
        exact J95  s₁ _ X0 e0 N0
      · refine go (fun t k => XS.icmpNo X0.here hx rfl (hb hby d2_39) rfl (feq hc39).1 k) ?_
        show Gl _ _ _ _ _ _ _ _ (s₁.setTop (mkF m 42 #[.val (.ref a1), .val (.ref a1), .val (.int (4 : Int32)), .val (.int (0 : Int32)), .val (.int u0), .unset] []))
        refine go (fun t k => XS.iload X0.here hx rfl (hb hby d2_42) rfl  k) ?_
        show Gl _ _ _ _ _ _ _ _ (s₁.setTop (mkF m 44 #[.val (.ref a1), .val (.ref a1), .val (.int (4 : Int32)), .val (.int (0 : Int32)), .val (.int u0), .unset] [(.int u0)]))
        refine go (fun t k => XS.bipush X0.here hx rfl (hb hby d2_44) k) ?_
        show Gl _ _ _ _ _ _ _ _ (s₁.setTop (mkF m 46 #[.val (.ref a1), .val (.ref a1), .val (.int (4 : Int32)), .val (.int (0 : Int32)), .val (.int u0), .unset] [(.int (13 : Int32)), (.int u0)]))
        refine gR (c := u0 = (13 : Int32)) (fun hc46 => ?_) (fun hc46 => ?_)
        · refine go (fun t k => XS.icmpYes X0.here hx rfl (pc0 := 46) (pc' := 95) rfl (hb hby d2_46) rfl (teq hc46).1 (by decide) (by decide) k) ?_
          show Gl _ _ _ _ _ _ _ _ (s₁.setTop (mkF m 95 #[.val (.ref a1), .val (.ref a1), .val (.int (4 : Int32)), .val (.int (0 : Int32)), .val (.int u0), .unset] []))
          exact J95  s₁ _ X0 e0 N0
        · refine go (fun t k => XS.icmpNo X0.here hx rfl (hb hby d2_46) rfl (feq hc46).1 k) ?_
          show Gl _ _ _ _ _ _ _ _ (s₁.setTop (mkF m 49 #[.val (.ref a1), .val (.ref a1), .val (.int (4 : Int32)), .val (.int (0 : Int32)), .val (.int u0), .unset] []))
          refine go (fun t k => XS.iload X0.here hx rfl (hb hby d2_49) rfl  k) ?_
          show Gl _ _ _ _ _ _ _ _ (s₁.setTop (mkF m 51 #[.val (.ref a1), .val (.ref a1), .val (.int (4 : Int32)), .val (.int (0 : Int32)), .val (.int u0), .unset] [(.int u0)]))
          refine go (fun t k => XS.bipush X0.here hx rfl (hb hby d2_51) k) ?_
          show Gl _ _ _ _ _ _ _ _ (s₁.setTop (mkF m 53 #[.val (.ref a1), .val (.ref a1), .val (.int (4 : Int32)), .val (.int (0 : Int32)), .val (.int u0), .unset] [(.int (10 : Int32)), (.int u0)]))
          refine gR (c := u0 = (10 : Int32)) (fun hc53 => ?_) (fun hc53 => ?_)
          · refine go (fun t k => XS.icmpYes X0.here hx rfl (pc0 := 53) (pc' := 95) rfl (hb hby d2_53) rfl (teq hc53).1 (by decide) (by decide) k) ?_
            show Gl _ _ _ _ _ _ _ _ (s₁.setTop (mkF m 95 #[.val (.ref a1), .val (.ref a1), .val (.int (4 : Int32)), .val (.int (0 : Int32)), .val (.int u0), .unset] []))
            exact J95  s₁ _ X0 e0 N0
          · refine go (fun t k => XS.icmpNo X0.here hx rfl (hb hby d2_53) rfl (feq hc53).1 k) ?_
            show Gl _ _ _ _ _ _ _ _ (s₁.setTop (mkF m 56 #[.val (.ref a1), .val (.ref a1), .val (.int (4 : Int32)), .val (.int (0 : Int32)), .val (.int u0), .unset] []))
            refine go (fun t k => XS.iload X0.here hx rfl (hb hby d2_56) rfl  k) ?_
            show Gl _ _ _ _ _ _ _ _ (s₁.setTop (mkF m 58 #[.val (.ref a1), .val (.ref a1), .val (.int (4 : Int32)), .val (.int (0 : Int32)), .val (.int u0), .unset] [(.int u0)]))
            refine gR (c := u0 = (0 : Int32)) (fun hc58 => ?_) (fun hc58 => ?_)
            · refine go (fun t k => XS.ifYes X0.here hx rfl (pc0 := 58) (pc' := 95) rfl (hb hby d2_58) rfl ((if0 _ _).trans (teq hc58).1) (by decide) (by decide) k) ?_
              show Gl _ _ _ _ _ _ _ _ (s₁.setTop (mkF m 95 #[.val (.ref a1), .val (.ref a1), .val (.int (4 : Int32)), .val (.int (0 : Int32)), .val (.int u0), .unset] []))
              exact J95  s₁ _ X0 e0 N0
            · refine go (fun t k => XS.ifNo X0.here hx rfl (hb hby d2_58) rfl ((if0 _ _).trans (feq hc58).1) k) ?_
              show Gl _ _ _ _ _ _ _ _ (s₁.setTop (mkF m 61 #[.val (.ref a1), .val (.ref a1), .val (.int (4 : Int32)), .val (.int (0 : Int32)), .val (.int u0), .unset] []))
              refine go (fun t k => XS.iload X0.here hx rfl (hb hby d2_61) rfl  k) ?_
              show Gl _ _ _ _ _ _ _ _ (s₁.setTop (mkF m 63 #[.val (.ref a1), .val (.ref a1), .val (.int (4 : Int32)), .val (.int (0 : Int32)), .val (.int u0), .unset] [(.int u0)]))
              refine go (fun t k => XS.bipush X0.here hx rfl (hb hby d2_63) k) ?_
              show Gl _ _ _ _ _ _ _ _ (s₁.setTop (mkF m 65 #[.val (.ref a1), .val (.ref a1), .val (.int (4 : Int32)), .val (.int (0 : Int32)), .val (.int u0), .unset] [(.int (-17 : Int32)), (.int u0)]))
              refine gR (c := u0 = (-17 : Int32)) (fun hc65 => ?_) (fun hc65 => ?_)
              · refine go (fun t k => XS.icmpYes X0.here hx rfl (pc0 := 65) (pc' := 95) rfl (hb hby d2_65) rfl (teq hc65).1 (by decide) (by decide) k) ?_
                show Gl _ _ _ _ _ _ _ _ (s₁.setTop (mkF m 95 #[.val (.ref a1), .val (.ref a1), .val (.int (4 : Int32)), .val (.int (0 : Int32)), .val (.int u0), .unset] []))
                exact J95  s₁ _ X0 e0 N0
              · refine go (fun t k => XS.icmpNo X0.here hx rfl (hb hby d2_65) rfl (feq hc65).1 k) ?_
                show Gl _ _ _ _ _ _ _ _ (s₁.setTop (mkF m 68 #[.val (.ref a1), .val (.ref a1), .val (.int (4 : Int32)), .val (.int (0 : Int32)), .val (.int u0), .unset] []))
                refine go (fun t k => XS.iload X0.here hx rfl (hb hby d2_68) rfl  k) ?_
                show Gl _ _ _ _ _ _ _ _ (s₁.setTop (mkF m 70 #[.val (.ref a1), .val (.ref a1), .val (.int (4 : Int32)), .val (.int (0 : Int32)), .val (.int u0), .unset] [(.int u0)]))
                refine go (fun t k => XS.bipush X0.here hx rfl (hb hby d2_70) k) ?_
                show Gl _ _ _ _ _ _ _ _ (s₁.setTop (mkF m 72 #[.val (.ref a1), .val (.ref a1), .val (.int (4 : Int32)), .val (.int (0 : Int32)), .val (.int u0), .unset] [(.int (-69 : Int32)), (.int u0)]))
                refine gR (c := u0 = (-69 : Int32)) (fun hc72 => ?_) (fun hc72 => ?_)
                · refine go (fun t k => XS.icmpYes X0.here hx rfl (pc0 := 72) (pc' := 95) rfl (hb hby d2_72) rfl (teq hc72).1 (by decide) (by decide) k) ?_
                  show Gl _ _ _ _ _ _ _ _ (s₁.setTop (mkF m 95 #[.val (.ref a1), .val (.ref a1), .val (.int (4 : Int32)), .val (.int (0 : Int32)), .val (.int u0), .unset] []))
                  exact J95  s₁ _ X0 e0 N0
                · refine go (fun t k => XS.icmpNo X0.here hx rfl (hb hby d2_72) rfl (feq hc72).1 k) ?_
                  show Gl _ _ _ _ _ _ _ _ (s₁.setTop (mkF m 75 #[.val (.ref a1), .val (.ref a1), .val (.int (4 : Int32)), .val (.int (0 : Int32)), .val (.int u0), .unset] []))
                  refine go (fun t k => XS.iload X0.here hx rfl (hb hby d2_75) rfl  k) ?_
                  show Gl _ _ _ _ _ _ _ _ (s₁.setTop (mkF m 77 #[.val (.ref a1), .val (.ref a1), .val (.int (4 : Int32)), .val (.int (0 : Int32)), .val (.int u0), .unset] [(.int u0)]))
                  refine go (fun t k => XS.bipush X0.here hx rfl (hb hby d2_77) k) ?_
                  show Gl _ _ _ _ _ _ _ _ (s₁.setTop (mkF m 79 #[.val (.ref a1), .val (.ref a1), .val (.int (4 : Int32)), .val (.int (0 : Int32)), .val (.int u0), .unset] [(.int (-65 : Int32)), (.int u0)]))
                  refine gR (c := u0 = (-65 : Int32)) (fun hc79 => ?_) (fun hc79 => ?_)
                  · refine go (fun t k => XS.icmpYes X0.here hx rfl (pc0 := 79) (pc' := 95) rfl (hb hby d2_79) rfl (teq hc79).1 (by decide) (by decide) k) ?_
                    show Gl _ _ _ _ _ _ _ _ (s₁.setTop (mkF m 95 #[.val (.ref a1), .val (.ref a1), .val (.int (4 : Int32)), .val (.int (0 : Int32)), .val (.int u0), .unset] []))
                    exact J95  s₁ _ X0 e0 N0
                  · refine go (fun t k => XS.icmpNo X0.here hx rfl (hb hby d2_79) rfl (feq hc79).1 k) ?_
                    show Gl _ _ _ _ _ _ _ _ (s₁.setTop (mkF m 82 #[.val (.ref a1), .val (.ref a1), .val (.int (4 : Int32)), .val (.int (0 : Int32)), .val (.int u0), .unset] []))
                    refine go (fun t k => XS.iload X0.here hx rfl (hb hby d2_82) rfl  k) ?_
                    show Gl _ _ _ _ _ _ _ _ (s₁.setTop (mkF m 84 #[.val (.ref a1), .val (.ref a1), .val (.int (4 : Int32)), .val (.int (0 : Int32)), .val (.int u0), .unset] [(.int u0)]))
                    refine go (fun t k => XS.bipush X0.here hx rfl (hb hby d2_84) k) ?_
                    show Gl _ _ _ _ _ _ _ _ (s₁.setTop (mkF m 86 #[.val (.ref a1), .val (.ref a1), .val (.int (4 : Int32)), .val (.int (0 : Int32)), .val (.int u0), .unset] [(.int (-2 : Int32)), (.int u0)]))
                    refine gR (c := u0 = (-2 : Int32)) (fun hc86 => ?_) (fun hc86 => ?_)
                    · refine go (fun t k => XS.icmpYes X0.here hx rfl (pc0 := 86) (pc' := 95) rfl (hb hby d2_86) rfl (teq hc86).1 (by decide) (by decide) k) ?_
                      show Gl _ _ _ _ _ _ _ _ (s₁.setTop (mkF m 95 #[.val (.ref a1), .val (.ref a1), .val (.int (4 : Int32)), .val (.int (0 : Int32)), .val (.int u0), .unset] []))
                      exact J95  s₁ _ X0 e0 N0
                    · refine go (fun t k => XS.icmpNo X0.here hx rfl (hb hby d2_86) rfl (feq hc86).1 k) ?_
                      show Gl _ _ _ _ _ _ _ _ (s₁.setTop (mkF m 89 #[.val (.ref a1), .val (.ref a1), .val (.int (4 : Int32)), .val (.int (0 : Int32)), .val (.int u0), .unset] []))
                      refine go (fun t k => XS.iload X0.here hx rfl (hb hby d2_89) rfl  k) ?_
                      show Gl _ _ _ _ _ _ _ _ (s₁.setTop (mkF m 91 #[.val (.ref a1), .val (.ref a1), .val (.int (4 : Int32)), .val (.int (0 : Int32)), .val (.int u0), .unset] [(.int u0)]))
                      refine go (fun t k => XS.iconst X0.here hx rfl (hb hby d2_91) k) ?_
                      show Gl _ _ _ _ _ _ _ _ (s₁.setTop (mkF m 92 #[.val (.ref a1), .val (.ref a1), .val (.int (4 : Int32)), .val (.int (0 : Int32)), .val (.int u0), .unset] [(.int (-1 : Int32)), (.int u0)]))
                      refine gR (c := u0 = (-1 : Int32)) (fun hc92 => ?_) (fun hc92 => ?_)
                      · refine go (fun t k => XS.icmpNo X0.here hx rfl (hb hby d2_92) rfl (teq hc92).2 k) ?_
                        show Gl _ _ _ _ _ _ _ _ (s₁.setTop (mkF m 95 #[.val (.ref a1), .val (.ref a1), .val (.int (4 : Int32)), .val (.int (0 : Int32)), .val (.int u0), .unset] []))
                        exact J95  s₁ _ X0 e0 N0
                      · refine go (fun t k => XS.icmpYes X0.here hx rfl (pc0 := 92) (pc' := 99) rfl (hb hby d2_92) rfl (feq hc92).2 (by decide) (by decide) k) ?_
                        show Gl _ _ _ _ _ _ _ _ (s₁.setTop (mkF m 99 #[.val (.ref a1), .val (.ref a1), .val (.int (4 : Int32)), .val (.int (0 : Int32)), .val (.int u0), .unset] []))
                        refine go (fun t k => XS.iconst X0.here hx rfl (hb hby d2_99) k) ?_
                        show Gl _ _ _ _ _ _ _ _ (s₁.setTop (mkF m 100 #[.val (.ref a1), .val (.ref a1), .val (.int (4 : Int32)), .val (.int (0 : Int32)), .val (.int u0), .unset] [(.int (0 : Int32))]))
                        exact J100 (0 : Int32) s₁ _ X0 e0 N0
theorem d3_0 : decode method_3_code 0 = .ok (.iload_n 0, 1) := by decide +kernel
theorem d3_1 : decode method_3_code 1 = .ok (.sipush 255, 3) := by decide +kernel
theorem d3_4 : decode method_3_code 4 = .ok (.iand, 1) := by decide +kernel
theorem d3_5 : decode method_3_code 5 = .ok (.istore_n 1, 1) := by decide +kernel
theorem d3_6 : decode method_3_code 6 = .ok (.iload_n 1, 1) := by decide +kernel
theorem d3_7 : decode method_3_code 7 = .ok (.bipush 60, 2) := by decide +kernel
theorem d3_9 : decode method_3_code 9 = .ok (.if_icmp .ne 5, 3) := by decide +kernel
theorem d3_12 : decode method_3_code 12 = .ok (.iconst 0, 1) := by decide +kernel
theorem d3_13 : decode method_3_code 13 = .ok (.ireturn, 1) := by decide +kernel
theorem d3_14 : decode method_3_code 14 = .ok (.iload_n 1, 1) := by decide +kernel
theorem d3_15 : decode method_3_code 15 = .ok (.bipush 32, 2) := by decide +kernel
theorem d3_17 : decode method_3_code 17 = .ok (.if_icmp .eq 60, 3) := by decide +kernel
theorem d3_20 : decode method_3_code 20 = .ok (.iload_n 1, 1) := by decide +kernel
theorem d3_21 : decode method_3_code 21 = .ok (.bipush 9, 2) := by decide +kernel
theorem d3_23 : decode method_3_code 23 = .ok (.if_icmp .eq 54, 3) := by decide +kernel
theorem d3_26 : decode method_3_code 26 = .ok (.iload_n 1, 1) := by decide +kernel
theorem d3_27 : decode method_3_code 27 = .ok (.bipush 13, 2) := by decide +kernel
theorem d3_29 : decode method_3_code 29 = .ok (.if_icmp .eq 48, 3) := by decide +kernel
theorem d3_32 : decode method_3_code 32 = .ok (.iload_n 1, 1) := by decide +kernel
theorem d3_33 : decode method_3_code 33 = .ok (.bipush 10, 2) := by decide +kernel
theorem d3_35 : decode method_3_code 35 = .ok (.if_icmp .eq 42, 3) := by decide +kernel
theorem d3_38 : decode method_3_code 38 = .ok (.iload_n 1, 1) := by decide +kernel
theorem d3_39 : decode method_3_code 39 = .ok (.ifCond .eq 38, 3) := by decide +kernel
theorem d3_42 : decode method_3_code 42 = .ok (.iload_n 1, 1) := by decide +kernel
theorem d3_43 : decode method_3_code 43 = .ok (.sipush 239, 3) := by decide +kernel
theorem d3_46 : decode method_3_code 46 = .ok (.if_icmp .eq 31, 3) := by decide +kernel
theorem d3_49 : decode method_3_code 49 = .ok (.iload_n 1, 1) := by decide +kernel
theorem d3_50 : decode method_3_code 50 = .ok (.sipush 187, 3) := by decide +kernel
theorem d3_53 : decode method_3_code 53 = .ok (.if_icmp .eq 24, 3) := by decide +kernel
theorem d3_56 : decode method_3_code 56 = .ok (.iload_n 1, 1) := by decide +kernel
theorem d3_57 : decode method_3_code 57 = .ok (.sipush 191, 3) := by decide +kernel
theorem d3_60 : decode method_3_code 60 = .ok (.if_icmp .eq 17, 3) := by decide +kernel
theorem d3_63 : decode method_3_code 63 = .ok (.iload_n 1, 1) := by decide +kernel
theorem d3_64 : decode method_3_code 64 = .ok (.sipush 254, 3) := by decide +kernel
theorem d3_67 : decode method_3_code 67 = .ok (.if_icmp .eq 10, 3) := by decide +kernel
theorem d3_70 : decode method_3_code 70 = .ok (.iload_n 1, 1) := by decide +kernel
theorem d3_71 : decode method_3_code 71 = .ok (.sipush 255, 3) := by decide +kernel
theorem d3_74 : decode method_3_code 74 = .ok (.if_icmp .ne 5, 3) := by decide +kernel
theorem d3_77 : decode method_3_code 77 = .ok (.iconst 1, 1) := by decide +kernel
theorem d3_78 : decode method_3_code 78 = .ok (.ireturn, 1) := by decide +kernel
theorem d3_79 : decode method_3_code 79 = .ok (.iconst 2, 1) := by decide +kernel
theorem d3_80 : decode method_3_code 80 = .ok (.ireturn, 1) := by decide +kernel
theorem ef_3 (m : MethodId) (p1 : Int32) : entryFrame m #[(.int p1)] 2 = mkF m 0 #[.val (.int p1), .unset] [] := by first | (simp [entryFrame, mkF, argsToLocals, Value.category]; done) | rfl
def b3_77  : Int32 := (1 : Int32)
def b3_0 (p1 : Int32) : Int32 := (if (p1 &&& (255 : Int32)) = (60 : Int32) then (0 : Int32) else (if (p1 &&& (255 : Int32)) = (32 : Int32) then b3_77 else (if (p1 &&& (255 : Int32)) = (9 : Int32) then b3_77 else (if (p1 &&& (255 : Int32)) = (13 : Int32) then b3_77 else (if (p1 &&& (255 : Int32)) = (10 : Int32) then b3_77 else (if (p1 &&& (255 : Int32)) = (0 : Int32) then b3_77 else (if (p1 &&& (255 : Int32)) = (239 : Int32) then b3_77 else (if (p1 &&& (255 : Int32)) = (187 : Int32) then b3_77 else (if (p1 &&& (255 : Int32)) = (191 : Int32) then b3_77 else (if (p1 &&& (255 : Int32)) = (254 : Int32) then b3_77 else (if (p1 &&& (255 : Int32)) = (255 : Int32) then b3_77 else (2 : Int32))))))))))))
set_option maxRecDepth 65536 in
set_option maxHeartbeats 40000000 in
theorem rm3 (l : Launch) (Z : State) (a0 : Array Value) (hw : ∀ d ∈ tables_1, d.before a0 Z = true) (ws : List Jvm.Cond) (p1 : Int32) (h0 : Heap) (n0 : Nat) (Z0 : n0 ≤ h0.size) :
    MetFree l (⟨"com/example/policylint/policylint/PolicySyntaxOfPinLaw", "cls", "(B)I"⟩ : MethodName) (head1 (Jvm.Cond.code (⟨"com/example/policylint/policylint/PolicySyntaxOfPinLaw", "cls", "(B)I"⟩ : MethodName) method_3_code 2 (some .int) :: ws) ({ frames := 0, cells := 0, slots := 0, locals := 0 } : Room)) (fun a U => a = #[(.int p1)] ∧ Z.Warmed39 U.vm ∧ U.heap = h0) (fun _ _ _ _ _ => True) (fun _ U o U' => ∃ v L, o = .returned v ∧ QK n0 (Kv (some (.int (b3_0 p1))) (fun h => h = h0)) v U'.heap L ∧ FrameEnd U o U' L ({ frames := 0, cells := 0, slots := 0, locals := 0 } : Room).cells ({ frames := 0, cells := 0, slots := 0, locals := 0 } : Room).slots) := by
  refine MetFree.of_bodySF (plainFor_of_name pn_0) hisR ?_
  intro p e s m args below meth c s₁ Bd hml0 hP hK
  obtain ⟨rfl, hZ, hh⟩ := hP
  have hx := Bd.exec
  have hby := Bd.bytes
  have hml : c.maxLocals = 2 := hml0
  have hown : s.vm.findClass "com/example/policylint/policylint/PolicySyntaxOfPinLaw" = some m.cls := findClass_of_methodNamed Bd.named
  have hnm := (name_of_methodNamed Bd.named Bd.method).1
  have X0 : Stand p l e ({ frames := 0, cells := 0, slots := 0, locals := 0 } : Room) s m #[(.int p1)] below meth c s₁ [] 0 0 := Stand.of_body Bd
  have e0 : s₁.heap = h0 := by rw [← hh, Bd.state]; rfl
  have N0 := Fr.nil n0
  refine gl_start (ef_3 m p1) ?_
  show Gl p e below s n0 ({ frames := 0, cells := 0, slots := 0, locals := 0 } : Room).cells ({ frames := 0, cells := 0, slots := 0, locals := 0 } : Room).slots (Kv (some (.int (if (p1 &&& (255 : Int32)) = (60 : Int32) then (0 : Int32) else (if (p1 &&& (255 : Int32)) = (32 : Int32) then b3_77 else (if (p1 &&& (255 : Int32)) = (9 : Int32) then b3_77 else (if (p1 &&& (255 : Int32)) = (13 : Int32) then b3_77 else (if (p1 &&& (255 : Int32)) = (10 : Int32) then b3_77 else (if (p1 &&& (255 : Int32)) = (0 : Int32) then b3_77 else (if (p1 &&& (255 : Int32)) = (239 : Int32) then b3_77 else (if (p1 &&& (255 : Int32)) = (187 : Int32) then b3_77 else (if (p1 &&& (255 : Int32)) = (191 : Int32) then b3_77 else (if (p1 &&& (255 : Int32)) = (254 : Int32) then b3_77 else (if (p1 &&& (255 : Int32)) = (255 : Int32) then b3_77 else (2 : Int32)))))))))))))) (fun h => h = h0)) (s₁.setTop (mkF m 0 #[.val (.int p1), .unset] []))
  refine go (fun t k => XS.iloadN X0.here hx rfl (hb hby d3_0) rfl  k) ?_
  show Gl _ _ _ _ _ _ _ _ (s₁.setTop (mkF m 1 #[.val (.int p1), .unset] [(.int p1)]))
  refine go (fun t k => XS.sipush X0.here hx rfl (hb hby d3_1) k) ?_
  show Gl _ _ _ _ _ _ _ _ (s₁.setTop (mkF m 4 #[.val (.int p1), .unset] [(.int (255 : Int32)), (.int p1)]))
  refine go (fun t k => XS.iand X0.here hx rfl (hb hby d3_4) rfl k) ?_
  show Gl _ _ _ _ _ _ _ _ (s₁.setTop (mkF m 5 #[.val (.int p1), .unset] [(.int (p1 &&& (255 : Int32)))]))
  refine go (fun t k => XS.istoreN X0.here hx rfl (hb hby d3_5) rfl (l' := #[.val (.int p1), .val (.int (p1 &&& (255 : Int32)))]) rfl k) ?_
  show Gl _ _ _ _ _ _ _ _ (s₁.setTop (mkF m 6 #[.val (.int p1), .val (.int (p1 &&& (255 : Int32)))] []))
  refine go (fun t k => XS.iloadN X0.here hx rfl (hb hby d3_6) rfl  k) ?_
  show Gl _ _ _ _ _ _ _ _ (s₁.setTop (mkF m 7 #[.val (.int p1), .val (.int (p1 &&& (255 : Int32)))] [(.int (p1 &&& (255 : Int32)))]))
  refine go (fun t k => XS.bipush X0.here hx rfl (hb hby d3_7) k) ?_
  show Gl _ _ _ _ _ _ _ _ (s₁.setTop (mkF m 9 #[.val (.int p1), .val (.int (p1 &&& (255 : Int32)))] [(.int (60 : Int32)), (.int (p1 &&& (255 : Int32)))]))
  refine gI (c := (p1 &&& (255 : Int32)) = (60 : Int32)) (fun hc9 => ?_) (fun hc9 => ?_)
  · refine go (fun t k => XS.icmpNo X0.here hx rfl (hb hby d3_9) rfl (teq hc9).2 k) ?_
    show Gl _ _ _ _ _ _ _ _ (s₁.setTop (mkF m 12 #[.val (.int p1), .val (.int (p1 &&& (255 : Int32)))] []))
    refine go (fun t k => XS.iconst X0.here hx rfl (hb hby d3_12) k) ?_
    show Gl _ _ _ _ _ _ _ _ (s₁.setTop (mkF m 13 #[.val (.int p1), .val (.int (p1 &&& (255 : Int32)))] [(.int (0 : Int32))]))
    exact endI X0 hx Bd (hb hby d3_13) ⟨rfl, e0⟩ N0 (by decide) (by decide)
  · refine go (fun t k => XS.icmpYes X0.here hx rfl (pc0 := 9) (pc' := 14) rfl (hb hby d3_9) rfl (feq hc9).2 (by decide) (by decide) k) ?_
    show Gl _ _ _ _ _ _ _ _ (s₁.setTop (mkF m 14 #[.val (.int p1), .val (.int (p1 &&& (255 : Int32)))] []))
    refine go (fun t k => XS.iloadN X0.here hx rfl (hb hby d3_14) rfl  k) ?_
    show Gl _ _ _ _ _ _ _ _ (s₁.setTop (mkF m 15 #[.val (.int p1), .val (.int (p1 &&& (255 : Int32)))] [(.int (p1 &&& (255 : Int32)))]))
    refine go (fun t k => XS.bipush X0.here hx rfl (hb hby d3_15) k) ?_
    show Gl _ _ _ _ _ _ _ _ (s₁.setTop (mkF m 17 #[.val (.int p1), .val (.int (p1 &&& (255 : Int32)))] [(.int (32 : Int32)), (.int (p1 &&& (255 : Int32)))]))
    have J77 : ∀  (TJ77 : State) (lJ77 : List Loc) (XJ77 : Stand p l e ({ frames := 0, cells := 0, slots := 0, locals := 0 } : Room) s m #[(.int p1)] below meth c TJ77 lJ77 0 0) (eJ77 : TJ77.heap = h0) (NJ77 : Fr n0 lJ77), Gl p e below s n0 ({ frames := 0, cells := 0, slots := 0, locals := 0 } : Room).cells ({ frames := 0, cells := 0, slots := 0, locals := 0 } : Room).slots (Kv (some (.int b3_77)) (fun h => h = h0)) (TJ77.setTop (mkF m 77 #[.val (.int p1), .val (.int (p1 &&& (255 : Int32)))] [])) := by
      intro  TJ77 lJ77 XJ77 eJ77 NJ77
      show Gl _ _ _ _ _ _ _ (Kv (some (.int (1 : Int32))) _) _
      refine go (fun t k => XS.iconst XJ77.here hx rfl (hb hby d3_77) k) ?_
      show Gl _ _ _ _ _ _ _ _ (TJ77.setTop (mkF m 78 #[.val (.int p1), .val (.int (p1 &&& (255 : Int32)))] [(.int (1 : Int32))]))
      exact endI XJ77 hx Bd (hb hby d3_78) ⟨rfl, eJ77⟩ NJ77 (by decide) (by decide)
    refine gI (c := (p1 &&& (255 : Int32)) = (32 : Int32)) (fun hc17 => ?_) (fun hc17 => ?_)
    · refine go (fun t k => XS.icmpYes X0.here hx rfl (pc0 := 17) (pc' := 77) rfl (hb hby d3_17) rfl (teq hc17).1 (by decide) (by decide) k) ?_
      show Gl _ _ _ _ _ _ _ _ (s₁.setTop (mkF m 77 #[.val (.int p1), .val (.int (p1 &&& (255 : Int32)))] []))
      exact J77  s₁ _ X0 e0 N0
    · refine go (fun t k => XS.icmpNo X0.here hx rfl (hb hby d3_17) rfl (feq hc17).1 k) ?_
      show Gl _ _ _ _ _ _ _ _ (s₁.setTop (mkF m 20 #[.val (.int p1), .val (.int (p1 &&& (255 : Int32)))] []))
      refine go (fun t k => XS.iloadN X0.here hx rfl (hb hby d3_20) rfl  k) ?_
      show Gl _ _ _ _ _ _ _ _ (s₁.setTop (mkF m 21 #[.val (.int p1), .val (.int (p1 &&& (255 : Int32)))] [(.int (p1 &&& (255 : Int32)))]))
      refine go (fun t k => XS.bipush X0.here hx rfl (hb hby d3_21) k) ?_
      show Gl _ _ _ _ _ _ _ _ (s₁.setTop (mkF m 23 #[.val (.int p1), .val (.int (p1 &&& (255 : Int32)))] [(.int (9 : Int32)), (.int (p1 &&& (255 : Int32)))]))
      refine gI (c := (p1 &&& (255 : Int32)) = (9 : Int32)) (fun hc23 => ?_) (fun hc23 => ?_)
      · refine go (fun t k => XS.icmpYes X0.here hx rfl (pc0 := 23) (pc' := 77) rfl (hb hby d3_23) rfl (teq hc23).1 (by decide) (by decide) k) ?_
        show Gl _ _ _ _ _ _ _ _ (s₁.setTop (mkF m 77 #[.val (.int p1), .val (.int (p1 &&& (255 : Int32)))] []))
        exact J77  s₁ _ X0 e0 N0
      · refine go (fun t k => XS.icmpNo X0.here hx rfl (hb hby d3_23) rfl (feq hc23).1 k) ?_
        show Gl _ _ _ _ _ _ _ _ (s₁.setTop (mkF m 26 #[.val (.int p1), .val (.int (p1 &&& (255 : Int32)))] []))
        refine go (fun t k => XS.iloadN X0.here hx rfl (hb hby d3_26) rfl  k) ?_
        show Gl _ _ _ _ _ _ _ _ (s₁.setTop (mkF m 27 #[.val (.int p1), .val (.int (p1 &&& (255 : Int32)))] [(.int (p1 &&& (255 : Int32)))]))
        refine go (fun t k => XS.bipush X0.here hx rfl (hb hby d3_27) k) ?_
        show Gl _ _ _ _ _ _ _ _ (s₁.setTop (mkF m 29 #[.val (.int p1), .val (.int (p1 &&& (255 : Int32)))] [(.int (13 : Int32)), (.int (p1 &&& (255 : Int32)))]))
        refine gI (c := (p1 &&& (255 : Int32)) = (13 : Int32)) (fun hc29 => ?_) (fun hc29 => ?_)
        · refine go (fun t k => XS.icmpYes X0.here hx rfl (pc0 := 29) (pc' := 77) rfl (hb hby d3_29) rfl (teq hc29).1 (by decide) (by decide) k) ?_
          show Gl _ _ _ _ _ _ _ _ (s₁.setTop (mkF m 77 #[.val (.int p1), .val (.int (p1 &&& (255 : Int32)))] []))
          exact J77  s₁ _ X0 e0 N0
        · refine go (fun t k => XS.icmpNo X0.here hx rfl (hb hby d3_29) rfl (feq hc29).1 k) ?_
          show Gl _ _ _ _ _ _ _ _ (s₁.setTop (mkF m 32 #[.val (.int p1), .val (.int (p1 &&& (255 : Int32)))] []))
          refine go (fun t k => XS.iloadN X0.here hx rfl (hb hby d3_32) rfl  k) ?_
          show Gl _ _ _ _ _ _ _ _ (s₁.setTop (mkF m 33 #[.val (.int p1), .val (.int (p1 &&& (255 : Int32)))] [(.int (p1 &&& (255 : Int32)))]))
          refine go (fun t k => XS.bipush X0.here hx rfl (hb hby d3_33) k) ?_
          show Gl _ _ _ _ _ _ _ _ (s₁.setTop (mkF m 35 #[.val (.int p1), .val (.int (p1 &&& (255 : Int32)))] [(.int (10 : Int32)), (.int (p1 &&& (255 : Int32)))]))
          refine gI (c := (p1 &&& (255 : Int32)) = (10 : Int32)) (fun hc35 => ?_) (fun hc35 => ?_)
          · refine go (fun t k => XS.icmpYes X0.here hx rfl (pc0 := 35) (pc' := 77) rfl (hb hby d3_35) rfl (teq hc35).1 (by decide) (by decide) k) ?_
            show Gl _ _ _ _ _ _ _ _ (s₁.setTop (mkF m 77 #[.val (.int p1), .val (.int (p1 &&& (255 : Int32)))] []))
            exact J77  s₁ _ X0 e0 N0
          · refine go (fun t k => XS.icmpNo X0.here hx rfl (hb hby d3_35) rfl (feq hc35).1 k) ?_
            show Gl _ _ _ _ _ _ _ _ (s₁.setTop (mkF m 38 #[.val (.int p1), .val (.int (p1 &&& (255 : Int32)))] []))
            refine go (fun t k => XS.iloadN X0.here hx rfl (hb hby d3_38) rfl  k) ?_
            show Gl _ _ _ _ _ _ _ _ (s₁.setTop (mkF m 39 #[.val (.int p1), .val (.int (p1 &&& (255 : Int32)))] [(.int (p1 &&& (255 : Int32)))]))
            refine gI (c := (p1 &&& (255 : Int32)) = (0 : Int32)) (fun hc39 => ?_) (fun hc39 => ?_)
            · refine go (fun t k => XS.ifYes X0.here hx rfl (pc0 := 39) (pc' := 77) rfl (hb hby d3_39) rfl ((if0 _ _).trans (teq hc39).1) (by decide) (by decide) k) ?_
              show Gl _ _ _ _ _ _ _ _ (s₁.setTop (mkF m 77 #[.val (.int p1), .val (.int (p1 &&& (255 : Int32)))] []))
              exact J77  s₁ _ X0 e0 N0
            · refine go (fun t k => XS.ifNo X0.here hx rfl (hb hby d3_39) rfl ((if0 _ _).trans (feq hc39).1) k) ?_
              show Gl _ _ _ _ _ _ _ _ (s₁.setTop (mkF m 42 #[.val (.int p1), .val (.int (p1 &&& (255 : Int32)))] []))
              refine go (fun t k => XS.iloadN X0.here hx rfl (hb hby d3_42) rfl  k) ?_
              show Gl _ _ _ _ _ _ _ _ (s₁.setTop (mkF m 43 #[.val (.int p1), .val (.int (p1 &&& (255 : Int32)))] [(.int (p1 &&& (255 : Int32)))]))
              refine go (fun t k => XS.sipush X0.here hx rfl (hb hby d3_43) k) ?_
              show Gl _ _ _ _ _ _ _ _ (s₁.setTop (mkF m 46 #[.val (.int p1), .val (.int (p1 &&& (255 : Int32)))] [(.int (239 : Int32)), (.int (p1 &&& (255 : Int32)))]))
              refine gI (c := (p1 &&& (255 : Int32)) = (239 : Int32)) (fun hc46 => ?_) (fun hc46 => ?_)
              · refine go (fun t k => XS.icmpYes X0.here hx rfl (pc0 := 46) (pc' := 77) rfl (hb hby d3_46) rfl (teq hc46).1 (by decide) (by decide) k) ?_
                show Gl _ _ _ _ _ _ _ _ (s₁.setTop (mkF m 77 #[.val (.int p1), .val (.int (p1 &&& (255 : Int32)))] []))
                exact J77  s₁ _ X0 e0 N0
              · refine go (fun t k => XS.icmpNo X0.here hx rfl (hb hby d3_46) rfl (feq hc46).1 k) ?_
                show Gl _ _ _ _ _ _ _ _ (s₁.setTop (mkF m 49 #[.val (.int p1), .val (.int (p1 &&& (255 : Int32)))] []))
                refine go (fun t k => XS.iloadN X0.here hx rfl (hb hby d3_49) rfl  k) ?_
                show Gl _ _ _ _ _ _ _ _ (s₁.setTop (mkF m 50 #[.val (.int p1), .val (.int (p1 &&& (255 : Int32)))] [(.int (p1 &&& (255 : Int32)))]))
                refine go (fun t k => XS.sipush X0.here hx rfl (hb hby d3_50) k) ?_
                show Gl _ _ _ _ _ _ _ _ (s₁.setTop (mkF m 53 #[.val (.int p1), .val (.int (p1 &&& (255 : Int32)))] [(.int (187 : Int32)), (.int (p1 &&& (255 : Int32)))]))
                refine gI (c := (p1 &&& (255 : Int32)) = (187 : Int32)) (fun hc53 => ?_) (fun hc53 => ?_)
                · refine go (fun t k => XS.icmpYes X0.here hx rfl (pc0 := 53) (pc' := 77) rfl (hb hby d3_53) rfl (teq hc53).1 (by decide) (by decide) k) ?_
                  show Gl _ _ _ _ _ _ _ _ (s₁.setTop (mkF m 77 #[.val (.int p1), .val (.int (p1 &&& (255 : Int32)))] []))
                  exact J77  s₁ _ X0 e0 N0
                · refine go (fun t k => XS.icmpNo X0.here hx rfl (hb hby d3_53) rfl (feq hc53).1 k) ?_
                  show Gl _ _ _ _ _ _ _ _ (s₁.setTop (mkF m 56 #[.val (.int p1), .val (.int (p1 &&& (255 : Int32)))] []))
                  refine go (fun t k => XS.iloadN X0.here hx rfl (hb hby d3_56) rfl  k) ?_
                  show Gl _ _ _ _ _ _ _ _ (s₁.setTop (mkF m 57 #[.val (.int p1), .val (.int (p1 &&& (255 : Int32)))] [(.int (p1 &&& (255 : Int32)))]))
                  refine go (fun t k => XS.sipush X0.here hx rfl (hb hby d3_57) k) ?_
                  show Gl _ _ _ _ _ _ _ _ (s₁.setTop (mkF m 60 #[.val (.int p1), .val (.int (p1 &&& (255 : Int32)))] [(.int (191 : Int32)), (.int (p1 &&& (255 : Int32)))]))
                  refine gI (c := (p1 &&& (255 : Int32)) = (191 : Int32)) (fun hc60 => ?_) (fun hc60 => ?_)
                  · refine go (fun t k => XS.icmpYes X0.here hx rfl (pc0 := 60) (pc' := 77) rfl (hb hby d3_60) rfl (teq hc60).1 (by decide) (by decide) k) ?_
                    show Gl _ _ _ _ _ _ _ _ (s₁.setTop (mkF m 77 #[.val (.int p1), .val (.int (p1 &&& (255 : Int32)))] []))
                    exact J77  s₁ _ X0 e0 N0
                  · refine go (fun t k => XS.icmpNo X0.here hx rfl (hb hby d3_60) rfl (feq hc60).1 k) ?_
                    show Gl _ _ _ _ _ _ _ _ (s₁.setTop (mkF m 63 #[.val (.int p1), .val (.int (p1 &&& (255 : Int32)))] []))
                    refine go (fun t k => XS.iloadN X0.here hx rfl (hb hby d3_63) rfl  k) ?_
                    show Gl _ _ _ _ _ _ _ _ (s₁.setTop (mkF m 64 #[.val (.int p1), .val (.int (p1 &&& (255 : Int32)))] [(.int (p1 &&& (255 : Int32)))]))
                    refine go (fun t k => XS.sipush X0.here hx rfl (hb hby d3_64) k) ?_
                    show Gl _ _ _ _ _ _ _ _ (s₁.setTop (mkF m 67 #[.val (.int p1), .val (.int (p1 &&& (255 : Int32)))] [(.int (254 : Int32)), (.int (p1 &&& (255 : Int32)))]))
                    refine gI (c := (p1 &&& (255 : Int32)) = (254 : Int32)) (fun hc67 => ?_) (fun hc67 => ?_)
                    · refine go (fun t k => XS.icmpYes X0.here hx rfl (pc0 := 67) (pc' := 77) rfl (hb hby d3_67) rfl (teq hc67).1 (by decide) (by decide) k) ?_
                      show Gl _ _ _ _ _ _ _ _ (s₁.setTop (mkF m 77 #[.val (.int p1), .val (.int (p1 &&& (255 : Int32)))] []))
                      exact J77  s₁ _ X0 e0 N0
                    · refine go (fun t k => XS.icmpNo X0.here hx rfl (hb hby d3_67) rfl (feq hc67).1 k) ?_
                      show Gl _ _ _ _ _ _ _ _ (s₁.setTop (mkF m 70 #[.val (.int p1), .val (.int (p1 &&& (255 : Int32)))] []))
                      refine go (fun t k => XS.iloadN X0.here hx rfl (hb hby d3_70) rfl  k) ?_
                      show Gl _ _ _ _ _ _ _ _ (s₁.setTop (mkF m 71 #[.val (.int p1), .val (.int (p1 &&& (255 : Int32)))] [(.int (p1 &&& (255 : Int32)))]))
                      refine go (fun t k => XS.sipush X0.here hx rfl (hb hby d3_71) k) ?_
                      show Gl _ _ _ _ _ _ _ _ (s₁.setTop (mkF m 74 #[.val (.int p1), .val (.int (p1 &&& (255 : Int32)))] [(.int (255 : Int32)), (.int (p1 &&& (255 : Int32)))]))
                      refine gI (c := (p1 &&& (255 : Int32)) = (255 : Int32)) (fun hc74 => ?_) (fun hc74 => ?_)
                      · refine go (fun t k => XS.icmpNo X0.here hx rfl (hb hby d3_74) rfl (teq hc74).2 k) ?_
                        show Gl _ _ _ _ _ _ _ _ (s₁.setTop (mkF m 77 #[.val (.int p1), .val (.int (p1 &&& (255 : Int32)))] []))
                        exact J77  s₁ _ X0 e0 N0
                      · refine go (fun t k => XS.icmpYes X0.here hx rfl (pc0 := 74) (pc' := 79) rfl (hb hby d3_74) rfl (feq hc74).2 (by decide) (by decide) k) ?_
                        show Gl _ _ _ _ _ _ _ _ (s₁.setTop (mkF m 79 #[.val (.int p1), .val (.int (p1 &&& (255 : Int32)))] []))
                        refine go (fun t k => XS.iconst X0.here hx rfl (hb hby d3_79) k) ?_
                        show Gl _ _ _ _ _ _ _ _ (s₁.setTop (mkF m 80 #[.val (.int p1), .val (.int (p1 &&& (255 : Int32)))] [(.int (2 : Int32))]))
                        exact endI X0 hx Bd (hb hby d3_80) ⟨rfl, e0⟩ N0 (by decide) (by decide)
theorem pd_0 : parseMethodDescriptor "(B)I" = some ⟨[.byte], some .int⟩ := by decide +kernel
theorem d4_0 : decode method_4_code 0 = .ok (.iload_n 0, 1) := by decide +kernel
theorem d4_1 : decode method_4_code 1 = .ok (.invokestatic 7, 3) := by decide +kernel
theorem d4_4 : decode method_4_code 4 = .ok (.ifCond .ne 7, 3) := by decide +kernel
theorem d4_7 : decode method_4_code 7 = .ok (.getstatic 13, 3) := by decide +kernel
theorem d4_10 : decode method_4_code 10 = .ok (.areturn, 1) := by decide +kernel
theorem d4_11 : decode method_4_code 11 = .ok (.getstatic 19, 3) := by decide +kernel
theorem d4_14 : decode method_4_code 14 = .ok (.areturn, 1) := by decide +kernel
theorem ef_4 (m : MethodId) (p1 : Int32) : entryFrame m #[(.int p1)] 1 = mkF m 0 #[.val (.int p1)] [] := by first | (simp [entryFrame, mkF, argsToLocals, Value.category]; done) | rfl
def b4_0 (p1 : Int32) (w_XACML : Addr) (w_COMPACT : Addr) : Addr := (if (b3_0 p1) = (0 : Int32) then w_XACML else w_COMPACT)
set_option maxRecDepth 65536 in
set_option maxHeartbeats 40000000 in
theorem rm4 (l : Launch) (Z : State) (a0 : Array Value) (hw : ∀ d ∈ tables_1, d.before a0 Z = true) (ws : List Jvm.Cond) (p1 : Int32) (w_XACML : Addr) (w_COMPACT : Addr) (h0 : Heap) (n0 : Nat) (Z0 : n0 ≤ h0.size) (S_XACML : Sta Z h0 "com/example/policylint/policylint/PolicySyntax" "XACML" "Lcom/example/policylint/policylint/PolicySyntax;" (.ref w_XACML)) (S_COMPACT : Sta Z h0 "com/example/policylint/policylint/PolicySyntax" "COMPACT" "Lcom/example/policylint/policylint/PolicySyntax;" (.ref w_COMPACT)) :
    MetFree l (⟨"com/example/policylint/policylint/PolicySyntaxOfPinLaw", "verdict", "(B)Lcom/example/policylint/policylint/PolicySyntax;"⟩ : MethodName) (head1 (Jvm.Cond.code (⟨"com/example/policylint/policylint/PolicySyntaxOfPinLaw", "verdict", "(B)Lcom/example/policylint/policylint/PolicySyntax;"⟩ : MethodName) method_4_code 1 (some (.object "com/example/policylint/policylint/PolicySyntax")) :: ws) ({ frames := 1, cells := 0, slots := 0, locals := 13 } : Room)) (fun a U => a = #[(.int p1)] ∧ Z.Warmed39 U.vm ∧ U.heap = h0) (fun _ _ _ _ _ => True) (fun _ U o U' => ∃ v L, o = .returned v ∧ QK n0 (Kv (some (.ref (b4_0 p1 w_XACML w_COMPACT))) (fun h => h = h0)) v U'.heap L ∧ FrameEnd U o U' L ({ frames := 1, cells := 0, slots := 0, locals := 13 } : Room).cells ({ frames := 1, cells := 0, slots := 0, locals := 13 } : Room).slots) := by
  refine MetFree.of_bodySF (plainFor_of_name pn_0) hisR ?_
  intro p e s m args below meth c s₁ Bd hml0 hP hK
  obtain ⟨rfl, hZ, hh⟩ := hP
  have hx := Bd.exec
  have hby := Bd.bytes
  have hml : c.maxLocals = 1 := hml0
  have hown : s.vm.findClass "com/example/policylint/policylint/PolicySyntaxOfPinLaw" = some m.cls := findClass_of_methodNamed Bd.named
  have hnm := (name_of_methodNamed Bd.named Bd.method).1
  have X0 : Stand p l e ({ frames := 1, cells := 0, slots := 0, locals := 13 } : Room) s m #[(.int p1)] below meth c s₁ [] 0 0 := Stand.of_body Bd
  have e0 : s₁.heap = h0 := by rw [← hh, Bd.state]; rfl
  have N0 := Fr.nil n0
  refine gl_start (ef_4 m p1) ?_
  show Gl p e below s n0 ({ frames := 1, cells := 0, slots := 0, locals := 13 } : Room).cells ({ frames := 1, cells := 0, slots := 0, locals := 13 } : Room).slots (Kv (some (.ref (if (b3_0 p1) = (0 : Int32) then w_XACML else w_COMPACT))) (fun h => h = h0)) (s₁.setTop (mkF m 0 #[.val (.int p1)] []))
  refine go (fun t k => XS.iloadN X0.here hx rfl (hb hby d4_0) rfl  k) ?_
  show Gl _ _ _ _ _ _ _ _ (s₁.setTop (mkF m 1 #[.val (.int p1)] [(.int p1)]))
  obtain ⟨_, _, ⟨T1, L1, k1, n1⟩, -, X1, ⟨Lc1, hQ1, l1, y1, z1⟩, st1⟩ := Jvm.LawKit.callS X0 hx (y := (⟨"com/example/policylint/policylint/PolicySyntaxOfPinLaw", "cls", "(B)I"⟩ : MethodName)) hown (mvT hZ (hw _ (List.mem_of_getElem? (i := 13) rfl))) (mvT hZ (hw _ (List.mem_of_getElem? (i := 14) rfl))) (mvT hZ (hw _ (List.mem_of_getElem? (i := 3) rfl))) (mvT hZ (hw _ (List.mem_of_getElem? (i := 15) rfl))) (by decide) (backOf (W := 0) (rm3 l Z a0 hw [] p1 h0 n0 Z0 ) hZ (hw _ (List.mem_of_getElem? (i := 15) rfl)) (hw _ (List.mem_of_getElem? (i := 3) rfl)) (by decide) (by decide)) (g := (mkF m 1 #[.val (.int p1)] [(.int p1)])) rfl (by rw [hml]; rfl) (argsL := [(.int p1)]) (rest := []) (lenOf pd_0 rfl) rfl (by show 2 * 0 + _ ≤ _; exact Nat.le_of_eq rfl) (hb hby d4_1) (fun _ _ => ⟨rfl, e0, (by decide : 0 + 0 ≤ _), (by decide : 0 + 0 ≤ _)⟩)
  dsimp only [Pt.U, Pt.locs, Pt.cells, Pt.slots] at X1 l1 y1 z1 st1 hQ1
  subst l1 y1 z1
  have X1 : Stand p l e ({ frames := 1, cells := 0, slots := 0, locals := 13 } : Room) s m #[(.int p1)] below meth c T1 _ 0 0 := X1
  obtain ⟨⟨rfl, e1'⟩, N1q⟩ := hQ1
  have e1 : T1.heap = h0 := e1'
  have N1 := Fr.app N0 N1q
  refine go (fun t k => st1 _ k) ?_
  show Gl _ _ _ _ _ _ _ _ (T1.setTop (mkF m 4 #[.val (.int p1)] [(.int (b3_0 p1))]))
  refine gR (c := (b3_0 p1) = (0 : Int32)) (fun hc4 => ?_) (fun hc4 => ?_)
  · refine go (fun t k => XS.ifNo X1.here hx rfl (hb hby d4_4) rfl ((if0 _ _).trans (teq hc4).2) k) ?_
    show Gl _ _ _ _ _ _ _ _ (T1.setTop (mkF m 7 #[.val (.int p1)] []))
    obtain ⟨T2, X2, e2, st2⟩ := getS2 X1 hx hZ hown (host := "") (Or.inl (hw _ (List.mem_of_getElem? (i := 19) rfl))) Via.refl e1 S_XACML (g := (mkF m 7 #[.val (.int p1)] [])) rfl (hb hby d4_7)
    refine go (fun t k => st2 _ k) ?_
    show Gl _ _ _ _ _ _ _ _ (T2.setTop (mkF m 10 #[.val (.int p1)] [(.ref w_XACML)]))
    exact endR X2 hx Bd rfl (hb hby d4_10) ⟨rfl, e2⟩ N1 (by decide) (by decide)
  · refine go (fun t k => XS.ifYes X1.here hx rfl (pc0 := 4) (pc' := 11) rfl (hb hby d4_4) rfl ((if0 _ _).trans (feq hc4).2) (by decide) (by decide) k) ?_
    show Gl _ _ _ _ _ _ _ _ (T1.setTop (mkF m 11 #[.val (.int p1)] []))
    obtain ⟨T3, X3, e3, st3⟩ := getS2 X1 hx hZ hown (host := "") (Or.inl (hw _ (List.mem_of_getElem? (i := 22) rfl))) Via.refl e1 S_COMPACT (g := (mkF m 11 #[.val (.int p1)] [])) rfl (hb hby d4_11)
    refine go (fun t k => st3 _ k) ?_
    show Gl _ _ _ _ _ _ _ _ (T3.setTop (mkF m 14 #[.val (.int p1)] [(.ref w_COMPACT)]))
    exact endR X3 hx Bd rfl (hb hby d4_14) ⟨rfl, e3⟩ N1 (by decide) (by decide)
theorem pd_1 : parseMethodDescriptor "(I)B" = some ⟨[.int], some .byte⟩ := by decide +kernel
theorem pd_2 : parseMethodDescriptor "([B)Lcom/example/policylint/policylint/PolicySyntax;" = some ⟨[(.array .byte)], some (.object "com/example/policylint/policylint/PolicySyntax")⟩ := by decide +kernel
theorem pd_3 : parseMethodDescriptor "(B)Lcom/example/policylint/policylint/PolicySyntax;" = some ⟨[.byte], some (.object "com/example/policylint/policylint/PolicySyntax")⟩ := by decide +kernel
theorem ef_0 (m : MethodId) (p1 : Int32) (p2 : Int32) (p3 : Int32) (p4 : Int32) (p5 : Int32) : entryFrame m #[(.int p1), (.int p2), (.int p3), (.int p4), (.int p5)] maxLocals = mkF m 0 #[.val (.int p1), .val (.int p2), .val (.int p3), .val (.int p4), .val (.int p5), .unset, .unset, .unset, .unset, .unset, .unset, .unset, .unset] [] := by first | (simp [entryFrame, mkF, argsToLocals, Value.category, maxLocals]; done) | rfl
def b0_266 (s0_266 : Int32) : Int32 := (nar .boolean s0_266)
def b0_247 (w_BLANK : Addr) (v11_247 : Addr) : Int32 := (if (b2t0_0 w_BLANK) = v11_247 then (b0_266 (1 : Int32)) else (b0_266 (0 : Int32)))
def b0_242 (w_BLANK : Addr) : Int32 := (b0_247 w_BLANK w_BLANK)
def b0_217 (p4 : Int32) (p5 : Int32) (w_XACML : Addr) (w_COMPACT : Addr) (w_BLANK : Addr) : Int32 := (if (3 : Int32) < ((p5 &&& (2147483647 : Int32)) % (5 : Int32)) then (if (b3_0 (b1_0 p4)) = (1 : Int32) then (b0_242 w_BLANK) else (b0_247 w_BLANK (b4_0 (b1_0 p4) w_XACML w_COMPACT))) else (b0_242 w_BLANK))
def b0_192 (p3 : Int32) (p4 : Int32) (p5 : Int32) (w_XACML : Addr) (w_COMPACT : Addr) (w_BLANK : Addr) : Int32 := (if (2 : Int32) < ((p5 &&& (2147483647 : Int32)) % (5 : Int32)) then (if (b3_0 (b1_0 p3)) = (1 : Int32) then (b0_217 p4 p5 w_XACML w_COMPACT w_BLANK) else (b0_247 w_BLANK (b4_0 (b1_0 p3) w_XACML w_COMPACT))) else (b0_217 p4 p5 w_XACML w_COMPACT w_BLANK))
def b0_167 (p2 : Int32) (p3 : Int32) (p4 : Int32) (p5 : Int32) (w_XACML : Addr) (w_COMPACT : Addr) (w_BLANK : Addr) : Int32 := (if (1 : Int32) < ((p5 &&& (2147483647 : Int32)) % (5 : Int32)) then (if (b3_0 (b1_0 p2)) = (1 : Int32) then (b0_192 p3 p4 p5 w_XACML w_COMPACT w_BLANK) else (b0_247 w_BLANK (b4_0 (b1_0 p2) w_XACML w_COMPACT))) else (b0_192 p3 p4 p5 w_XACML w_COMPACT w_BLANK))
def b0_266x2 (s0_266 : Int32) : Int32 := (nar .boolean s0_266)
def b0_247x2 (p1 : Int32) (w_XACML : Addr) (w_COMPACT : Addr) (w_BLANK : Addr) (v11_247 : Addr) : Int32 := (if (b2t1_0 w_XACML w_COMPACT w_BLANK (nar .byte (b1_0 p1))) = v11_247 then (b0_266x2 (1 : Int32)) else (b0_266x2 (0 : Int32)))
def b0_242x2 (p1 : Int32) (w_XACML : Addr) (w_COMPACT : Addr) (w_BLANK : Addr) : Int32 := (b0_247x2 p1 w_XACML w_COMPACT w_BLANK w_BLANK)
def b0_217x2 (p1 : Int32) (p4 : Int32) (p5 : Int32) (w_XACML : Addr) (w_COMPACT : Addr) (w_BLANK : Addr) : Int32 := (if (3 : Int32) < ((p5 &&& (2147483647 : Int32)) % (5 : Int32)) then (if (b3_0 (b1_0 p4)) = (1 : Int32) then (b0_242x2 p1 w_XACML w_COMPACT w_BLANK) else (b0_247x2 p1 w_XACML w_COMPACT w_BLANK (b4_0 (b1_0 p4) w_XACML w_COMPACT))) else (b0_242x2 p1 w_XACML w_COMPACT w_BLANK))
def b0_192x2 (p1 : Int32) (p3 : Int32) (p4 : Int32) (p5 : Int32) (w_XACML : Addr) (w_COMPACT : Addr) (w_BLANK : Addr) : Int32 := (if (2 : Int32) < ((p5 &&& (2147483647 : Int32)) % (5 : Int32)) then (if (b3_0 (b1_0 p3)) = (1 : Int32) then (b0_217x2 p1 p4 p5 w_XACML w_COMPACT w_BLANK) else (b0_247x2 p1 w_XACML w_COMPACT w_BLANK (b4_0 (b1_0 p3) w_XACML w_COMPACT))) else (b0_217x2 p1 p4 p5 w_XACML w_COMPACT w_BLANK))
def b0_167x2 (p1 : Int32) (p2 : Int32) (p3 : Int32) (p4 : Int32) (p5 : Int32) (w_XACML : Addr) (w_COMPACT : Addr) (w_BLANK : Addr) : Int32 := (if (1 : Int32) < ((p5 &&& (2147483647 : Int32)) % (5 : Int32)) then (if (b3_0 (b1_0 p2)) = (1 : Int32) then (b0_192x2 p1 p3 p4 p5 w_XACML w_COMPACT w_BLANK) else (b0_247x2 p1 w_XACML w_COMPACT w_BLANK (b4_0 (b1_0 p2) w_XACML w_COMPACT))) else (b0_192x2 p1 p3 p4 p5 w_XACML w_COMPACT w_BLANK))
def b0_266x3 (s0_266 : Int32) : Int32 := (nar .boolean s0_266)
def b0_247x3 (p1 : Int32) (p2 : Int32) (w_XACML : Addr) (w_COMPACT : Addr) (w_BLANK : Addr) (v11_247 : Addr) : Int32 := (if (b2t2_0 w_XACML w_COMPACT w_BLANK (nar .byte (b1_0 p1)) (nar .byte (b1_0 p2))) = v11_247 then (b0_266x3 (1 : Int32)) else (b0_266x3 (0 : Int32)))
def b0_242x3 (p1 : Int32) (p2 : Int32) (w_XACML : Addr) (w_COMPACT : Addr) (w_BLANK : Addr) : Int32 := (b0_247x3 p1 p2 w_XACML w_COMPACT w_BLANK w_BLANK)
def b0_217x3 (p1 : Int32) (p2 : Int32) (p4 : Int32) (p5 : Int32) (w_XACML : Addr) (w_COMPACT : Addr) (w_BLANK : Addr) : Int32 := (if (3 : Int32) < ((p5 &&& (2147483647 : Int32)) % (5 : Int32)) then (if (b3_0 (b1_0 p4)) = (1 : Int32) then (b0_242x3 p1 p2 w_XACML w_COMPACT w_BLANK) else (b0_247x3 p1 p2 w_XACML w_COMPACT w_BLANK (b4_0 (b1_0 p4) w_XACML w_COMPACT))) else (b0_242x3 p1 p2 w_XACML w_COMPACT w_BLANK))
def b0_192x3 (p1 : Int32) (p2 : Int32) (p3 : Int32) (p4 : Int32) (p5 : Int32) (w_XACML : Addr) (w_COMPACT : Addr) (w_BLANK : Addr) : Int32 := (if (2 : Int32) < ((p5 &&& (2147483647 : Int32)) % (5 : Int32)) then (if (b3_0 (b1_0 p3)) = (1 : Int32) then (b0_217x3 p1 p2 p4 p5 w_XACML w_COMPACT w_BLANK) else (b0_247x3 p1 p2 w_XACML w_COMPACT w_BLANK (b4_0 (b1_0 p3) w_XACML w_COMPACT))) else (b0_217x3 p1 p2 p4 p5 w_XACML w_COMPACT w_BLANK))
def b0_167x3 (p1 : Int32) (p2 : Int32) (p3 : Int32) (p4 : Int32) (p5 : Int32) (w_XACML : Addr) (w_COMPACT : Addr) (w_BLANK : Addr) : Int32 := (if (1 : Int32) < ((p5 &&& (2147483647 : Int32)) % (5 : Int32)) then (if (b3_0 (b1_0 p2)) = (1 : Int32) then (b0_192x3 p1 p2 p3 p4 p5 w_XACML w_COMPACT w_BLANK) else (b0_247x3 p1 p2 w_XACML w_COMPACT w_BLANK (b4_0 (b1_0 p2) w_XACML w_COMPACT))) else (b0_192x3 p1 p2 p3 p4 p5 w_XACML w_COMPACT w_BLANK))
def b0_266x4 (s0_266 : Int32) : Int32 := (nar .boolean s0_266)
def b0_247x4 (p1 : Int32) (p2 : Int32) (p3 : Int32) (w_XACML : Addr) (w_COMPACT : Addr) (w_BLANK : Addr) (v11_247 : Addr) : Int32 := (if (b2t3_0 w_XACML w_COMPACT w_BLANK (nar .byte (b1_0 p1)) (nar .byte (b1_0 p2)) (nar .byte (b1_0 p3))) = v11_247 then (b0_266x4 (1 : Int32)) else (b0_266x4 (0 : Int32)))
def b0_242x4 (p1 : Int32) (p2 : Int32) (p3 : Int32) (w_XACML : Addr) (w_COMPACT : Addr) (w_BLANK : Addr) : Int32 := (b0_247x4 p1 p2 p3 w_XACML w_COMPACT w_BLANK w_BLANK)
def b0_217x4 (p1 : Int32) (p2 : Int32) (p3 : Int32) (p4 : Int32) (p5 : Int32) (w_XACML : Addr) (w_COMPACT : Addr) (w_BLANK : Addr) : Int32 := (if (3 : Int32) < ((p5 &&& (2147483647 : Int32)) % (5 : Int32)) then (if (b3_0 (b1_0 p4)) = (1 : Int32) then (b0_242x4 p1 p2 p3 w_XACML w_COMPACT w_BLANK) else (b0_247x4 p1 p2 p3 w_XACML w_COMPACT w_BLANK (b4_0 (b1_0 p4) w_XACML w_COMPACT))) else (b0_242x4 p1 p2 p3 w_XACML w_COMPACT w_BLANK))
def b0_192x4 (p1 : Int32) (p2 : Int32) (p3 : Int32) (p4 : Int32) (p5 : Int32) (w_XACML : Addr) (w_COMPACT : Addr) (w_BLANK : Addr) : Int32 := (if (2 : Int32) < ((p5 &&& (2147483647 : Int32)) % (5 : Int32)) then (if (b3_0 (b1_0 p3)) = (1 : Int32) then (b0_217x4 p1 p2 p3 p4 p5 w_XACML w_COMPACT w_BLANK) else (b0_247x4 p1 p2 p3 w_XACML w_COMPACT w_BLANK (b4_0 (b1_0 p3) w_XACML w_COMPACT))) else (b0_217x4 p1 p2 p3 p4 p5 w_XACML w_COMPACT w_BLANK))
def b0_167x4 (p1 : Int32) (p2 : Int32) (p3 : Int32) (p4 : Int32) (p5 : Int32) (w_XACML : Addr) (w_COMPACT : Addr) (w_BLANK : Addr) : Int32 := (if (1 : Int32) < ((p5 &&& (2147483647 : Int32)) % (5 : Int32)) then (if (b3_0 (b1_0 p2)) = (1 : Int32) then (b0_192x4 p1 p2 p3 p4 p5 w_XACML w_COMPACT w_BLANK) else (b0_247x4 p1 p2 p3 w_XACML w_COMPACT w_BLANK (b4_0 (b1_0 p2) w_XACML w_COMPACT))) else (b0_192x4 p1 p2 p3 p4 p5 w_XACML w_COMPACT w_BLANK))
def b0_266x5 (s0_266 : Int32) : Int32 := (nar .boolean s0_266)
def b0_247x5 (p1 : Int32) (p2 : Int32) (p3 : Int32) (p4 : Int32) (w_XACML : Addr) (w_COMPACT : Addr) (w_BLANK : Addr) (v11_247 : Addr) : Int32 := (if (b2t4_0 w_XACML w_COMPACT w_BLANK (nar .byte (b1_0 p1)) (nar .byte (b1_0 p2)) (nar .byte (b1_0 p3)) (nar .byte (b1_0 p4))) = v11_247 then (b0_266x5 (1 : Int32)) else (b0_266x5 (0 : Int32)))
def b0_242x5 (p1 : Int32) (p2 : Int32) (p3 : Int32) (p4 : Int32) (w_XACML : Addr) (w_COMPACT : Addr) (w_BLANK : Addr) : Int32 := (b0_247x5 p1 p2 p3 p4 w_XACML w_COMPACT w_BLANK w_BLANK)
def b0_217x5 (p1 : Int32) (p2 : Int32) (p3 : Int32) (p4 : Int32) (p5 : Int32) (w_XACML : Addr) (w_COMPACT : Addr) (w_BLANK : Addr) : Int32 := (if (3 : Int32) < ((p5 &&& (2147483647 : Int32)) % (5 : Int32)) then (if (b3_0 (b1_0 p4)) = (1 : Int32) then (b0_242x5 p1 p2 p3 p4 w_XACML w_COMPACT w_BLANK) else (b0_247x5 p1 p2 p3 p4 w_XACML w_COMPACT w_BLANK (b4_0 (b1_0 p4) w_XACML w_COMPACT))) else (b0_242x5 p1 p2 p3 p4 w_XACML w_COMPACT w_BLANK))
def b0_192x5 (p1 : Int32) (p2 : Int32) (p3 : Int32) (p4 : Int32) (p5 : Int32) (w_XACML : Addr) (w_COMPACT : Addr) (w_BLANK : Addr) : Int32 := (if (2 : Int32) < ((p5 &&& (2147483647 : Int32)) % (5 : Int32)) then (if (b3_0 (b1_0 p3)) = (1 : Int32) then (b0_217x5 p1 p2 p3 p4 p5 w_XACML w_COMPACT w_BLANK) else (b0_247x5 p1 p2 p3 p4 w_XACML w_COMPACT w_BLANK (b4_0 (b1_0 p3) w_XACML w_COMPACT))) else (b0_217x5 p1 p2 p3 p4 p5 w_XACML w_COMPACT w_BLANK))
def b0_167x5 (p1 : Int32) (p2 : Int32) (p3 : Int32) (p4 : Int32) (p5 : Int32) (w_XACML : Addr) (w_COMPACT : Addr) (w_BLANK : Addr) : Int32 := (if (1 : Int32) < ((p5 &&& (2147483647 : Int32)) % (5 : Int32)) then (if (b3_0 (b1_0 p2)) = (1 : Int32) then (b0_192x5 p1 p2 p3 p4 p5 w_XACML w_COMPACT w_BLANK) else (b0_247x5 p1 p2 p3 p4 w_XACML w_COMPACT w_BLANK (b4_0 (b1_0 p2) w_XACML w_COMPACT))) else (b0_192x5 p1 p2 p3 p4 p5 w_XACML w_COMPACT w_BLANK))
def b0_0 (p1 : Int32) (p2 : Int32) (p3 : Int32) (p4 : Int32) (p5 : Int32) (w_XACML : Addr) (w_COMPACT : Addr) (w_BLANK : Addr) : Int32 := (if ((p5 &&& (2147483647 : Int32)) % (5 : Int32)) = (0 : Int32) then (if (0 : Int32) < ((p5 &&& (2147483647 : Int32)) % (5 : Int32)) then (if (b3_0 (b1_0 p1)) = (1 : Int32) then (b0_167 p2 p3 p4 p5 w_XACML w_COMPACT w_BLANK) else (b0_247 w_BLANK (b4_0 (b1_0 p1) w_XACML w_COMPACT))) else (b0_167 p2 p3 p4 p5 w_XACML w_COMPACT w_BLANK)) else (if ((p5 &&& (2147483647 : Int32)) % (5 : Int32)) = (1 : Int32) then (if (0 : Int32) < ((p5 &&& (2147483647 : Int32)) % (5 : Int32)) then (if (b3_0 (b1_0 p1)) = (1 : Int32) then (b0_167x2 p1 p2 p3 p4 p5 w_XACML w_COMPACT w_BLANK) else (b0_247x2 p1 w_XACML w_COMPACT w_BLANK (b4_0 (b1_0 p1) w_XACML w_COMPACT))) else (b0_167x2 p1 p2 p3 p4 p5 w_XACML w_COMPACT w_BLANK)) else (if ((p5 &&& (2147483647 : Int32)) % (5 : Int32)) = (2 : Int32) then (if (0 : Int32) < ((p5 &&& (2147483647 : Int32)) % (5 : Int32)) then (if (b3_0 (b1_0 p1)) = (1 : Int32) then (b0_167x3 p1 p2 p3 p4 p5 w_XACML w_COMPACT w_BLANK) else (b0_247x3 p1 p2 w_XACML w_COMPACT w_BLANK (b4_0 (b1_0 p1) w_XACML w_COMPACT))) else (b0_167x3 p1 p2 p3 p4 p5 w_XACML w_COMPACT w_BLANK)) else (if ((p5 &&& (2147483647 : Int32)) % (5 : Int32)) = (3 : Int32) then (if (0 : Int32) < ((p5 &&& (2147483647 : Int32)) % (5 : Int32)) then (if (b3_0 (b1_0 p1)) = (1 : Int32) then (b0_167x4 p1 p2 p3 p4 p5 w_XACML w_COMPACT w_BLANK) else (b0_247x4 p1 p2 p3 w_XACML w_COMPACT w_BLANK (b4_0 (b1_0 p1) w_XACML w_COMPACT))) else (b0_167x4 p1 p2 p3 p4 p5 w_XACML w_COMPACT w_BLANK)) else (if (0 : Int32) < ((p5 &&& (2147483647 : Int32)) % (5 : Int32)) then (if (b3_0 (b1_0 p1)) = (1 : Int32) then (b0_167x5 p1 p2 p3 p4 p5 w_XACML w_COMPACT w_BLANK) else (b0_247x5 p1 p2 p3 p4 w_XACML w_COMPACT w_BLANK (b4_0 (b1_0 p1) w_XACML w_COMPACT))) else (b0_167x5 p1 p2 p3 p4 p5 w_XACML w_COMPACT w_BLANK))))))
set_option maxRecDepth 65536 in
set_option maxHeartbeats 40000000 in
theorem rm0 (l : Launch) (Z : State) (a0 : Array Value) (hw : ∀ d ∈ tables_1, d.before a0 Z = true) (ws : List Jvm.Cond) (p1 : Int32) (p2 : Int32) (p3 : Int32) (p4 : Int32) (p5 : Int32) (w_XACML : Addr) (w_COMPACT : Addr) (w_BLANK : Addr) (h0 : Heap) (n0 : Nat) (Z0 : n0 ≤ h0.size) (S_XACML : Sta Z h0 "com/example/policylint/policylint/PolicySyntax" "XACML" "Lcom/example/policylint/policylint/PolicySyntax;" (.ref w_XACML)) (S_COMPACT : Sta Z h0 "com/example/policylint/policylint/PolicySyntax" "COMPACT" "Lcom/example/policylint/policylint/PolicySyntax;" (.ref w_COMPACT)) (S_BLANK : Sta Z h0 "com/example/policylint/policylint/PolicySyntax" "BLANK" "Lcom/example/policylint/policylint/PolicySyntax;" (.ref w_BLANK)) :
    MetFree l x (head1 (Jvm.Cond.code x code maxLocals ret :: ws) room_1) (fun a U => a = #[(.int p1), (.int p2), (.int p3), (.int p4), (.int p5)] ∧ Z.Warmed39 U.vm ∧ U.heap = h0) (fun _ _ _ _ _ => True) (fun _ U o U' => ∃ v L, o = .returned v ∧ QK n0 (Kv (some (.int (b0_0 p1 p2 p3 p4 p5 w_XACML w_COMPACT w_BLANK))) (fun _ => True)) v U'.heap L ∧ FrameEnd U o U' L room_1.cells room_1.slots) := by
  refine MetFree.of_bodySF (plainFor_of_name pn_0) hisR ?_
  intro p e s m args below meth c s₁ Bd hml0 hP hK
  obtain ⟨rfl, hZ, hh⟩ := hP
  have hx := Bd.exec
  have hby := Bd.bytes
  have hml : c.maxLocals = 13 := hml0
  have hown : s.vm.findClass "com/example/policylint/policylint/PolicySyntaxOfPinLaw" = some m.cls := findClass_of_methodNamed Bd.named
  have hnm := (name_of_methodNamed Bd.named Bd.method).1
  have X0 : Stand p l e room_1 s m #[(.int p1), (.int p2), (.int p3), (.int p4), (.int p5)] below meth c s₁ [] 0 0 := Stand.of_body Bd
  have e0 : s₁.heap = h0 := by rw [← hh, Bd.state]; rfl
  have N0 := Fr.nil n0
  refine gl_start (ef_0 m p1 p2 p3 p4 p5) ?_
  show Gl p e below s n0 room_1.cells room_1.slots (Kv (some (.int (if ((p5 &&& (2147483647 : Int32)) % (5 : Int32)) = (0 : Int32) then (if (0 : Int32) < ((p5 &&& (2147483647 : Int32)) % (5 : Int32)) then (if (b3_0 (b1_0 p1)) = (1 : Int32) then (b0_167 p2 p3 p4 p5 w_XACML w_COMPACT w_BLANK) else (b0_247 w_BLANK (b4_0 (b1_0 p1) w_XACML w_COMPACT))) else (b0_167 p2 p3 p4 p5 w_XACML w_COMPACT w_BLANK)) else (if ((p5 &&& (2147483647 : Int32)) % (5 : Int32)) = (1 : Int32) then (if (0 : Int32) < ((p5 &&& (2147483647 : Int32)) % (5 : Int32)) then (if (b3_0 (b1_0 p1)) = (1 : Int32) then (b0_167x2 p1 p2 p3 p4 p5 w_XACML w_COMPACT w_BLANK) else (b0_247x2 p1 w_XACML w_COMPACT w_BLANK (b4_0 (b1_0 p1) w_XACML w_COMPACT))) else (b0_167x2 p1 p2 p3 p4 p5 w_XACML w_COMPACT w_BLANK)) else (if ((p5 &&& (2147483647 : Int32)) % (5 : Int32)) = (2 : Int32) then (if (0 : Int32) < ((p5 &&& (2147483647 : Int32)) % (5 : Int32)) then (if (b3_0 (b1_0 p1)) = (1 : Int32) then (b0_167x3 p1 p2 p3 p4 p5 w_XACML w_COMPACT w_BLANK) else (b0_247x3 p1 p2 w_XACML w_COMPACT w_BLANK (b4_0 (b1_0 p1) w_XACML w_COMPACT))) else (b0_167x3 p1 p2 p3 p4 p5 w_XACML w_COMPACT w_BLANK)) else (if ((p5 &&& (2147483647 : Int32)) % (5 : Int32)) = (3 : Int32) then (if (0 : Int32) < ((p5 &&& (2147483647 : Int32)) % (5 : Int32)) then (if (b3_0 (b1_0 p1)) = (1 : Int32) then (b0_167x4 p1 p2 p3 p4 p5 w_XACML w_COMPACT w_BLANK) else (b0_247x4 p1 p2 p3 w_XACML w_COMPACT w_BLANK (b4_0 (b1_0 p1) w_XACML w_COMPACT))) else (b0_167x4 p1 p2 p3 p4 p5 w_XACML w_COMPACT w_BLANK)) else (if (0 : Int32) < ((p5 &&& (2147483647 : Int32)) % (5 : Int32)) then (if (b3_0 (b1_0 p1)) = (1 : Int32) then (b0_167x5 p1 p2 p3 p4 p5 w_XACML w_COMPACT w_BLANK) else (b0_247x5 p1 p2 p3 p4 w_XACML w_COMPACT w_BLANK (b4_0 (b1_0 p1) w_XACML w_COMPACT))) else (b0_167x5 p1 p2 p3 p4 p5 w_XACML w_COMPACT w_BLANK)))))))) (fun _ => True)) (s₁.setTop (mkF m 0 #[.val (.int p1), .val (.int p2), .val (.int p3), .val (.int p4), .val (.int p5), .unset, .unset, .unset, .unset, .unset, .unset, .unset, .unset] []))
  refine go (fun t k => XS.iload X0.here hx rfl (hb hby at_0) rfl  k) ?_
  show Gl _ _ _ _ _ _ _ _ (s₁.setTop (mkF m 2 #[.val (.int p1), .val (.int p2), .val (.int p3), .val (.int p4), .val (.int p5), .unset, .unset, .unset, .unset, .unset, .unset, .unset, .unset] [(.int p5)]))
  refine go (fun t k => X0.ldcInt hx hown (mvT hZ (hw _ (List.mem_of_getElem? (i := 0) rfl))) (g := (mkF m 2 #[.val (.int p1), .val (.int p2), .val (.int p3), .val (.int p4), .val (.int p5), .unset, .unset, .unset, .unset, .unset, .unset, .unset, .unset] [(.int p5)])) rfl (hb hby at_2) _ k) ?_
  show Gl _ _ _ _ _ _ _ _ (s₁.setTop (mkF m 4 #[.val (.int p1), .val (.int p2), .val (.int p3), .val (.int p4), .val (.int p5), .unset, .unset, .unset, .unset, .unset, .unset, .unset, .unset] [(.int (2147483647 : Int32)), (.int p5)]))
  refine go (fun t k => XS.iand X0.here hx rfl (hb hby at_4) rfl k) ?_
  show Gl _ _ _ _ _ _ _ _ (s₁.setTop (mkF m 5 #[.val (.int p1), .val (.int p2), .val (.int p3), .val (.int p4), .val (.int p5), .unset, .unset, .unset, .unset, .unset, .unset, .unset, .unset] [(.int (p5 &&& (2147483647 : Int32)))]))
  refine go (fun t k => XS.iconst X0.here hx rfl (hb hby at_5) k) ?_
  show Gl _ _ _ _ _ _ _ _ (s₁.setTop (mkF m 6 #[.val (.int p1), .val (.int p2), .val (.int p3), .val (.int p4), .val (.int p5), .unset, .unset, .unset, .unset, .unset, .unset, .unset, .unset] [(.int (5 : Int32)), (.int (p5 &&& (2147483647 : Int32)))]))
  refine go (fun t k => iremM X0 hx rfl (hb hby at_6) rfl (by decide) k) ?_
  show Gl _ _ _ _ _ _ _ _ (s₁.setTop (mkF m 7 #[.val (.int p1), .val (.int p2), .val (.int p3), .val (.int p4), .val (.int p5), .unset, .unset, .unset, .unset, .unset, .unset, .unset, .unset] [(.int ((p5 &&& (2147483647 : Int32)) % (5 : Int32)))]))
  refine go (fun t k => XS.istore X0.here hx rfl (hb hby at_7) rfl (l' := #[.val (.int p1), .val (.int p2), .val (.int p3), .val (.int p4), .val (.int p5), .val (.int ((p5 &&& (2147483647 : Int32)) % (5 : Int32))), .unset, .unset, .unset, .unset, .unset, .unset, .unset]) rfl k) ?_
  show Gl _ _ _ _ _ _ _ _ (s₁.setTop (mkF m 9 #[.val (.int p1), .val (.int p2), .val (.int p3), .val (.int p4), .val (.int p5), .val (.int ((p5 &&& (2147483647 : Int32)) % (5 : Int32))), .unset, .unset, .unset, .unset, .unset, .unset, .unset] []))
  refine go (fun t k => XS.iloadN X0.here hx rfl (hb hby at_9) rfl  k) ?_
  show Gl _ _ _ _ _ _ _ _ (s₁.setTop (mkF m 10 #[.val (.int p1), .val (.int p2), .val (.int p3), .val (.int p4), .val (.int p5), .val (.int ((p5 &&& (2147483647 : Int32)) % (5 : Int32))), .unset, .unset, .unset, .unset, .unset, .unset, .unset] [(.int p1)]))
  obtain ⟨_, _, ⟨T1, L1, k1, n1⟩, -, X1, ⟨Lc1, hQ1, l1, y1, z1⟩, st1⟩ := Jvm.LawKit.callS X0 hx (y := (⟨"com/example/policylint/policylint/PolicySyntaxOfPinLaw", "pick", "(I)B"⟩ : MethodName)) hown (mvT hZ (hw _ (List.mem_of_getElem? (i := 1) rfl))) (mvT hZ (hw _ (List.mem_of_getElem? (i := 2) rfl))) (mvT hZ (hw _ (List.mem_of_getElem? (i := 3) rfl))) (mvT hZ (hw _ (List.mem_of_getElem? (i := 4) rfl))) (by decide) (backOf (W := 0) (rm1 l Z a0 hw [] p1 h0 n0 Z0 ) hZ (hw _ (List.mem_of_getElem? (i := 4) rfl)) (hw _ (List.mem_of_getElem? (i := 3) rfl)) (by decide) (by decide)) (g := (mkF m 10 #[.val (.int p1), .val (.int p2), .val (.int p3), .val (.int p4), .val (.int p5), .val (.int ((p5 &&& (2147483647 : Int32)) % (5 : Int32))), .unset, .unset, .unset, .unset, .unset, .unset, .unset] [(.int p1)])) rfl (by rw [hml]; rfl) (argsL := [(.int p1)]) (rest := []) (lenOf pd_1 rfl) rfl (by show 2 * 0 + _ ≤ _; exact Nat.le_of_eq rfl) (hb hby at_10) (fun _ _ => ⟨rfl, e0, (by decide : 0 + 1 ≤ _), (by decide : 0 + 11 ≤ _)⟩)
  dsimp only [Pt.U, Pt.locs, Pt.cells, Pt.slots] at X1 l1 y1 z1 st1 hQ1
  subst l1 y1 z1
  have X1 : Stand p l e room_1 s m #[(.int p1), (.int p2), (.int p3), (.int p4), (.int p5)] below meth c T1 _ 1 11 := X1
  obtain ⟨⟨rfl, K1q⟩, N1q⟩ := hQ1
  obtain ⟨h1, e1⟩ : ∃ z, T1.heap = z := ⟨_, rfl⟩
  rw [e1] at K1q
  have K1q : Keep h0 h1 [] := K1q
  have K1 : Keep h0 h1 [] := (Keep.refl h0 []).trans K1q all0
  have N1 := Fr.app N0 N1q
  refine go (fun t k => st1 _ k) ?_
  show Gl _ _ _ _ _ _ _ _ (T1.setTop (mkF m 13 #[.val (.int p1), .val (.int p2), .val (.int p3), .val (.int p4), .val (.int p5), .val (.int ((p5 &&& (2147483647 : Int32)) % (5 : Int32))), .unset, .unset, .unset, .unset, .unset, .unset, .unset] [(.int (b1_0 p1))]))
  refine go (fun t k => XS.istore X1.here hx rfl (hb hby at_13) rfl (l' := #[.val (.int p1), .val (.int p2), .val (.int p3), .val (.int p4), .val (.int p5), .val (.int ((p5 &&& (2147483647 : Int32)) % (5 : Int32))), .val (.int (b1_0 p1)), .unset, .unset, .unset, .unset, .unset, .unset]) rfl k) ?_
  show Gl _ _ _ _ _ _ _ _ (T1.setTop (mkF m 15 #[.val (.int p1), .val (.int p2), .val (.int p3), .val (.int p4), .val (.int p5), .val (.int ((p5 &&& (2147483647 : Int32)) % (5 : Int32))), .val (.int (b1_0 p1)), .unset, .unset, .unset, .unset, .unset, .unset] []))
  refine go (fun t k => XS.iloadN X1.here hx rfl (hb hby at_15) rfl  k) ?_
  show Gl _ _ _ _ _ _ _ _ (T1.setTop (mkF m 16 #[.val (.int p1), .val (.int p2), .val (.int p3), .val (.int p4), .val (.int p5), .val (.int ((p5 &&& (2147483647 : Int32)) % (5 : Int32))), .val (.int (b1_0 p1)), .unset, .unset, .unset, .unset, .unset, .unset] [(.int p2)]))
  obtain ⟨_, _, ⟨T2, L2, k2, n2⟩, -, X2, ⟨Lc2, hQ2, l2, y2, z2⟩, st2⟩ := Jvm.LawKit.callS X1 hx (y := (⟨"com/example/policylint/policylint/PolicySyntaxOfPinLaw", "pick", "(I)B"⟩ : MethodName)) hown (mvT hZ (hw _ (List.mem_of_getElem? (i := 1) rfl))) (mvT hZ (hw _ (List.mem_of_getElem? (i := 2) rfl))) (mvT hZ (hw _ (List.mem_of_getElem? (i := 3) rfl))) (mvT hZ (hw _ (List.mem_of_getElem? (i := 4) rfl))) (by decide) (backOf (W := 0) (rm1 l Z a0 hw [] p2 h1 n0 (Nat.le_trans Z0 K1q.1) ) hZ (hw _ (List.mem_of_getElem? (i := 4) rfl)) (hw _ (List.mem_of_getElem? (i := 3) rfl)) (by decide) (by decide)) (g := (mkF m 16 #[.val (.int p1), .val (.int p2), .val (.int p3), .val (.int p4), .val (.int p5), .val (.int ((p5 &&& (2147483647 : Int32)) % (5 : Int32))), .val (.int (b1_0 p1)), .unset, .unset, .unset, .unset, .unset, .unset] [(.int p2)])) rfl (by rw [hml]; rfl) (argsL := [(.int p2)]) (rest := []) (lenOf pd_1 rfl) rfl (by show 2 * 0 + _ ≤ _; exact Nat.le_of_eq rfl) (hb hby at_16) (fun _ _ => ⟨rfl, e1, (by decide : 1 + 1 ≤ _), (by decide : 11 + 11 ≤ _)⟩)
  dsimp only [Pt.U, Pt.locs, Pt.cells, Pt.slots] at X2 l2 y2 z2 st2 hQ2
  subst l2 y2 z2
  have X2 : Stand p l e room_1 s m #[(.int p1), (.int p2), (.int p3), (.int p4), (.int p5)] below meth c T2 _ 2 22 := X2
  obtain ⟨⟨rfl, K2q⟩, N2q⟩ := hQ2
  obtain ⟨h2, e2⟩ : ∃ z, T2.heap = z := ⟨_, rfl⟩
  rw [e2] at K2q
  have K2q : Keep h1 h2 [] := K2q
  have K2 : Keep h0 h2 [] := K1.trans K2q all0
  have N2 := Fr.app N1 N2q
  refine go (fun t k => st2 _ k) ?_
  show Gl _ _ _ _ _ _ _ _ (T2.setTop (mkF m 19 #[.val (.int p1), .val (.int p2), .val (.int p3), .val (.int p4), .val (.int p5), .val (.int ((p5 &&& (2147483647 : Int32)) % (5 : Int32))), .val (.int (b1_0 p1)), .unset, .unset, .unset, .unset, .unset, .unset] [(.int (b1_0 p2))]))
  refine go (fun t k => XS.istore X2.here hx rfl (hb hby at_19) rfl (l' := #[.val (.int p1), .val (.int p2), .val (.int p3), .val (.int p4), .val (.int p5), .val (.int ((p5 &&& (2147483647 : Int32)) % (5 : Int32))), .val (.int (b1_0 p1)), .val (.int (b1_0 p2)), .unset, .unset, .unset, .unset, .unset]) rfl k) ?_
  show Gl _ _ _ _ _ _ _ _ (T2.setTop (mkF m 21 #[.val (.int p1), .val (.int p2), .val (.int p3), .val (.int p4), .val (.int p5), .val (.int ((p5 &&& (2147483647 : Int32)) % (5 : Int32))), .val (.int (b1_0 p1)), .val (.int (b1_0 p2)), .unset, .unset, .unset, .unset, .unset] []))
  refine go (fun t k => XS.iloadN X2.here hx rfl (hb hby at_21) rfl  k) ?_
  show Gl _ _ _ _ _ _ _ _ (T2.setTop (mkF m 22 #[.val (.int p1), .val (.int p2), .val (.int p3), .val (.int p4), .val (.int p5), .val (.int ((p5 &&& (2147483647 : Int32)) % (5 : Int32))), .val (.int (b1_0 p1)), .val (.int (b1_0 p2)), .unset, .unset, .unset, .unset, .unset] [(.int p3)]))
  obtain ⟨_, _, ⟨T3, L3, k3, n3⟩, -, X3, ⟨Lc3, hQ3, l3, y3, z3⟩, st3⟩ := Jvm.LawKit.callS X2 hx (y := (⟨"com/example/policylint/policylint/PolicySyntaxOfPinLaw", "pick", "(I)B"⟩ : MethodName)) hown (mvT hZ (hw _ (List.mem_of_getElem? (i := 1) rfl))) (mvT hZ (hw _ (List.mem_of_getElem? (i := 2) rfl))) (mvT hZ (hw _ (List.mem_of_getElem? (i := 3) rfl))) (mvT hZ (hw _ (List.mem_of_getElem? (i := 4) rfl))) (by decide) (backOf (W := 0) (rm1 l Z a0 hw [] p3 h2 n0 (Nat.le_trans (Nat.le_trans Z0 K1q.1) K2q.1) ) hZ (hw _ (List.mem_of_getElem? (i := 4) rfl)) (hw _ (List.mem_of_getElem? (i := 3) rfl)) (by decide) (by decide)) (g := (mkF m 22 #[.val (.int p1), .val (.int p2), .val (.int p3), .val (.int p4), .val (.int p5), .val (.int ((p5 &&& (2147483647 : Int32)) % (5 : Int32))), .val (.int (b1_0 p1)), .val (.int (b1_0 p2)), .unset, .unset, .unset, .unset, .unset] [(.int p3)])) rfl (by rw [hml]; rfl) (argsL := [(.int p3)]) (rest := []) (lenOf pd_1 rfl) rfl (by show 2 * 0 + _ ≤ _; exact Nat.le_of_eq rfl) (hb hby at_22) (fun _ _ => ⟨rfl, e2, (by decide : 2 + 1 ≤ _), (by decide : 22 + 11 ≤ _)⟩)
  dsimp only [Pt.U, Pt.locs, Pt.cells, Pt.slots] at X3 l3 y3 z3 st3 hQ3
  subst l3 y3 z3
  have X3 : Stand p l e room_1 s m #[(.int p1), (.int p2), (.int p3), (.int p4), (.int p5)] below meth c T3 _ 3 33 := X3
  obtain ⟨⟨rfl, K3q⟩, N3q⟩ := hQ3
  obtain ⟨h3, e3⟩ : ∃ z, T3.heap = z := ⟨_, rfl⟩
  rw [e3] at K3q
  have K3q : Keep h2 h3 [] := K3q
  have K3 : Keep h0 h3 [] := K2.trans K3q all0
  have N3 := Fr.app N2 N3q
  refine go (fun t k => st3 _ k) ?_
  show Gl _ _ _ _ _ _ _ _ (T3.setTop (mkF m 25 #[.val (.int p1), .val (.int p2), .val (.int p3), .val (.int p4), .val (.int p5), .val (.int ((p5 &&& (2147483647 : Int32)) % (5 : Int32))), .val (.int (b1_0 p1)), .val (.int (b1_0 p2)), .unset, .unset, .unset, .unset, .unset] [(.int (b1_0 p3))]))
  refine go (fun t k => XS.istore X3.here hx rfl (hb hby at_25) rfl (l' := #[.val (.int p1), .val (.int p2), .val (.int p3), .val (.int p4), .val (.int p5), .val (.int ((p5 &&& (2147483647 : Int32)) % (5 : Int32))), .val (.int (b1_0 p1)), .val (.int (b1_0 p2)), .val (.int (b1_0 p3)), .unset, .unset, .unset, .unset]) rfl k) ?_
  show Gl _ _ _ _ _ _ _ _ (T3.setTop (mkF m 27 #[.val (.int p1), .val (.int p2), .val (.int p3), .val (.int p4), .val (.int p5), .val (.int ((p5 &&& (2147483647 : Int32)) % (5 : Int32))), .val (.int (b1_0 p1)), .val (.int (b1_0 p2)), .val (.int (b1_0 p3)), .unset, .unset, .unset, .unset] []))
  refine go (fun t k => XS.iloadN X3.here hx rfl (hb hby at_27) rfl  k) ?_
  show Gl _ _ _ _ _ _ _ _ (T3.setTop (mkF m 28 #[.val (.int p1), .val (.int p2), .val (.int p3), .val (.int p4), .val (.int p5), .val (.int ((p5 &&& (2147483647 : Int32)) % (5 : Int32))), .val (.int (b1_0 p1)), .val (.int (b1_0 p2)), .val (.int (b1_0 p3)), .unset, .unset, .unset, .unset] [(.int p4)]))
  obtain ⟨_, _, ⟨T4, L4, k4, n4⟩, -, X4, ⟨Lc4, hQ4, l4, y4, z4⟩, st4⟩ := Jvm.LawKit.callS X3 hx (y := (⟨"com/example/policylint/policylint/PolicySyntaxOfPinLaw", "pick", "(I)B"⟩ : MethodName)) hown (mvT hZ (hw _ (List.mem_of_getElem? (i := 1) rfl))) (mvT hZ (hw _ (List.mem_of_getElem? (i := 2) rfl))) (mvT hZ (hw _ (List.mem_of_getElem? (i := 3) rfl))) (mvT hZ (hw _ (List.mem_of_getElem? (i := 4) rfl))) (by decide) (backOf (W := 0) (rm1 l Z a0 hw [] p4 h3 n0 (Nat.le_trans (Nat.le_trans (Nat.le_trans Z0 K1q.1) K2q.1) K3q.1) ) hZ (hw _ (List.mem_of_getElem? (i := 4) rfl)) (hw _ (List.mem_of_getElem? (i := 3) rfl)) (by decide) (by decide)) (g := (mkF m 28 #[.val (.int p1), .val (.int p2), .val (.int p3), .val (.int p4), .val (.int p5), .val (.int ((p5 &&& (2147483647 : Int32)) % (5 : Int32))), .val (.int (b1_0 p1)), .val (.int (b1_0 p2)), .val (.int (b1_0 p3)), .unset, .unset, .unset, .unset] [(.int p4)])) rfl (by rw [hml]; rfl) (argsL := [(.int p4)]) (rest := []) (lenOf pd_1 rfl) rfl (by show 2 * 0 + _ ≤ _; exact Nat.le_of_eq rfl) (hb hby at_28) (fun _ _ => ⟨rfl, e3, (by decide : 3 + 1 ≤ _), (by decide : 33 + 11 ≤ _)⟩)
  dsimp only [Pt.U, Pt.locs, Pt.cells, Pt.slots] at X4 l4 y4 z4 st4 hQ4
  subst l4 y4 z4
  have X4 : Stand p l e room_1 s m #[(.int p1), (.int p2), (.int p3), (.int p4), (.int p5)] below meth c T4 _ 4 44 := X4
  obtain ⟨⟨rfl, K4q⟩, N4q⟩ := hQ4
  obtain ⟨h4, e4⟩ : ∃ z, T4.heap = z := ⟨_, rfl⟩
  rw [e4] at K4q
  have K4q : Keep h3 h4 [] := K4q
  have K4 : Keep h0 h4 [] := K3.trans K4q all0
  have N4 := Fr.app N3 N4q
  refine go (fun t k => st4 _ k) ?_
  show Gl _ _ _ _ _ _ _ _ (T4.setTop (mkF m 31 #[.val (.int p1), .val (.int p2), .val (.int p3), .val (.int p4), .val (.int p5), .val (.int ((p5 &&& (2147483647 : Int32)) % (5 : Int32))), .val (.int (b1_0 p1)), .val (.int (b1_0 p2)), .val (.int (b1_0 p3)), .unset, .unset, .unset, .unset] [(.int (b1_0 p4))]))
  refine go (fun t k => XS.istore X4.here hx rfl (hb hby at_31) rfl (l' := #[.val (.int p1), .val (.int p2), .val (.int p3), .val (.int p4), .val (.int p5), .val (.int ((p5 &&& (2147483647 : Int32)) % (5 : Int32))), .val (.int (b1_0 p1)), .val (.int (b1_0 p2)), .val (.int (b1_0 p3)), .val (.int (b1_0 p4)), .unset, .unset, .unset]) rfl k) ?_
  show Gl _ _ _ _ _ _ _ _ (T4.setTop (mkF m 33 #[.val (.int p1), .val (.int p2), .val (.int p3), .val (.int p4), .val (.int p5), .val (.int ((p5 &&& (2147483647 : Int32)) % (5 : Int32))), .val (.int (b1_0 p1)), .val (.int (b1_0 p2)), .val (.int (b1_0 p3)), .val (.int (b1_0 p4)), .unset, .unset, .unset] []))
  refine go (fun t k => XS.iload X4.here hx rfl (hb hby at_33) rfl  k) ?_
  show Gl _ _ _ _ _ _ _ _ (T4.setTop (mkF m 35 #[.val (.int p1), .val (.int p2), .val (.int p3), .val (.int p4), .val (.int p5), .val (.int ((p5 &&& (2147483647 : Int32)) % (5 : Int32))), .val (.int (b1_0 p1)), .val (.int (b1_0 p2)), .val (.int (b1_0 p3)), .val (.int (b1_0 p4)), .unset, .unset, .unset] [(.int ((p5 &&& (2147483647 : Int32)) % (5 : Int32)))]))
  refine gI (c := ((p5 &&& (2147483647 : Int32)) % (5 : Int32)) = (0 : Int32)) (fun hc35 => ?_) (fun hc35 => ?_)
  · refine go (fun t k => XS.ifNo X4.here hx rfl (hb hby at_35) rfl ((if0 _ _).trans (teq hc35).2) k) ?_
    show Gl _ _ _ _ _ _ _ _ (T4.setTop (mkF m 38 #[.val (.int p1), .val (.int p2), .val (.int p3), .val (.int p4), .val (.int p5), .val (.int ((p5 &&& (2147483647 : Int32)) % (5 : Int32))), .val (.int (b1_0 p1)), .val (.int (b1_0 p2)), .val (.int (b1_0 p3)), .val (.int (b1_0 p4)), .unset, .unset, .unset] []))
    refine go (fun t k => XS.iconst X4.here hx rfl (hb hby at_38) k) ?_
    show Gl _ _ _ _ _ _ _ _ (T4.setTop (mkF m 39 #[.val (.int p1), .val (.int p2), .val (.int p3), .val (.int p4), .val (.int p5), .val (.int ((p5 &&& (2147483647 : Int32)) % (5 : Int32))), .val (.int (b1_0 p1)), .val (.int (b1_0 p2)), .val (.int (b1_0 p3)), .val (.int (b1_0 p4)), .unset, .unset, .unset] [(.int (0 : Int32))]))
    obtain ⟨T5, h5, k5, X5, e5, E5, A5, st5⟩ := newP X4 hx hZ (hw _ (List.mem_of_getElem? (i := 5) rfl)) e4 (g := (mkF m 39 #[.val (.int p1), .val (.int p2), .val (.int p3), .val (.int p4), .val (.int p5), .val (.int ((p5 &&& (2147483647 : Int32)) % (5 : Int32))), .val (.int (b1_0 p1)), .val (.int (b1_0 p2)), .val (.int (b1_0 p3)), .val (.int (b1_0 p4)), .unset, .unset, .unset] [(.int (0 : Int32))])) rfl (hb hby at_39) rfl (by decide) (cap := 0) (by decide) (by decide) (by decide) (by decide)
    obtain ⟨o5, gq5⟩ : ∃ z, z = h4.size := ⟨_, rfl⟩
    rw [← gq5] at A5 st5
    have g_o5 : n0 ≤ o5 := Nat.le_trans (Nat.le_trans (Nat.le_trans (Nat.le_trans (Nat.le_trans Z0 K1q.1) K2q.1) K3q.1) K4q.1) (Nat.le_of_eq gq5.symm)
    have V_o5 : Arv Z h5 o5 k5 .byte (0 : Int32) [] (.int (0 : Int32)) := (Arv.new A5 (by decide)).pad (pad_rep [] (.int (0 : Int32)) 0)
    have K5 : Keep h0 h5 [] := K4.ext E5
    have sz_o5 : h0.size ≤ o5 := Nat.le_trans K4.1 (Nat.le_of_eq gq5.symm)
    refine go (fun t k => st5 _ k) ?_
    show Gl _ _ _ _ _ _ _ _ (T5.setTop (mkF m 41 #[.val (.int p1), .val (.int p2), .val (.int p3), .val (.int p4), .val (.int p5), .val (.int ((p5 &&& (2147483647 : Int32)) % (5 : Int32))), .val (.int (b1_0 p1)), .val (.int (b1_0 p2)), .val (.int (b1_0 p3)), .val (.int (b1_0 p4)), .unset, .unset, .unset] [(.ref o5)]))
    refine go (fun t k => XS.astore X5.here hx rfl (hb hby at_41) rfl rfl (l' := #[.val (.int p1), .val (.int p2), .val (.int p3), .val (.int p4), .val (.int p5), .val (.int ((p5 &&& (2147483647 : Int32)) % (5 : Int32))), .val (.int (b1_0 p1)), .val (.int (b1_0 p2)), .val (.int (b1_0 p3)), .val (.int (b1_0 p4)), .val (.ref o5), .unset, .unset]) rfl k) ?_
    show Gl _ _ _ _ _ _ _ _ (T5.setTop (mkF m 43 #[.val (.int p1), .val (.int p2), .val (.int p3), .val (.int p4), .val (.int p5), .val (.int ((p5 &&& (2147483647 : Int32)) % (5 : Int32))), .val (.int (b1_0 p1)), .val (.int (b1_0 p2)), .val (.int (b1_0 p3)), .val (.int (b1_0 p4)), .val (.ref o5), .unset, .unset] []))
    refine go (fun t k => XS.goto X5.here hx rfl (pc0 := 43) (pc' := 143) rfl (hb hby at_43) (by decide) (by decide) k) ?_
    show Gl _ _ _ _ _ _ _ _ (T5.setTop (mkF m 143 #[.val (.int p1), .val (.int p2), .val (.int p3), .val (.int p4), .val (.int p5), .val (.int ((p5 &&& (2147483647 : Int32)) % (5 : Int32))), .val (.int (b1_0 p1)), .val (.int (b1_0 p2)), .val (.int (b1_0 p3)), .val (.int (b1_0 p4)), .val (.ref o5), .unset, .unset] []))
    refine go (fun t k => XS.iload X5.here hx rfl (hb hby at_143) rfl  k) ?_
    show Gl _ _ _ _ _ _ _ _ (T5.setTop (mkF m 145 #[.val (.int p1), .val (.int p2), .val (.int p3), .val (.int p4), .val (.int p5), .val (.int ((p5 &&& (2147483647 : Int32)) % (5 : Int32))), .val (.int (b1_0 p1)), .val (.int (b1_0 p2)), .val (.int (b1_0 p3)), .val (.int (b1_0 p4)), .val (.ref o5), .unset, .unset] [(.int ((p5 &&& (2147483647 : Int32)) % (5 : Int32)))]))
    have J247 : ∀ (v11_247 : Addr) (TJ247 : State) (lJ247 : List Loc) (XJ247 : Stand p l e room_1 s m #[(.int p1), (.int p2), (.int p3), (.int p4), (.int p5)] below meth c TJ247 lJ247 5 44) (eJ247 : TJ247.heap = h5) (NJ247 : Fr n0 lJ247), Gl p e below s n0 room_1.cells room_1.slots (Kv (some (.int (b0_247 w_BLANK v11_247))) (fun _ => True)) (TJ247.setTop (mkF m 247 #[.val (.int p1), .val (.int p2), .val (.int p3), .val (.int p4), .val (.int p5), .val (.int ((p5 &&& (2147483647 : Int32)) % (5 : Int32))), .val (.int (b1_0 p1)), .val (.int (b1_0 p2)), .val (.int (b1_0 p3)), .val (.int (b1_0 p4)), .val (.ref o5), .val (.ref v11_247), .unset] [])) := by
      intro v11_247 TJ247 lJ247 XJ247 eJ247 NJ247
      show Gl _ _ _ _ _ _ _ (Kv (some (.int (if (b2t0_0 w_BLANK) = v11_247 then (b0_266 (1 : Int32)) else (b0_266 (0 : Int32))))) _) _
      refine go (fun t k => XS.aload XJ247.here hx rfl (hb hby at_247) rfl rfl k) ?_
      show Gl _ _ _ _ _ _ _ _ (TJ247.setTop (mkF m 249 #[.val (.int p1), .val (.int p2), .val (.int p3), .val (.int p4), .val (.int p5), .val (.int ((p5 &&& (2147483647 : Int32)) % (5 : Int32))), .val (.int (b1_0 p1)), .val (.int (b1_0 p2)), .val (.int (b1_0 p3)), .val (.int (b1_0 p4)), .val (.ref o5), .val (.ref v11_247), .unset] [(.ref o5)]))
      obtain ⟨_, _, ⟨T7, L7, k7, n7⟩, -, X7, ⟨Lc7, hQ7, l7, y7, z7⟩, st7⟩ := Jvm.LawKit.callS XJ247 hx (y := (⟨"com/example/policylint/policylint/PolicySyntax", "of", "([B)Lcom/example/policylint/policylint/PolicySyntax;"⟩ : MethodName)) hown (mvT hZ (hw _ (List.mem_of_getElem? (i := 9) rfl))) (mvT hZ (hw _ (List.mem_of_getElem? (i := 10) rfl))) (mvT hZ (hw _ (List.mem_of_getElem? (i := 7) rfl))) (mvT hZ (hw _ (List.mem_of_getElem? (i := 11) rfl))) (by decide) (backOf (W := 0) (rm2t0 l Z a0 hw [] o5 w_XACML w_COMPACT w_BLANK k5 h5 n0 (Nat.le_trans (Nat.le_trans (Nat.le_trans (Nat.le_trans (Nat.le_trans Z0 K1q.1) K2q.1) K3q.1) K4q.1) E5.1) ((sta_keep0 (sta_keep0 (sta_keep0 (sta_keep0 S_XACML K1q) K2q) K3q) K4q).ext E5) ((sta_keep0 (sta_keep0 (sta_keep0 (sta_keep0 S_COMPACT K1q) K2q) K3q) K4q).ext E5) ((sta_keep0 (sta_keep0 (sta_keep0 (sta_keep0 S_BLANK K1q) K2q) K3q) K4q).ext E5) V_o5) hZ (hw _ (List.mem_of_getElem? (i := 11) rfl)) (hw _ (List.mem_of_getElem? (i := 7) rfl)) (by decide) (by decide)) (g := (mkF m 249 #[.val (.int p1), .val (.int p2), .val (.int p3), .val (.int p4), .val (.int p5), .val (.int ((p5 &&& (2147483647 : Int32)) % (5 : Int32))), .val (.int (b1_0 p1)), .val (.int (b1_0 p2)), .val (.int (b1_0 p3)), .val (.int (b1_0 p4)), .val (.ref o5), .val (.ref v11_247), .unset] [(.ref o5)])) rfl (by rw [hml]; rfl) (argsL := [(.ref o5)]) (rest := []) (lenOf pd_2 rfl) rfl (by show 2 * 0 + _ ≤ _; exact Nat.le_of_eq rfl) (hb hby at_249) (fun _ _ => ⟨rfl, eJ247, (by decide : 5 + 0 ≤ _), (by decide : 44 + 0 ≤ _)⟩)
      dsimp only [Pt.U, Pt.locs, Pt.cells, Pt.slots] at X7 l7 y7 z7 st7 hQ7
      subst l7 y7 z7
      have X7 : Stand p l e room_1 s m #[(.int p1), (.int p2), (.int p3), (.int p4), (.int p5)] below meth c T7 _ 5 44 := X7
      obtain ⟨⟨rfl, e7'⟩, N7q⟩ := hQ7
      have e7 : T7.heap = h5 := e7'
      have N7 := Fr.app NJ247 N7q
      refine go (fun t k => st7 _ k) ?_
      show Gl _ _ _ _ _ _ _ _ (T7.setTop (mkF m 252 #[.val (.int p1), .val (.int p2), .val (.int p3), .val (.int p4), .val (.int p5), .val (.int ((p5 &&& (2147483647 : Int32)) % (5 : Int32))), .val (.int (b1_0 p1)), .val (.int (b1_0 p2)), .val (.int (b1_0 p3)), .val (.int (b1_0 p4)), .val (.ref o5), .val (.ref v11_247), .unset] [(.ref (b2t0_0 w_BLANK))]))
      refine go (fun t k => XS.astore X7.here hx rfl (hb hby at_252) rfl rfl (l' := #[.val (.int p1), .val (.int p2), .val (.int p3), .val (.int p4), .val (.int p5), .val (.int ((p5 &&& (2147483647 : Int32)) % (5 : Int32))), .val (.int (b1_0 p1)), .val (.int (b1_0 p2)), .val (.int (b1_0 p3)), .val (.int (b1_0 p4)), .val (.ref o5), .val (.ref v11_247), .val (.ref (b2t0_0 w_BLANK))]) rfl k) ?_
      show Gl _ _ _ _ _ _ _ _ (T7.setTop (mkF m 254 #[.val (.int p1), .val (.int p2), .val (.int p3), .val (.int p4), .val (.int p5), .val (.int ((p5 &&& (2147483647 : Int32)) % (5 : Int32))), .val (.int (b1_0 p1)), .val (.int (b1_0 p2)), .val (.int (b1_0 p3)), .val (.int (b1_0 p4)), .val (.ref o5), .val (.ref v11_247), .val (.ref (b2t0_0 w_BLANK))] []))
      refine go (fun t k => XS.aload X7.here hx rfl (hb hby at_254) rfl rfl k) ?_
      show Gl _ _ _ _ _ _ _ _ (T7.setTop (mkF m 256 #[.val (.int p1), .val (.int p2), .val (.int p3), .val (.int p4), .val (.int p5), .val (.int ((p5 &&& (2147483647 : Int32)) % (5 : Int32))), .val (.int (b1_0 p1)), .val (.int (b1_0 p2)), .val (.int (b1_0 p3)), .val (.int (b1_0 p4)), .val (.ref o5), .val (.ref v11_247), .val (.ref (b2t0_0 w_BLANK))] [(.ref (b2t0_0 w_BLANK))]))
      refine go (fun t k => XS.aload X7.here hx rfl (hb hby at_256) rfl rfl k) ?_
      show Gl _ _ _ _ _ _ _ _ (T7.setTop (mkF m 258 #[.val (.int p1), .val (.int p2), .val (.int p3), .val (.int p4), .val (.int p5), .val (.int ((p5 &&& (2147483647 : Int32)) % (5 : Int32))), .val (.int (b1_0 p1)), .val (.int (b1_0 p2)), .val (.int (b1_0 p3)), .val (.int (b1_0 p4)), .val (.ref o5), .val (.ref v11_247), .val (.ref (b2t0_0 w_BLANK))] [(.ref v11_247), (.ref (b2t0_0 w_BLANK))]))
      have J266 : ∀ (s0_266 : Int32) (TJ266 : State) (lJ266 : List Loc) (XJ266 : Stand p l e room_1 s m #[(.int p1), (.int p2), (.int p3), (.int p4), (.int p5)] below meth c TJ266 lJ266 5 44) (eJ266 : TJ266.heap = h5) (NJ266 : Fr n0 lJ266), Gl p e below s n0 room_1.cells room_1.slots (Kv (some (.int (b0_266 s0_266))) (fun _ => True)) (TJ266.setTop (mkF m 266 #[.val (.int p1), .val (.int p2), .val (.int p3), .val (.int p4), .val (.int p5), .val (.int ((p5 &&& (2147483647 : Int32)) % (5 : Int32))), .val (.int (b1_0 p1)), .val (.int (b1_0 p2)), .val (.int (b1_0 p3)), .val (.int (b1_0 p4)), .val (.ref o5), .val (.ref v11_247), .val (.ref (b2t0_0 w_BLANK))] [(.int s0_266)])) := by
        intro s0_266 TJ266 lJ266 XJ266 eJ266 NJ266
        show Gl _ _ _ _ _ _ _ (Kv (some (.int (nar .boolean s0_266))) _) _
        exact endN XJ266 hx Bd (t := .boolean) (by simp) (hb hby at_266) ⟨rfl, trivial⟩ NJ266 (by decide) (by decide)
      refine gI (c := (b2t0_0 w_BLANK) = v11_247) (fun hc258 => ?_) (fun hc258 => ?_)
      · refine go (fun t k => Jvm.RoadKit.acmp (g := (mkF m 258 #[.val (.int p1), .val (.int p2), .val (.int p3), .val (.int p4), .val (.int p5), .val (.int ((p5 &&& (2147483647 : Int32)) % (5 : Int32))), .val (.int (b1_0 p1)), .val (.int (b1_0 p2)), .val (.int (b1_0 p3)), .val (.int (b1_0 p4)), .val (.ref o5), .val (.ref v11_247), .val (.ref (b2t0_0 w_BLANK))] [(.ref v11_247), (.ref (b2t0_0 w_BLANK))])) X7 hx rfl rfl rfl (pc0 := 258) (pc' := 261) (same := true) rfl (hb hby at_258) rfl (decide_eq_true (congrArg Value.ref hc258)) (by decide) (by decide) k) ?_
        show Gl _ _ _ _ _ _ _ _ (T7.setTop (mkF m 261 #[.val (.int p1), .val (.int p2), .val (.int p3), .val (.int p4), .val (.int p5), .val (.int ((p5 &&& (2147483647 : Int32)) % (5 : Int32))), .val (.int (b1_0 p1)), .val (.int (b1_0 p2)), .val (.int (b1_0 p3)), .val (.int (b1_0 p4)), .val (.ref o5), .val (.ref v11_247), .val (.ref (b2t0_0 w_BLANK))] []))
        refine go (fun t k => XS.iconst X7.here hx rfl (hb hby at_261) k) ?_
        show Gl _ _ _ _ _ _ _ _ (T7.setTop (mkF m 262 #[.val (.int p1), .val (.int p2), .val (.int p3), .val (.int p4), .val (.int p5), .val (.int ((p5 &&& (2147483647 : Int32)) % (5 : Int32))), .val (.int (b1_0 p1)), .val (.int (b1_0 p2)), .val (.int (b1_0 p3)), .val (.int (b1_0 p4)), .val (.ref o5), .val (.ref v11_247), .val (.ref (b2t0_0 w_BLANK))] [(.int (1 : Int32))]))
        refine go (fun t k => XS.goto X7.here hx rfl (pc0 := 262) (pc' := 266) rfl (hb hby at_262) (by decide) (by decide) k) ?_
        show Gl _ _ _ _ _ _ _ _ (T7.setTop (mkF m 266 #[.val (.int p1), .val (.int p2), .val (.int p3), .val (.int p4), .val (.int p5), .val (.int ((p5 &&& (2147483647 : Int32)) % (5 : Int32))), .val (.int (b1_0 p1)), .val (.int (b1_0 p2)), .val (.int (b1_0 p3)), .val (.int (b1_0 p4)), .val (.ref o5), .val (.ref v11_247), .val (.ref (b2t0_0 w_BLANK))] [(.int (1 : Int32))]))
        exact J266 (1 : Int32) T7 _ X7 e7 N7
      · refine go (fun t k => Jvm.RoadKit.acmp (g := (mkF m 258 #[.val (.int p1), .val (.int p2), .val (.int p3), .val (.int p4), .val (.int p5), .val (.int ((p5 &&& (2147483647 : Int32)) % (5 : Int32))), .val (.int (b1_0 p1)), .val (.int (b1_0 p2)), .val (.int (b1_0 p3)), .val (.int (b1_0 p4)), .val (.ref o5), .val (.ref v11_247), .val (.ref (b2t0_0 w_BLANK))] [(.ref v11_247), (.ref (b2t0_0 w_BLANK))])) X7 hx rfl rfl rfl (pc0 := 258) (pc' := 265) (same := false) rfl (hb hby at_258) rfl (decide_eq_false fun q => hc258 (Value.ref.inj q)) (by decide) (by decide) k) ?_
        show Gl _ _ _ _ _ _ _ _ (T7.setTop (mkF m 265 #[.val (.int p1), .val (.int p2), .val (.int p3), .val (.int p4), .val (.int p5), .val (.int ((p5 &&& (2147483647 : Int32)) % (5 : Int32))), .val (.int (b1_0 p1)), .val (.int (b1_0 p2)), .val (.int (b1_0 p3)), .val (.int (b1_0 p4)), .val (.ref o5), .val (.ref v11_247), .val (.ref (b2t0_0 w_BLANK))] []))
        refine go (fun t k => XS.iconst X7.here hx rfl (hb hby at_265) k) ?_
        show Gl _ _ _ _ _ _ _ _ (T7.setTop (mkF m 266 #[.val (.int p1), .val (.int p2), .val (.int p3), .val (.int p4), .val (.int p5), .val (.int ((p5 &&& (2147483647 : Int32)) % (5 : Int32))), .val (.int (b1_0 p1)), .val (.int (b1_0 p2)), .val (.int (b1_0 p3)), .val (.int (b1_0 p4)), .val (.ref o5), .val (.ref v11_247), .val (.ref (b2t0_0 w_BLANK))] [(.int (0 : Int32))]))
        exact J266 (0 : Int32) T7 _ X7 e7 N7
    have J167 : ∀  (TJ167 : State) (lJ167 : List Loc) (XJ167 : Stand p l e room_1 s m #[(.int p1), (.int p2), (.int p3), (.int p4), (.int p5)] below meth c TJ167 lJ167 5 44) (eJ167 : TJ167.heap = h5) (NJ167 : Fr n0 lJ167), Gl p e below s n0 room_1.cells room_1.slots (Kv (some (.int (b0_167 p2 p3 p4 p5 w_XACML w_COMPACT w_BLANK))) (fun _ => True)) (TJ167.setTop (mkF m 167 #[.val (.int p1), .val (.int p2), .val (.int p3), .val (.int p4), .val (.int p5), .val (.int ((p5 &&& (2147483647 : Int32)) % (5 : Int32))), .val (.int (b1_0 p1)), .val (.int (b1_0 p2)), .val (.int (b1_0 p3)), .val (.int (b1_0 p4)), .val (.ref o5), .unset, .unset] [])) := by
      intro  TJ167 lJ167 XJ167 eJ167 NJ167
      show Gl _ _ _ _ _ _ _ (Kv (some (.int (if (1 : Int32) < ((p5 &&& (2147483647 : Int32)) % (5 : Int32)) then (if (b3_0 (b1_0 p2)) = (1 : Int32) then (b0_192 p3 p4 p5 w_XACML w_COMPACT w_BLANK) else (b0_247 w_BLANK (b4_0 (b1_0 p2) w_XACML w_COMPACT))) else (b0_192 p3 p4 p5 w_XACML w_COMPACT w_BLANK)))) _) _
      refine go (fun t k => XS.iload XJ167.here hx rfl (hb hby at_167) rfl  k) ?_
      show Gl _ _ _ _ _ _ _ _ (TJ167.setTop (mkF m 169 #[.val (.int p1), .val (.int p2), .val (.int p3), .val (.int p4), .val (.int p5), .val (.int ((p5 &&& (2147483647 : Int32)) % (5 : Int32))), .val (.int (b1_0 p1)), .val (.int (b1_0 p2)), .val (.int (b1_0 p3)), .val (.int (b1_0 p4)), .val (.ref o5), .unset, .unset] [(.int ((p5 &&& (2147483647 : Int32)) % (5 : Int32)))]))
      refine go (fun t k => XS.iconst XJ167.here hx rfl (hb hby at_169) k) ?_
      show Gl _ _ _ _ _ _ _ _ (TJ167.setTop (mkF m 170 #[.val (.int p1), .val (.int p2), .val (.int p3), .val (.int p4), .val (.int p5), .val (.int ((p5 &&& (2147483647 : Int32)) % (5 : Int32))), .val (.int (b1_0 p1)), .val (.int (b1_0 p2)), .val (.int (b1_0 p3)), .val (.int (b1_0 p4)), .val (.ref o5), .unset, .unset] [(.int (1 : Int32)), (.int ((p5 &&& (2147483647 : Int32)) % (5 : Int32)))]))
      have J192 : ∀  (TJ192 : State) (lJ192 : List Loc) (XJ192 : Stand p l e room_1 s m #[(.int p1), (.int p2), (.int p3), (.int p4), (.int p5)] below meth c TJ192 lJ192 5 44) (eJ192 : TJ192.heap = h5) (NJ192 : Fr n0 lJ192), Gl p e below s n0 room_1.cells room_1.slots (Kv (some (.int (b0_192 p3 p4 p5 w_XACML w_COMPACT w_BLANK))) (fun _ => True)) (TJ192.setTop (mkF m 192 #[.val (.int p1), .val (.int p2), .val (.int p3), .val (.int p4), .val (.int p5), .val (.int ((p5 &&& (2147483647 : Int32)) % (5 : Int32))), .val (.int (b1_0 p1)), .val (.int (b1_0 p2)), .val (.int (b1_0 p3)), .val (.int (b1_0 p4)), .val (.ref o5), .unset, .unset] [])) := by
        intro  TJ192 lJ192 XJ192 eJ192 NJ192
        show Gl _ _ _ _ _ _ _ (Kv (some (.int (if (2 : Int32) < ((p5 &&& (2147483647 : Int32)) % (5 : Int32)) then (if (b3_0 (b1_0 p3)) = (1 : Int32) then (b0_217 p4 p5 w_XACML w_COMPACT w_BLANK) else (b0_247 w_BLANK (b4_0 (b1_0 p3) w_XACML w_COMPACT))) else (b0_217 p4 p5 w_XACML w_COMPACT w_BLANK)))) _) _
        refine go (fun t k => XS.iload XJ192.here hx rfl (hb hby at_192) rfl  k) ?_
        show Gl _ _ _ _ _ _ _ _ (TJ192.setTop (mkF m 194 #[.val (.int p1), .val (.int p2), .val (.int p3), .val (.int p4), .val (.int p5), .val (.int ((p5 &&& (2147483647 : Int32)) % (5 : Int32))), .val (.int (b1_0 p1)), .val (.int (b1_0 p2)), .val (.int (b1_0 p3)), .val (.int (b1_0 p4)), .val (.ref o5), .unset, .unset] [(.int ((p5 &&& (2147483647 : Int32)) % (5 : Int32)))]))
        refine go (fun t k => XS.iconst XJ192.here hx rfl (hb hby at_194) k) ?_
        show Gl _ _ _ _ _ _ _ _ (TJ192.setTop (mkF m 195 #[.val (.int p1), .val (.int p2), .val (.int p3), .val (.int p4), .val (.int p5), .val (.int ((p5 &&& (2147483647 : Int32)) % (5 : Int32))), .val (.int (b1_0 p1)), .val (.int (b1_0 p2)), .val (.int (b1_0 p3)), .val (.int (b1_0 p4)), .val (.ref o5), .unset, .unset] [(.int (2 : Int32)), (.int ((p5 &&& (2147483647 : Int32)) % (5 : Int32)))]))
        have J217 : ∀  (TJ217 : State) (lJ217 : List Loc) (XJ217 : Stand p l e room_1 s m #[(.int p1), (.int p2), (.int p3), (.int p4), (.int p5)] below meth c TJ217 lJ217 5 44) (eJ217 : TJ217.heap = h5) (NJ217 : Fr n0 lJ217), Gl p e below s n0 room_1.cells room_1.slots (Kv (some (.int (b0_217 p4 p5 w_XACML w_COMPACT w_BLANK))) (fun _ => True)) (TJ217.setTop (mkF m 217 #[.val (.int p1), .val (.int p2), .val (.int p3), .val (.int p4), .val (.int p5), .val (.int ((p5 &&& (2147483647 : Int32)) % (5 : Int32))), .val (.int (b1_0 p1)), .val (.int (b1_0 p2)), .val (.int (b1_0 p3)), .val (.int (b1_0 p4)), .val (.ref o5), .unset, .unset] [])) := by
          intro  TJ217 lJ217 XJ217 eJ217 NJ217
          show Gl _ _ _ _ _ _ _ (Kv (some (.int (if (3 : Int32) < ((p5 &&& (2147483647 : Int32)) % (5 : Int32)) then (if (b3_0 (b1_0 p4)) = (1 : Int32) then (b0_242 w_BLANK) else (b0_247 w_BLANK (b4_0 (b1_0 p4) w_XACML w_COMPACT))) else (b0_242 w_BLANK)))) _) _
          refine go (fun t k => XS.iload XJ217.here hx rfl (hb hby at_217) rfl  k) ?_
          show Gl _ _ _ _ _ _ _ _ (TJ217.setTop (mkF m 219 #[.val (.int p1), .val (.int p2), .val (.int p3), .val (.int p4), .val (.int p5), .val (.int ((p5 &&& (2147483647 : Int32)) % (5 : Int32))), .val (.int (b1_0 p1)), .val (.int (b1_0 p2)), .val (.int (b1_0 p3)), .val (.int (b1_0 p4)), .val (.ref o5), .unset, .unset] [(.int ((p5 &&& (2147483647 : Int32)) % (5 : Int32)))]))
          refine go (fun t k => XS.iconst XJ217.here hx rfl (hb hby at_219) k) ?_
          show Gl _ _ _ _ _ _ _ _ (TJ217.setTop (mkF m 220 #[.val (.int p1), .val (.int p2), .val (.int p3), .val (.int p4), .val (.int p5), .val (.int ((p5 &&& (2147483647 : Int32)) % (5 : Int32))), .val (.int (b1_0 p1)), .val (.int (b1_0 p2)), .val (.int (b1_0 p3)), .val (.int (b1_0 p4)), .val (.ref o5), .unset, .unset] [(.int (3 : Int32)), (.int ((p5 &&& (2147483647 : Int32)) % (5 : Int32)))]))
          have J242 : ∀  (TJ242 : State) (lJ242 : List Loc) (XJ242 : Stand p l e room_1 s m #[(.int p1), (.int p2), (.int p3), (.int p4), (.int p5)] below meth c TJ242 lJ242 5 44) (eJ242 : TJ242.heap = h5) (NJ242 : Fr n0 lJ242), Gl p e below s n0 room_1.cells room_1.slots (Kv (some (.int (b0_242 w_BLANK))) (fun _ => True)) (TJ242.setTop (mkF m 242 #[.val (.int p1), .val (.int p2), .val (.int p3), .val (.int p4), .val (.int p5), .val (.int ((p5 &&& (2147483647 : Int32)) % (5 : Int32))), .val (.int (b1_0 p1)), .val (.int (b1_0 p2)), .val (.int (b1_0 p3)), .val (.int (b1_0 p4)), .val (.ref o5), .unset, .unset] [])) := by
            intro  TJ242 lJ242 XJ242 eJ242 NJ242
            show Gl _ _ _ _ _ _ _ (Kv (some (.int (b0_247 w_BLANK w_BLANK))) _) _
            obtain ⟨T13, X13, e13, st13⟩ := getS2 XJ242 hx hZ hown (host := "") (Or.inl (hw _ (List.mem_of_getElem? (i := 6) rfl))) Via.refl eJ242 ((sta_keep0 (sta_keep0 (sta_keep0 (sta_keep0 S_BLANK K1q) K2q) K3q) K4q).ext E5) (g := (mkF m 242 #[.val (.int p1), .val (.int p2), .val (.int p3), .val (.int p4), .val (.int p5), .val (.int ((p5 &&& (2147483647 : Int32)) % (5 : Int32))), .val (.int (b1_0 p1)), .val (.int (b1_0 p2)), .val (.int (b1_0 p3)), .val (.int (b1_0 p4)), .val (.ref o5), .unset, .unset] [])) rfl (hb hby at_242)
            refine go (fun t k => st13 _ k) ?_
            show Gl _ _ _ _ _ _ _ _ (T13.setTop (mkF m 245 #[.val (.int p1), .val (.int p2), .val (.int p3), .val (.int p4), .val (.int p5), .val (.int ((p5 &&& (2147483647 : Int32)) % (5 : Int32))), .val (.int (b1_0 p1)), .val (.int (b1_0 p2)), .val (.int (b1_0 p3)), .val (.int (b1_0 p4)), .val (.ref o5), .unset, .unset] [(.ref w_BLANK)]))
            refine go (fun t k => XS.astore X13.here hx rfl (hb hby at_245) rfl rfl (l' := #[.val (.int p1), .val (.int p2), .val (.int p3), .val (.int p4), .val (.int p5), .val (.int ((p5 &&& (2147483647 : Int32)) % (5 : Int32))), .val (.int (b1_0 p1)), .val (.int (b1_0 p2)), .val (.int (b1_0 p3)), .val (.int (b1_0 p4)), .val (.ref o5), .val (.ref w_BLANK), .unset]) rfl k) ?_
            show Gl _ _ _ _ _ _ _ _ (T13.setTop (mkF m 247 #[.val (.int p1), .val (.int p2), .val (.int p3), .val (.int p4), .val (.int p5), .val (.int ((p5 &&& (2147483647 : Int32)) % (5 : Int32))), .val (.int (b1_0 p1)), .val (.int (b1_0 p2)), .val (.int (b1_0 p3)), .val (.int (b1_0 p4)), .val (.ref o5), .val (.ref w_BLANK), .unset] []))
            exact J247 w_BLANK T13 _ X13 e13 NJ242
          refine gI (c := (3 : Int32) < ((p5 &&& (2147483647 : Int32)) % (5 : Int32))) (fun hc220 => ?_) (fun hc220 => ?_)
          · refine go (fun t k => XS.icmpNo XJ217.here hx rfl (hb hby at_220) rfl (tlt hc220).2.2.2 k) ?_
            show Gl _ _ _ _ _ _ _ _ (TJ217.setTop (mkF m 223 #[.val (.int p1), .val (.int p2), .val (.int p3), .val (.int p4), .val (.int p5), .val (.int ((p5 &&& (2147483647 : Int32)) % (5 : Int32))), .val (.int (b1_0 p1)), .val (.int (b1_0 p2)), .val (.int (b1_0 p3)), .val (.int (b1_0 p4)), .val (.ref o5), .unset, .unset] []))
            refine go (fun t k => XS.iload XJ217.here hx rfl (hb hby at_223) rfl  k) ?_
            show Gl _ _ _ _ _ _ _ _ (TJ217.setTop (mkF m 225 #[.val (.int p1), .val (.int p2), .val (.int p3), .val (.int p4), .val (.int p5), .val (.int ((p5 &&& (2147483647 : Int32)) % (5 : Int32))), .val (.int (b1_0 p1)), .val (.int (b1_0 p2)), .val (.int (b1_0 p3)), .val (.int (b1_0 p4)), .val (.ref o5), .unset, .unset] [(.int (b1_0 p4))]))
            obtain ⟨_, _, ⟨T14, L14, k14, n14⟩, -, X14, ⟨Lc14, hQ14, l14, y14, z14⟩, st14⟩ := Jvm.LawKit.callS XJ217 hx (y := (⟨"com/example/policylint/policylint/PolicySyntaxOfPinLaw", "cls", "(B)I"⟩ : MethodName)) hown (mvT hZ (hw _ (List.mem_of_getElem? (i := 13) rfl))) (mvT hZ (hw _ (List.mem_of_getElem? (i := 14) rfl))) (mvT hZ (hw _ (List.mem_of_getElem? (i := 3) rfl))) (mvT hZ (hw _ (List.mem_of_getElem? (i := 15) rfl))) (by decide) (backOf (W := 0) (rm3 l Z a0 hw [] (b1_0 p4) h5 n0 (Nat.le_trans (Nat.le_trans (Nat.le_trans (Nat.le_trans (Nat.le_trans Z0 K1q.1) K2q.1) K3q.1) K4q.1) E5.1) ) hZ (hw _ (List.mem_of_getElem? (i := 15) rfl)) (hw _ (List.mem_of_getElem? (i := 3) rfl)) (by decide) (by decide)) (g := (mkF m 225 #[.val (.int p1), .val (.int p2), .val (.int p3), .val (.int p4), .val (.int p5), .val (.int ((p5 &&& (2147483647 : Int32)) % (5 : Int32))), .val (.int (b1_0 p1)), .val (.int (b1_0 p2)), .val (.int (b1_0 p3)), .val (.int (b1_0 p4)), .val (.ref o5), .unset, .unset] [(.int (b1_0 p4))])) rfl (by rw [hml]; rfl) (argsL := [(.int (b1_0 p4))]) (rest := []) (lenOf pd_0 rfl) rfl (by show 2 * 0 + _ ≤ _; exact Nat.le_of_eq rfl) (hb hby at_225) (fun _ _ => ⟨rfl, eJ217, (by decide : 5 + 0 ≤ _), (by decide : 44 + 0 ≤ _)⟩)
            dsimp only [Pt.U, Pt.locs, Pt.cells, Pt.slots] at X14 l14 y14 z14 st14 hQ14
            subst l14 y14 z14
            have X14 : Stand p l e room_1 s m #[(.int p1), (.int p2), (.int p3), (.int p4), (.int p5)] below meth c T14 _ 5 44 := X14
            obtain ⟨⟨rfl, e14'⟩, N14q⟩ := hQ14
            have e14 : T14.heap = h5 := e14'
            have N14 := Fr.app NJ217 N14q
            refine go (fun t k => st14 _ k) ?_
            show Gl _ _ _ _ _ _ _ _ (T14.setTop (mkF m 228 #[.val (.int p1), .val (.int p2), .val (.int p3), .val (.int p4), .val (.int p5), .val (.int ((p5 &&& (2147483647 : Int32)) % (5 : Int32))), .val (.int (b1_0 p1)), .val (.int (b1_0 p2)), .val (.int (b1_0 p3)), .val (.int (b1_0 p4)), .val (.ref o5), .unset, .unset] [(.int (b3_0 (b1_0 p4)))]))
            refine go (fun t k => XS.iconst X14.here hx rfl (hb hby at_228) k) ?_
            show Gl _ _ _ _ _ _ _ _ (T14.setTop (mkF m 229 #[.val (.int p1), .val (.int p2), .val (.int p3), .val (.int p4), .val (.int p5), .val (.int ((p5 &&& (2147483647 : Int32)) % (5 : Int32))), .val (.int (b1_0 p1)), .val (.int (b1_0 p2)), .val (.int (b1_0 p3)), .val (.int (b1_0 p4)), .val (.ref o5), .unset, .unset] [(.int (1 : Int32)), (.int (b3_0 (b1_0 p4)))]))
            refine gI (c := (b3_0 (b1_0 p4)) = (1 : Int32)) (fun hc229 => ?_) (fun hc229 => ?_)
            · refine go (fun t k => XS.icmpYes X14.here hx rfl (pc0 := 229) (pc' := 242) rfl (hb hby at_229) rfl (teq hc229).1 (by decide) (by decide) k) ?_
              show Gl _ _ _ _ _ _ _ _ (T14.setTop (mkF m 242 #[.val (.int p1), .val (.int p2), .val (.int p3), .val (.int p4), .val (.int p5), .val (.int ((p5 &&& (2147483647 : Int32)) % (5 : Int32))), .val (.int (b1_0 p1)), .val (.int (b1_0 p2)), .val (.int (b1_0 p3)), .val (.int (b1_0 p4)), .val (.ref o5), .unset, .unset] []))
              exact J242  T14 _ X14 e14 N14
            · refine go (fun t k => XS.icmpNo X14.here hx rfl (hb hby at_229) rfl (feq hc229).1 k) ?_
              show Gl _ _ _ _ _ _ _ _ (T14.setTop (mkF m 232 #[.val (.int p1), .val (.int p2), .val (.int p3), .val (.int p4), .val (.int p5), .val (.int ((p5 &&& (2147483647 : Int32)) % (5 : Int32))), .val (.int (b1_0 p1)), .val (.int (b1_0 p2)), .val (.int (b1_0 p3)), .val (.int (b1_0 p4)), .val (.ref o5), .unset, .unset] []))
              refine go (fun t k => XS.iload X14.here hx rfl (hb hby at_232) rfl  k) ?_
              show Gl _ _ _ _ _ _ _ _ (T14.setTop (mkF m 234 #[.val (.int p1), .val (.int p2), .val (.int p3), .val (.int p4), .val (.int p5), .val (.int ((p5 &&& (2147483647 : Int32)) % (5 : Int32))), .val (.int (b1_0 p1)), .val (.int (b1_0 p2)), .val (.int (b1_0 p3)), .val (.int (b1_0 p4)), .val (.ref o5), .unset, .unset] [(.int (b1_0 p4))]))
              obtain ⟨_, _, ⟨T15, L15, k15, n15⟩, -, X15, ⟨Lc15, hQ15, l15, y15, z15⟩, st15⟩ := Jvm.LawKit.callS X14 hx (y := (⟨"com/example/policylint/policylint/PolicySyntaxOfPinLaw", "verdict", "(B)Lcom/example/policylint/policylint/PolicySyntax;"⟩ : MethodName)) hown (mvT hZ (hw _ (List.mem_of_getElem? (i := 16) rfl))) (mvT hZ (hw _ (List.mem_of_getElem? (i := 17) rfl))) (mvT hZ (hw _ (List.mem_of_getElem? (i := 3) rfl))) (mvT hZ (hw _ (List.mem_of_getElem? (i := 18) rfl))) (by decide) (backOf (W := 0) (rm4 l Z a0 hw [] (b1_0 p4) w_XACML w_COMPACT h5 n0 (Nat.le_trans (Nat.le_trans (Nat.le_trans (Nat.le_trans (Nat.le_trans Z0 K1q.1) K2q.1) K3q.1) K4q.1) E5.1) ((sta_keep0 (sta_keep0 (sta_keep0 (sta_keep0 S_XACML K1q) K2q) K3q) K4q).ext E5) ((sta_keep0 (sta_keep0 (sta_keep0 (sta_keep0 S_COMPACT K1q) K2q) K3q) K4q).ext E5)) hZ (hw _ (List.mem_of_getElem? (i := 18) rfl)) (hw _ (List.mem_of_getElem? (i := 3) rfl)) (by decide) (by decide)) (g := (mkF m 234 #[.val (.int p1), .val (.int p2), .val (.int p3), .val (.int p4), .val (.int p5), .val (.int ((p5 &&& (2147483647 : Int32)) % (5 : Int32))), .val (.int (b1_0 p1)), .val (.int (b1_0 p2)), .val (.int (b1_0 p3)), .val (.int (b1_0 p4)), .val (.ref o5), .unset, .unset] [(.int (b1_0 p4))])) rfl (by rw [hml]; rfl) (argsL := [(.int (b1_0 p4))]) (rest := []) (lenOf pd_3 rfl) rfl (by show 2 * 0 + _ ≤ _; exact Nat.le_of_eq rfl) (hb hby at_234) (fun _ _ => ⟨rfl, e14, (by decide : 5 + 0 ≤ _), (by decide : 44 + 0 ≤ _)⟩)
              dsimp only [Pt.U, Pt.locs, Pt.cells, Pt.slots] at X15 l15 y15 z15 st15 hQ15
              subst l15 y15 z15
              have X15 : Stand p l e room_1 s m #[(.int p1), (.int p2), (.int p3), (.int p4), (.int p5)] below meth c T15 _ 5 44 := X15
              obtain ⟨⟨rfl, e15'⟩, N15q⟩ := hQ15
              have e15 : T15.heap = h5 := e15'
              have N15 := Fr.app N14 N15q
              refine go (fun t k => st15 _ k) ?_
              show Gl _ _ _ _ _ _ _ _ (T15.setTop (mkF m 237 #[.val (.int p1), .val (.int p2), .val (.int p3), .val (.int p4), .val (.int p5), .val (.int ((p5 &&& (2147483647 : Int32)) % (5 : Int32))), .val (.int (b1_0 p1)), .val (.int (b1_0 p2)), .val (.int (b1_0 p3)), .val (.int (b1_0 p4)), .val (.ref o5), .unset, .unset] [(.ref (b4_0 (b1_0 p4) w_XACML w_COMPACT))]))
              refine go (fun t k => XS.astore X15.here hx rfl (hb hby at_237) rfl rfl (l' := #[.val (.int p1), .val (.int p2), .val (.int p3), .val (.int p4), .val (.int p5), .val (.int ((p5 &&& (2147483647 : Int32)) % (5 : Int32))), .val (.int (b1_0 p1)), .val (.int (b1_0 p2)), .val (.int (b1_0 p3)), .val (.int (b1_0 p4)), .val (.ref o5), .val (.ref (b4_0 (b1_0 p4) w_XACML w_COMPACT)), .unset]) rfl k) ?_
              show Gl _ _ _ _ _ _ _ _ (T15.setTop (mkF m 239 #[.val (.int p1), .val (.int p2), .val (.int p3), .val (.int p4), .val (.int p5), .val (.int ((p5 &&& (2147483647 : Int32)) % (5 : Int32))), .val (.int (b1_0 p1)), .val (.int (b1_0 p2)), .val (.int (b1_0 p3)), .val (.int (b1_0 p4)), .val (.ref o5), .val (.ref (b4_0 (b1_0 p4) w_XACML w_COMPACT)), .unset] []))
              refine go (fun t k => XS.goto X15.here hx rfl (pc0 := 239) (pc' := 247) rfl (hb hby at_239) (by decide) (by decide) k) ?_
              show Gl _ _ _ _ _ _ _ _ (T15.setTop (mkF m 247 #[.val (.int p1), .val (.int p2), .val (.int p3), .val (.int p4), .val (.int p5), .val (.int ((p5 &&& (2147483647 : Int32)) % (5 : Int32))), .val (.int (b1_0 p1)), .val (.int (b1_0 p2)), .val (.int (b1_0 p3)), .val (.int (b1_0 p4)), .val (.ref o5), .val (.ref (b4_0 (b1_0 p4) w_XACML w_COMPACT)), .unset] []))
              exact J247 (b4_0 (b1_0 p4) w_XACML w_COMPACT) T15 _ X15 e15 N15
          · refine go (fun t k => XS.icmpYes XJ217.here hx rfl (pc0 := 220) (pc' := 242) rfl (hb hby at_220) rfl (flt hc220).2.2.2 (by decide) (by decide) k) ?_
            show Gl _ _ _ _ _ _ _ _ (TJ217.setTop (mkF m 242 #[.val (.int p1), .val (.int p2), .val (.int p3), .val (.int p4), .val (.int p5), .val (.int ((p5 &&& (2147483647 : Int32)) % (5 : Int32))), .val (.int (b1_0 p1)), .val (.int (b1_0 p2)), .val (.int (b1_0 p3)), .val (.int (b1_0 p4)), .val (.ref o5), .unset, .unset] []))
            exact J242  TJ217 _ XJ217 eJ217 NJ217
        refine gI (c := (2 : Int32) < ((p5 &&& (2147483647 : Int32)) % (5 : Int32))) (fun hc195 => ?_) (fun hc195 => ?_)
        · refine go (fun t k => XS.icmpNo XJ192.here hx rfl (hb hby at_195) rfl (tlt hc195).2.2.2 k) ?_
          show Gl _ _ _ _ _ _ _ _ (TJ192.setTop (mkF m 198 #[.val (.int p1), .val (.int p2), .val (.int p3), .val (.int p4), .val (.int p5), .val (.int ((p5 &&& (2147483647 : Int32)) % (5 : Int32))), .val (.int (b1_0 p1)), .val (.int (b1_0 p2)), .val (.int (b1_0 p3)), .val (.int (b1_0 p4)), .val (.ref o5), .unset, .unset] []))
          refine go (fun t k => XS.iload XJ192.here hx rfl (hb hby at_198) rfl  k) ?_
          show Gl _ _ _ _ _ _ _ _ (TJ192.setTop (mkF m 200 #[.val (.int p1), .val (.int p2), .val (.int p3), .val (.int p4), .val (.int p5), .val (.int ((p5 &&& (2147483647 : Int32)) % (5 : Int32))), .val (.int (b1_0 p1)), .val (.int (b1_0 p2)), .val (.int (b1_0 p3)), .val (.int (b1_0 p4)), .val (.ref o5), .unset, .unset] [(.int (b1_0 p3))]))
          obtain ⟨_, _, ⟨T16, L16, k16, n16⟩, -, X16, ⟨Lc16, hQ16, l16, y16, z16⟩, st16⟩ := Jvm.LawKit.callS XJ192 hx (y := (⟨"com/example/policylint/policylint/PolicySyntaxOfPinLaw", "cls", "(B)I"⟩ : MethodName)) hown (mvT hZ (hw _ (List.mem_of_getElem? (i := 13) rfl))) (mvT hZ (hw _ (List.mem_of_getElem? (i := 14) rfl))) (mvT hZ (hw _ (List.mem_of_getElem? (i := 3) rfl))) (mvT hZ (hw _ (List.mem_of_getElem? (i := 15) rfl))) (by decide) (backOf (W := 0) (rm3 l Z a0 hw [] (b1_0 p3) h5 n0 (Nat.le_trans (Nat.le_trans (Nat.le_trans (Nat.le_trans (Nat.le_trans Z0 K1q.1) K2q.1) K3q.1) K4q.1) E5.1) ) hZ (hw _ (List.mem_of_getElem? (i := 15) rfl)) (hw _ (List.mem_of_getElem? (i := 3) rfl)) (by decide) (by decide)) (g := (mkF m 200 #[.val (.int p1), .val (.int p2), .val (.int p3), .val (.int p4), .val (.int p5), .val (.int ((p5 &&& (2147483647 : Int32)) % (5 : Int32))), .val (.int (b1_0 p1)), .val (.int (b1_0 p2)), .val (.int (b1_0 p3)), .val (.int (b1_0 p4)), .val (.ref o5), .unset, .unset] [(.int (b1_0 p3))])) rfl (by rw [hml]; rfl) (argsL := [(.int (b1_0 p3))]) (rest := []) (lenOf pd_0 rfl) rfl (by show 2 * 0 + _ ≤ _; exact Nat.le_of_eq rfl) (hb hby at_200) (fun _ _ => ⟨rfl, eJ192, (by decide : 5 + 0 ≤ _), (by decide : 44 + 0 ≤ _)⟩)
          dsimp only [Pt.U, Pt.locs, Pt.cells, Pt.slots] at X16 l16 y16 z16 st16 hQ16
          subst l16 y16 z16
          have X16 : Stand p l e room_1 s m #[(.int p1), (.int p2), (.int p3), (.int p4), (.int p5)] below meth c T16 _ 5 44 := X16
          obtain ⟨⟨rfl, e16'⟩, N16q⟩ := hQ16
          have e16 : T16.heap = h5 := e16'
          have N16 := Fr.app NJ192 N16q
          refine go (fun t k => st16 _ k) ?_
          show Gl _ _ _ _ _ _ _ _ (T16.setTop (mkF m 203 #[.val (.int p1), .val (.int p2), .val (.int p3), .val (.int p4), .val (.int p5), .val (.int ((p5 &&& (2147483647 : Int32)) % (5 : Int32))), .val (.int (b1_0 p1)), .val (.int (b1_0 p2)), .val (.int (b1_0 p3)), .val (.int (b1_0 p4)), .val (.ref o5), .unset, .unset] [(.int (b3_0 (b1_0 p3)))]))
          refine go (fun t k => XS.iconst X16.here hx rfl (hb hby at_203) k) ?_
          show Gl _ _ _ _ _ _ _ _ (T16.setTop (mkF m 204 #[.val (.int p1), .val (.int p2), .val (.int p3), .val (.int p4), .val (.int p5), .val (.int ((p5 &&& (2147483647 : Int32)) % (5 : Int32))), .val (.int (b1_0 p1)), .val (.int (b1_0 p2)), .val (.int (b1_0 p3)), .val (.int (b1_0 p4)), .val (.ref o5), .unset, .unset] [(.int (1 : Int32)), (.int (b3_0 (b1_0 p3)))]))
          refine gI (c := (b3_0 (b1_0 p3)) = (1 : Int32)) (fun hc204 => ?_) (fun hc204 => ?_)
          · refine go (fun t k => XS.icmpYes X16.here hx rfl (pc0 := 204) (pc' := 217) rfl (hb hby at_204) rfl (teq hc204).1 (by decide) (by decide) k) ?_
            show Gl _ _ _ _ _ _ _ _ (T16.setTop (mkF m 217 #[.val (.int p1), .val (.int p2), .val (.int p3), .val (.int p4), .val (.int p5), .val (.int ((p5 &&& (2147483647 : Int32)) % (5 : Int32))), .val (.int (b1_0 p1)), .val (.int (b1_0 p2)), .val (.int (b1_0 p3)), .val (.int (b1_0 p4)), .val (.ref o5), .unset, .unset] []))
            exact J217  T16 _ X16 e16 N16
          · refine go (fun t k => XS.icmpNo X16.here hx rfl (hb hby at_204) rfl (feq hc204).1 k) ?_
            show Gl _ _ _ _ _ _ _ _ (T16.setTop (mkF m 207 #[.val (.int p1), .val (.int p2), .val (.int p3), .val (.int p4), .val (.int p5), .val (.int ((p5 &&& (2147483647 : Int32)) % (5 : Int32))), .val (.int (b1_0 p1)), .val (.int (b1_0 p2)), .val (.int (b1_0 p3)), .val (.int (b1_0 p4)), .val (.ref o5), .unset, .unset] []))
            refine go (fun t k => XS.iload X16.here hx rfl (hb hby at_207) rfl  k) ?_
            show Gl _ _ _ _ _ _ _ _ (T16.setTop (mkF m 209 #[.val (.int p1), .val (.int p2), .val (.int p3), .val (.int p4), .val (.int p5), .val (.int ((p5 &&& (2147483647 : Int32)) % (5 : Int32))), .val (.int (b1_0 p1)), .val (.int (b1_0 p2)), .val (.int (b1_0 p3)), .val (.int (b1_0 p4)), .val (.ref o5), .unset, .unset] [(.int (b1_0 p3))]))
            obtain ⟨_, _, ⟨T17, L17, k17, n17⟩, -, X17, ⟨Lc17, hQ17, l17, y17, z17⟩, st17⟩ := Jvm.LawKit.callS X16 hx (y := (⟨"com/example/policylint/policylint/PolicySyntaxOfPinLaw", "verdict", "(B)Lcom/example/policylint/policylint/PolicySyntax;"⟩ : MethodName)) hown (mvT hZ (hw _ (List.mem_of_getElem? (i := 16) rfl))) (mvT hZ (hw _ (List.mem_of_getElem? (i := 17) rfl))) (mvT hZ (hw _ (List.mem_of_getElem? (i := 3) rfl))) (mvT hZ (hw _ (List.mem_of_getElem? (i := 18) rfl))) (by decide) (backOf (W := 0) (rm4 l Z a0 hw [] (b1_0 p3) w_XACML w_COMPACT h5 n0 (Nat.le_trans (Nat.le_trans (Nat.le_trans (Nat.le_trans (Nat.le_trans Z0 K1q.1) K2q.1) K3q.1) K4q.1) E5.1) ((sta_keep0 (sta_keep0 (sta_keep0 (sta_keep0 S_XACML K1q) K2q) K3q) K4q).ext E5) ((sta_keep0 (sta_keep0 (sta_keep0 (sta_keep0 S_COMPACT K1q) K2q) K3q) K4q).ext E5)) hZ (hw _ (List.mem_of_getElem? (i := 18) rfl)) (hw _ (List.mem_of_getElem? (i := 3) rfl)) (by decide) (by decide)) (g := (mkF m 209 #[.val (.int p1), .val (.int p2), .val (.int p3), .val (.int p4), .val (.int p5), .val (.int ((p5 &&& (2147483647 : Int32)) % (5 : Int32))), .val (.int (b1_0 p1)), .val (.int (b1_0 p2)), .val (.int (b1_0 p3)), .val (.int (b1_0 p4)), .val (.ref o5), .unset, .unset] [(.int (b1_0 p3))])) rfl (by rw [hml]; rfl) (argsL := [(.int (b1_0 p3))]) (rest := []) (lenOf pd_3 rfl) rfl (by show 2 * 0 + _ ≤ _; exact Nat.le_of_eq rfl) (hb hby at_209) (fun _ _ => ⟨rfl, e16, (by decide : 5 + 0 ≤ _), (by decide : 44 + 0 ≤ _)⟩)
            dsimp only [Pt.U, Pt.locs, Pt.cells, Pt.slots] at X17 l17 y17 z17 st17 hQ17
            subst l17 y17 z17
            have X17 : Stand p l e room_1 s m #[(.int p1), (.int p2), (.int p3), (.int p4), (.int p5)] below meth c T17 _ 5 44 := X17
            obtain ⟨⟨rfl, e17'⟩, N17q⟩ := hQ17
            have e17 : T17.heap = h5 := e17'
            have N17 := Fr.app N16 N17q
            refine go (fun t k => st17 _ k) ?_
            show Gl _ _ _ _ _ _ _ _ (T17.setTop (mkF m 212 #[.val (.int p1), .val (.int p2), .val (.int p3), .val (.int p4), .val (.int p5), .val (.int ((p5 &&& (2147483647 : Int32)) % (5 : Int32))), .val (.int (b1_0 p1)), .val (.int (b1_0 p2)), .val (.int (b1_0 p3)), .val (.int (b1_0 p4)), .val (.ref o5), .unset, .unset] [(.ref (b4_0 (b1_0 p3) w_XACML w_COMPACT))]))
            refine go (fun t k => XS.astore X17.here hx rfl (hb hby at_212) rfl rfl (l' := #[.val (.int p1), .val (.int p2), .val (.int p3), .val (.int p4), .val (.int p5), .val (.int ((p5 &&& (2147483647 : Int32)) % (5 : Int32))), .val (.int (b1_0 p1)), .val (.int (b1_0 p2)), .val (.int (b1_0 p3)), .val (.int (b1_0 p4)), .val (.ref o5), .val (.ref (b4_0 (b1_0 p3) w_XACML w_COMPACT)), .unset]) rfl k) ?_
            show Gl _ _ _ _ _ _ _ _ (T17.setTop (mkF m 214 #[.val (.int p1), .val (.int p2), .val (.int p3), .val (.int p4), .val (.int p5), .val (.int ((p5 &&& (2147483647 : Int32)) % (5 : Int32))), .val (.int (b1_0 p1)), .val (.int (b1_0 p2)), .val (.int (b1_0 p3)), .val (.int (b1_0 p4)), .val (.ref o5), .val (.ref (b4_0 (b1_0 p3) w_XACML w_COMPACT)), .unset] []))
            refine go (fun t k => XS.goto X17.here hx rfl (pc0 := 214) (pc' := 247) rfl (hb hby at_214) (by decide) (by decide) k) ?_
            show Gl _ _ _ _ _ _ _ _ (T17.setTop (mkF m 247 #[.val (.int p1), .val (.int p2), .val (.int p3), .val (.int p4), .val (.int p5), .val (.int ((p5 &&& (2147483647 : Int32)) % (5 : Int32))), .val (.int (b1_0 p1)), .val (.int (b1_0 p2)), .val (.int (b1_0 p3)), .val (.int (b1_0 p4)), .val (.ref o5), .val (.ref (b4_0 (b1_0 p3) w_XACML w_COMPACT)), .unset] []))
            exact J247 (b4_0 (b1_0 p3) w_XACML w_COMPACT) T17 _ X17 e17 N17
        · refine go (fun t k => XS.icmpYes XJ192.here hx rfl (pc0 := 195) (pc' := 217) rfl (hb hby at_195) rfl (flt hc195).2.2.2 (by decide) (by decide) k) ?_
          show Gl _ _ _ _ _ _ _ _ (TJ192.setTop (mkF m 217 #[.val (.int p1), .val (.int p2), .val (.int p3), .val (.int p4), .val (.int p5), .val (.int ((p5 &&& (2147483647 : Int32)) % (5 : Int32))), .val (.int (b1_0 p1)), .val (.int (b1_0 p2)), .val (.int (b1_0 p3)), .val (.int (b1_0 p4)), .val (.ref o5), .unset, .unset] []))
          exact J217  TJ192 _ XJ192 eJ192 NJ192
      refine gI (c := (1 : Int32) < ((p5 &&& (2147483647 : Int32)) % (5 : Int32))) (fun hc170 => ?_) (fun hc170 => ?_)
      · refine go (fun t k => XS.icmpNo XJ167.here hx rfl (hb hby at_170) rfl (tlt hc170).2.2.2 k) ?_
        show Gl _ _ _ _ _ _ _ _ (TJ167.setTop (mkF m 173 #[.val (.int p1), .val (.int p2), .val (.int p3), .val (.int p4), .val (.int p5), .val (.int ((p5 &&& (2147483647 : Int32)) % (5 : Int32))), .val (.int (b1_0 p1)), .val (.int (b1_0 p2)), .val (.int (b1_0 p3)), .val (.int (b1_0 p4)), .val (.ref o5), .unset, .unset] []))
        refine go (fun t k => XS.iload XJ167.here hx rfl (hb hby at_173) rfl  k) ?_
        show Gl _ _ _ _ _ _ _ _ (TJ167.setTop (mkF m 175 #[.val (.int p1), .val (.int p2), .val (.int p3), .val (.int p4), .val (.int p5), .val (.int ((p5 &&& (2147483647 : Int32)) % (5 : Int32))), .val (.int (b1_0 p1)), .val (.int (b1_0 p2)), .val (.int (b1_0 p3)), .val (.int (b1_0 p4)), .val (.ref o5), .unset, .unset] [(.int (b1_0 p2))]))
        obtain ⟨_, _, ⟨T18, L18, k18, n18⟩, -, X18, ⟨Lc18, hQ18, l18, y18, z18⟩, st18⟩ := Jvm.LawKit.callS XJ167 hx (y := (⟨"com/example/policylint/policylint/PolicySyntaxOfPinLaw", "cls", "(B)I"⟩ : MethodName)) hown (mvT hZ (hw _ (List.mem_of_getElem? (i := 13) rfl))) (mvT hZ (hw _ (List.mem_of_getElem? (i := 14) rfl))) (mvT hZ (hw _ (List.mem_of_getElem? (i := 3) rfl))) (mvT hZ (hw _ (List.mem_of_getElem? (i := 15) rfl))) (by decide) (backOf (W := 0) (rm3 l Z a0 hw [] (b1_0 p2) h5 n0 (Nat.le_trans (Nat.le_trans (Nat.le_trans (Nat.le_trans (Nat.le_trans Z0 K1q.1) K2q.1) K3q.1) K4q.1) E5.1) ) hZ (hw _ (List.mem_of_getElem? (i := 15) rfl)) (hw _ (List.mem_of_getElem? (i := 3) rfl)) (by decide) (by decide)) (g := (mkF m 175 #[.val (.int p1), .val (.int p2), .val (.int p3), .val (.int p4), .val (.int p5), .val (.int ((p5 &&& (2147483647 : Int32)) % (5 : Int32))), .val (.int (b1_0 p1)), .val (.int (b1_0 p2)), .val (.int (b1_0 p3)), .val (.int (b1_0 p4)), .val (.ref o5), .unset, .unset] [(.int (b1_0 p2))])) rfl (by rw [hml]; rfl) (argsL := [(.int (b1_0 p2))]) (rest := []) (lenOf pd_0 rfl) rfl (by show 2 * 0 + _ ≤ _; exact Nat.le_of_eq rfl) (hb hby at_175) (fun _ _ => ⟨rfl, eJ167, (by decide : 5 + 0 ≤ _), (by decide : 44 + 0 ≤ _)⟩)
        dsimp only [Pt.U, Pt.locs, Pt.cells, Pt.slots] at X18 l18 y18 z18 st18 hQ18
        subst l18 y18 z18
        have X18 : Stand p l e room_1 s m #[(.int p1), (.int p2), (.int p3), (.int p4), (.int p5)] below meth c T18 _ 5 44 := X18
        obtain ⟨⟨rfl, e18'⟩, N18q⟩ := hQ18
        have e18 : T18.heap = h5 := e18'
        have N18 := Fr.app NJ167 N18q
        refine go (fun t k => st18 _ k) ?_
        show Gl _ _ _ _ _ _ _ _ (T18.setTop (mkF m 178 #[.val (.int p1), .val (.int p2), .val (.int p3), .val (.int p4), .val (.int p5), .val (.int ((p5 &&& (2147483647 : Int32)) % (5 : Int32))), .val (.int (b1_0 p1)), .val (.int (b1_0 p2)), .val (.int (b1_0 p3)), .val (.int (b1_0 p4)), .val (.ref o5), .unset, .unset] [(.int (b3_0 (b1_0 p2)))]))
        refine go (fun t k => XS.iconst X18.here hx rfl (hb hby at_178) k) ?_
        show Gl _ _ _ _ _ _ _ _ (T18.setTop (mkF m 179 #[.val (.int p1), .val (.int p2), .val (.int p3), .val (.int p4), .val (.int p5), .val (.int ((p5 &&& (2147483647 : Int32)) % (5 : Int32))), .val (.int (b1_0 p1)), .val (.int (b1_0 p2)), .val (.int (b1_0 p3)), .val (.int (b1_0 p4)), .val (.ref o5), .unset, .unset] [(.int (1 : Int32)), (.int (b3_0 (b1_0 p2)))]))
        refine gI (c := (b3_0 (b1_0 p2)) = (1 : Int32)) (fun hc179 => ?_) (fun hc179 => ?_)
        · refine go (fun t k => XS.icmpYes X18.here hx rfl (pc0 := 179) (pc' := 192) rfl (hb hby at_179) rfl (teq hc179).1 (by decide) (by decide) k) ?_
          show Gl _ _ _ _ _ _ _ _ (T18.setTop (mkF m 192 #[.val (.int p1), .val (.int p2), .val (.int p3), .val (.int p4), .val (.int p5), .val (.int ((p5 &&& (2147483647 : Int32)) % (5 : Int32))), .val (.int (b1_0 p1)), .val (.int (b1_0 p2)), .val (.int (b1_0 p3)), .val (.int (b1_0 p4)), .val (.ref o5), .unset, .unset] []))
          exact J192  T18 _ X18 e18 N18
        · refine go (fun t k => XS.icmpNo X18.here hx rfl (hb hby at_179) rfl (feq hc179).1 k) ?_
          show Gl _ _ _ _ _ _ _ _ (T18.setTop (mkF m 182 #[.val (.int p1), .val (.int p2), .val (.int p3), .val (.int p4), .val (.int p5), .val (.int ((p5 &&& (2147483647 : Int32)) % (5 : Int32))), .val (.int (b1_0 p1)), .val (.int (b1_0 p2)), .val (.int (b1_0 p3)), .val (.int (b1_0 p4)), .val (.ref o5), .unset, .unset] []))
          refine go (fun t k => XS.iload X18.here hx rfl (hb hby at_182) rfl  k) ?_
          show Gl _ _ _ _ _ _ _ _ (T18.setTop (mkF m 184 #[.val (.int p1), .val (.int p2), .val (.int p3), .val (.int p4), .val (.int p5), .val (.int ((p5 &&& (2147483647 : Int32)) % (5 : Int32))), .val (.int (b1_0 p1)), .val (.int (b1_0 p2)), .val (.int (b1_0 p3)), .val (.int (b1_0 p4)), .val (.ref o5), .unset, .unset] [(.int (b1_0 p2))]))
          obtain ⟨_, _, ⟨T19, L19, k19, n19⟩, -, X19, ⟨Lc19, hQ19, l19, y19, z19⟩, st19⟩ := Jvm.LawKit.callS X18 hx (y := (⟨"com/example/policylint/policylint/PolicySyntaxOfPinLaw", "verdict", "(B)Lcom/example/policylint/policylint/PolicySyntax;"⟩ : MethodName)) hown (mvT hZ (hw _ (List.mem_of_getElem? (i := 16) rfl))) (mvT hZ (hw _ (List.mem_of_getElem? (i := 17) rfl))) (mvT hZ (hw _ (List.mem_of_getElem? (i := 3) rfl))) (mvT hZ (hw _ (List.mem_of_getElem? (i := 18) rfl))) (by decide) (backOf (W := 0) (rm4 l Z a0 hw [] (b1_0 p2) w_XACML w_COMPACT h5 n0 (Nat.le_trans (Nat.le_trans (Nat.le_trans (Nat.le_trans (Nat.le_trans Z0 K1q.1) K2q.1) K3q.1) K4q.1) E5.1) ((sta_keep0 (sta_keep0 (sta_keep0 (sta_keep0 S_XACML K1q) K2q) K3q) K4q).ext E5) ((sta_keep0 (sta_keep0 (sta_keep0 (sta_keep0 S_COMPACT K1q) K2q) K3q) K4q).ext E5)) hZ (hw _ (List.mem_of_getElem? (i := 18) rfl)) (hw _ (List.mem_of_getElem? (i := 3) rfl)) (by decide) (by decide)) (g := (mkF m 184 #[.val (.int p1), .val (.int p2), .val (.int p3), .val (.int p4), .val (.int p5), .val (.int ((p5 &&& (2147483647 : Int32)) % (5 : Int32))), .val (.int (b1_0 p1)), .val (.int (b1_0 p2)), .val (.int (b1_0 p3)), .val (.int (b1_0 p4)), .val (.ref o5), .unset, .unset] [(.int (b1_0 p2))])) rfl (by rw [hml]; rfl) (argsL := [(.int (b1_0 p2))]) (rest := []) (lenOf pd_3 rfl) rfl (by show 2 * 0 + _ ≤ _; exact Nat.le_of_eq rfl) (hb hby at_184) (fun _ _ => ⟨rfl, e18, (by decide : 5 + 0 ≤ _), (by decide : 44 + 0 ≤ _)⟩)
          dsimp only [Pt.U, Pt.locs, Pt.cells, Pt.slots] at X19 l19 y19 z19 st19 hQ19
          subst l19 y19 z19
          have X19 : Stand p l e room_1 s m #[(.int p1), (.int p2), (.int p3), (.int p4), (.int p5)] below meth c T19 _ 5 44 := X19
          obtain ⟨⟨rfl, e19'⟩, N19q⟩ := hQ19
          have e19 : T19.heap = h5 := e19'
          have N19 := Fr.app N18 N19q
          refine go (fun t k => st19 _ k) ?_
          show Gl _ _ _ _ _ _ _ _ (T19.setTop (mkF m 187 #[.val (.int p1), .val (.int p2), .val (.int p3), .val (.int p4), .val (.int p5), .val (.int ((p5 &&& (2147483647 : Int32)) % (5 : Int32))), .val (.int (b1_0 p1)), .val (.int (b1_0 p2)), .val (.int (b1_0 p3)), .val (.int (b1_0 p4)), .val (.ref o5), .unset, .unset] [(.ref (b4_0 (b1_0 p2) w_XACML w_COMPACT))]))
          refine go (fun t k => XS.astore X19.here hx rfl (hb hby at_187) rfl rfl (l' := #[.val (.int p1), .val (.int p2), .val (.int p3), .val (.int p4), .val (.int p5), .val (.int ((p5 &&& (2147483647 : Int32)) % (5 : Int32))), .val (.int (b1_0 p1)), .val (.int (b1_0 p2)), .val (.int (b1_0 p3)), .val (.int (b1_0 p4)), .val (.ref o5), .val (.ref (b4_0 (b1_0 p2) w_XACML w_COMPACT)), .unset]) rfl k) ?_
          show Gl _ _ _ _ _ _ _ _ (T19.setTop (mkF m 189 #[.val (.int p1), .val (.int p2), .val (.int p3), .val (.int p4), .val (.int p5), .val (.int ((p5 &&& (2147483647 : Int32)) % (5 : Int32))), .val (.int (b1_0 p1)), .val (.int (b1_0 p2)), .val (.int (b1_0 p3)), .val (.int (b1_0 p4)), .val (.ref o5), .val (.ref (b4_0 (b1_0 p2) w_XACML w_COMPACT)), .unset] []))
          refine go (fun t k => XS.goto X19.here hx rfl (pc0 := 189) (pc' := 247) rfl (hb hby at_189) (by decide) (by decide) k) ?_
          show Gl _ _ _ _ _ _ _ _ (T19.setTop (mkF m 247 #[.val (.int p1), .val (.int p2), .val (.int p3), .val (.int p4), .val (.int p5), .val (.int ((p5 &&& (2147483647 : Int32)) % (5 : Int32))), .val (.int (b1_0 p1)), .val (.int (b1_0 p2)), .val (.int (b1_0 p3)), .val (.int (b1_0 p4)), .val (.ref o5), .val (.ref (b4_0 (b1_0 p2) w_XACML w_COMPACT)), .unset] []))
          exact J247 (b4_0 (b1_0 p2) w_XACML w_COMPACT) T19 _ X19 e19 N19
      · refine go (fun t k => XS.icmpYes XJ167.here hx rfl (pc0 := 170) (pc' := 192) rfl (hb hby at_170) rfl (flt hc170).2.2.2 (by decide) (by decide) k) ?_
        show Gl _ _ _ _ _ _ _ _ (TJ167.setTop (mkF m 192 #[.val (.int p1), .val (.int p2), .val (.int p3), .val (.int p4), .val (.int p5), .val (.int ((p5 &&& (2147483647 : Int32)) % (5 : Int32))), .val (.int (b1_0 p1)), .val (.int (b1_0 p2)), .val (.int (b1_0 p3)), .val (.int (b1_0 p4)), .val (.ref o5), .unset, .unset] []))
        exact J192  TJ167 _ XJ167 eJ167 NJ167
    refine gI (c := (0 : Int32) < ((p5 &&& (2147483647 : Int32)) % (5 : Int32))) (fun hc145 => ?_) (fun hc145 => ?_)
    · refine go (fun t k => XS.ifNo X5.here hx rfl (hb hby at_145) rfl ((if0 _ _).trans (tlt hc145).2.2.2) k) ?_
      show Gl _ _ _ _ _ _ _ _ (T5.setTop (mkF m 148 #[.val (.int p1), .val (.int p2), .val (.int p3), .val (.int p4), .val (.int p5), .val (.int ((p5 &&& (2147483647 : Int32)) % (5 : Int32))), .val (.int (b1_0 p1)), .val (.int (b1_0 p2)), .val (.int (b1_0 p3)), .val (.int (b1_0 p4)), .val (.ref o5), .unset, .unset] []))
      refine go (fun t k => XS.iload X5.here hx rfl (hb hby at_148) rfl  k) ?_
      show Gl _ _ _ _ _ _ _ _ (T5.setTop (mkF m 150 #[.val (.int p1), .val (.int p2), .val (.int p3), .val (.int p4), .val (.int p5), .val (.int ((p5 &&& (2147483647 : Int32)) % (5 : Int32))), .val (.int (b1_0 p1)), .val (.int (b1_0 p2)), .val (.int (b1_0 p3)), .val (.int (b1_0 p4)), .val (.ref o5), .unset, .unset] [(.int (b1_0 p1))]))
      obtain ⟨_, _, ⟨T20, L20, k20, n20⟩, -, X20, ⟨Lc20, hQ20, l20, y20, z20⟩, st20⟩ := Jvm.LawKit.callS X5 hx (y := (⟨"com/example/policylint/policylint/PolicySyntaxOfPinLaw", "cls", "(B)I"⟩ : MethodName)) hown (mvT hZ (hw _ (List.mem_of_getElem? (i := 13) rfl))) (mvT hZ (hw _ (List.mem_of_getElem? (i := 14) rfl))) (mvT hZ (hw _ (List.mem_of_getElem? (i := 3) rfl))) (mvT hZ (hw _ (List.mem_of_getElem? (i := 15) rfl))) (by decide) (backOf (W := 0) (rm3 l Z a0 hw [] (b1_0 p1) h5 n0 (Nat.le_trans (Nat.le_trans (Nat.le_trans (Nat.le_trans (Nat.le_trans Z0 K1q.1) K2q.1) K3q.1) K4q.1) E5.1) ) hZ (hw _ (List.mem_of_getElem? (i := 15) rfl)) (hw _ (List.mem_of_getElem? (i := 3) rfl)) (by decide) (by decide)) (g := (mkF m 150 #[.val (.int p1), .val (.int p2), .val (.int p3), .val (.int p4), .val (.int p5), .val (.int ((p5 &&& (2147483647 : Int32)) % (5 : Int32))), .val (.int (b1_0 p1)), .val (.int (b1_0 p2)), .val (.int (b1_0 p3)), .val (.int (b1_0 p4)), .val (.ref o5), .unset, .unset] [(.int (b1_0 p1))])) rfl (by rw [hml]; rfl) (argsL := [(.int (b1_0 p1))]) (rest := []) (lenOf pd_0 rfl) rfl (by show 2 * 0 + _ ≤ _; exact Nat.le_of_eq rfl) (hb hby at_150) (fun _ _ => ⟨rfl, e5, (by decide : 5 + 0 ≤ _), (by decide : 44 + 0 ≤ _)⟩)
      dsimp only [Pt.U, Pt.locs, Pt.cells, Pt.slots] at X20 l20 y20 z20 st20 hQ20
      subst l20 y20 z20
      have X20 : Stand p l e room_1 s m #[(.int p1), (.int p2), (.int p3), (.int p4), (.int p5)] below meth c T20 _ 5 44 := X20
      obtain ⟨⟨rfl, e20'⟩, N20q⟩ := hQ20
      have e20 : T20.heap = h5 := e20'
      have N20 := Fr.app N4 N20q
      refine go (fun t k => st20 _ k) ?_
      show Gl _ _ _ _ _ _ _ _ (T20.setTop (mkF m 153 #[.val (.int p1), .val (.int p2), .val (.int p3), .val (.int p4), .val (.int p5), .val (.int ((p5 &&& (2147483647 : Int32)) % (5 : Int32))), .val (.int (b1_0 p1)), .val (.int (b1_0 p2)), .val (.int (b1_0 p3)), .val (.int (b1_0 p4)), .val (.ref o5), .unset, .unset] [(.int (b3_0 (b1_0 p1)))]))
      refine go (fun t k => XS.iconst X20.here hx rfl (hb hby at_153) k) ?_
      show Gl _ _ _ _ _ _ _ _ (T20.setTop (mkF m 154 #[.val (.int p1), .val (.int p2), .val (.int p3), .val (.int p4), .val (.int p5), .val (.int ((p5 &&& (2147483647 : Int32)) % (5 : Int32))), .val (.int (b1_0 p1)), .val (.int (b1_0 p2)), .val (.int (b1_0 p3)), .val (.int (b1_0 p4)), .val (.ref o5), .unset, .unset] [(.int (1 : Int32)), (.int (b3_0 (b1_0 p1)))]))
      refine gI (c := (b3_0 (b1_0 p1)) = (1 : Int32)) (fun hc154 => ?_) (fun hc154 => ?_)
      · refine go (fun t k => XS.icmpYes X20.here hx rfl (pc0 := 154) (pc' := 167) rfl (hb hby at_154) rfl (teq hc154).1 (by decide) (by decide) k) ?_
        show Gl _ _ _ _ _ _ _ _ (T20.setTop (mkF m 167 #[.val (.int p1), .val (.int p2), .val (.int p3), .val (.int p4), .val (.int p5), .val (.int ((p5 &&& (2147483647 : Int32)) % (5 : Int32))), .val (.int (b1_0 p1)), .val (.int (b1_0 p2)), .val (.int (b1_0 p3)), .val (.int (b1_0 p4)), .val (.ref o5), .unset, .unset] []))
        exact J167  T20 _ X20 e20 N20
      · refine go (fun t k => XS.icmpNo X20.here hx rfl (hb hby at_154) rfl (feq hc154).1 k) ?_
        show Gl _ _ _ _ _ _ _ _ (T20.setTop (mkF m 157 #[.val (.int p1), .val (.int p2), .val (.int p3), .val (.int p4), .val (.int p5), .val (.int ((p5 &&& (2147483647 : Int32)) % (5 : Int32))), .val (.int (b1_0 p1)), .val (.int (b1_0 p2)), .val (.int (b1_0 p3)), .val (.int (b1_0 p4)), .val (.ref o5), .unset, .unset] []))
        refine go (fun t k => XS.iload X20.here hx rfl (hb hby at_157) rfl  k) ?_
        show Gl _ _ _ _ _ _ _ _ (T20.setTop (mkF m 159 #[.val (.int p1), .val (.int p2), .val (.int p3), .val (.int p4), .val (.int p5), .val (.int ((p5 &&& (2147483647 : Int32)) % (5 : Int32))), .val (.int (b1_0 p1)), .val (.int (b1_0 p2)), .val (.int (b1_0 p3)), .val (.int (b1_0 p4)), .val (.ref o5), .unset, .unset] [(.int (b1_0 p1))]))
        obtain ⟨_, _, ⟨T21, L21, k21, n21⟩, -, X21, ⟨Lc21, hQ21, l21, y21, z21⟩, st21⟩ := Jvm.LawKit.callS X20 hx (y := (⟨"com/example/policylint/policylint/PolicySyntaxOfPinLaw", "verdict", "(B)Lcom/example/policylint/policylint/PolicySyntax;"⟩ : MethodName)) hown (mvT hZ (hw _ (List.mem_of_getElem? (i := 16) rfl))) (mvT hZ (hw _ (List.mem_of_getElem? (i := 17) rfl))) (mvT hZ (hw _ (List.mem_of_getElem? (i := 3) rfl))) (mvT hZ (hw _ (List.mem_of_getElem? (i := 18) rfl))) (by decide) (backOf (W := 0) (rm4 l Z a0 hw [] (b1_0 p1) w_XACML w_COMPACT h5 n0 (Nat.le_trans (Nat.le_trans (Nat.le_trans (Nat.le_trans (Nat.le_trans Z0 K1q.1) K2q.1) K3q.1) K4q.1) E5.1) ((sta_keep0 (sta_keep0 (sta_keep0 (sta_keep0 S_XACML K1q) K2q) K3q) K4q).ext E5) ((sta_keep0 (sta_keep0 (sta_keep0 (sta_keep0 S_COMPACT K1q) K2q) K3q) K4q).ext E5)) hZ (hw _ (List.mem_of_getElem? (i := 18) rfl)) (hw _ (List.mem_of_getElem? (i := 3) rfl)) (by decide) (by decide)) (g := (mkF m 159 #[.val (.int p1), .val (.int p2), .val (.int p3), .val (.int p4), .val (.int p5), .val (.int ((p5 &&& (2147483647 : Int32)) % (5 : Int32))), .val (.int (b1_0 p1)), .val (.int (b1_0 p2)), .val (.int (b1_0 p3)), .val (.int (b1_0 p4)), .val (.ref o5), .unset, .unset] [(.int (b1_0 p1))])) rfl (by rw [hml]; rfl) (argsL := [(.int (b1_0 p1))]) (rest := []) (lenOf pd_3 rfl) rfl (by show 2 * 0 + _ ≤ _; exact Nat.le_of_eq rfl) (hb hby at_159) (fun _ _ => ⟨rfl, e20, (by decide : 5 + 0 ≤ _), (by decide : 44 + 0 ≤ _)⟩)
        dsimp only [Pt.U, Pt.locs, Pt.cells, Pt.slots] at X21 l21 y21 z21 st21 hQ21
        subst l21 y21 z21
        have X21 : Stand p l e room_1 s m #[(.int p1), (.int p2), (.int p3), (.int p4), (.int p5)] below meth c T21 _ 5 44 := X21
        obtain ⟨⟨rfl, e21'⟩, N21q⟩ := hQ21
        have e21 : T21.heap = h5 := e21'
        have N21 := Fr.app N20 N21q
        refine go (fun t k => st21 _ k) ?_
        show Gl _ _ _ _ _ _ _ _ (T21.setTop (mkF m 162 #[.val (.int p1), .val (.int p2), .val (.int p3), .val (.int p4), .val (.int p5), .val (.int ((p5 &&& (2147483647 : Int32)) % (5 : Int32))), .val (.int (b1_0 p1)), .val (.int (b1_0 p2)), .val (.int (b1_0 p3)), .val (.int (b1_0 p4)), .val (.ref o5), .unset, .unset] [(.ref (b4_0 (b1_0 p1) w_XACML w_COMPACT))]))
        refine go (fun t k => XS.astore X21.here hx rfl (hb hby at_162) rfl rfl (l' := #[.val (.int p1), .val (.int p2), .val (.int p3), .val (.int p4), .val (.int p5), .val (.int ((p5 &&& (2147483647 : Int32)) % (5 : Int32))), .val (.int (b1_0 p1)), .val (.int (b1_0 p2)), .val (.int (b1_0 p3)), .val (.int (b1_0 p4)), .val (.ref o5), .val (.ref (b4_0 (b1_0 p1) w_XACML w_COMPACT)), .unset]) rfl k) ?_
        show Gl _ _ _ _ _ _ _ _ (T21.setTop (mkF m 164 #[.val (.int p1), .val (.int p2), .val (.int p3), .val (.int p4), .val (.int p5), .val (.int ((p5 &&& (2147483647 : Int32)) % (5 : Int32))), .val (.int (b1_0 p1)), .val (.int (b1_0 p2)), .val (.int (b1_0 p3)), .val (.int (b1_0 p4)), .val (.ref o5), .val (.ref (b4_0 (b1_0 p1) w_XACML w_COMPACT)), .unset] []))
        refine go (fun t k => XS.goto X21.here hx rfl (pc0 := 164) (pc' := 247) rfl (hb hby at_164) (by decide) (by decide) k) ?_
        show Gl _ _ _ _ _ _ _ _ (T21.setTop (mkF m 247 #[.val (.int p1), .val (.int p2), .val (.int p3), .val (.int p4), .val (.int p5), .val (.int ((p5 &&& (2147483647 : Int32)) % (5 : Int32))), .val (.int (b1_0 p1)), .val (.int (b1_0 p2)), .val (.int (b1_0 p3)), .val (.int (b1_0 p4)), .val (.ref o5), .val (.ref (b4_0 (b1_0 p1) w_XACML w_COMPACT)), .unset] []))
        exact J247 (b4_0 (b1_0 p1) w_XACML w_COMPACT) T21 _ X21 e21 N21
    · refine go (fun t k => XS.ifYes X5.here hx rfl (pc0 := 145) (pc' := 167) rfl (hb hby at_145) rfl ((if0 _ _).trans (flt hc145).2.2.2) (by decide) (by decide) k) ?_
      show Gl _ _ _ _ _ _ _ _ (T5.setTop (mkF m 167 #[.val (.int p1), .val (.int p2), .val (.int p3), .val (.int p4), .val (.int p5), .val (.int ((p5 &&& (2147483647 : Int32)) % (5 : Int32))), .val (.int (b1_0 p1)), .val (.int (b1_0 p2)), .val (.int (b1_0 p3)), .val (.int (b1_0 p4)), .val (.ref o5), .unset, .unset] []))
      exact J167  T5 _ X5 e5 N4
  · refine go (fun t k => XS.ifYes X4.here hx rfl (pc0 := 35) (pc' := 46) rfl (hb hby at_35) rfl ((if0 _ _).trans (feq hc35).2) (by decide) (by decide) k) ?_
    show Gl _ _ _ _ _ _ _ _ (T4.setTop (mkF m 46 #[.val (.int p1), .val (.int p2), .val (.int p3), .val (.int p4), .val (.int p5), .val (.int ((p5 &&& (2147483647 : Int32)) % (5 : Int32))), .val (.int (b1_0 p1)), .val (.int (b1_0 p2)), .val (.int (b1_0 p3)), .val (.int (b1_0 p4)), .unset, .unset, .unset] []))
    refine go (fun t k => XS.iload X4.here hx rfl (hb hby at_46) rfl  k) ?_
    show Gl _ _ _ _ _ _ _ _ (T4.setTop (mkF m 48 #[.val (.int p1), .val (.int p2), .val (.int p3), .val (.int p4), .val (.int p5), .val (.int ((p5 &&& (2147483647 : Int32)) % (5 : Int32))), .val (.int (b1_0 p1)), .val (.int (b1_0 p2)), .val (.int (b1_0 p3)), .val (.int (b1_0 p4)), .unset, .unset, .unset] [(.int ((p5 &&& (2147483647 : Int32)) % (5 : Int32)))]))
    refine go (fun t k => XS.iconst X4.here hx rfl (hb hby at_48) k) ?_
    show Gl _ _ _ _ _ _ _ _ (T4.setTop (mkF m 49 #[.val (.int p1), .val (.int p2), .val (.int p3), .val (.int p4), .val (.int p5), .val (.int ((p5 &&& (2147483647 : Int32)) % (5 : Int32))), .val (.int (b1_0 p1)), .val (.int (b1_0 p2)), .val (.int (b1_0 p3)), .val (.int (b1_0 p4)), .unset, .unset, .unset] [(.int (1 : Int32)), (.int ((p5 &&& (2147483647 : Int32)) % (5 : Int32)))]))
    refine gI (c := ((p5 &&& (2147483647 : Int32)) % (5 : Int32)) = (1 : Int32)) (fun hc49 => ?_) (fun hc49 => ?_)
    · refine go (fun t k => XS.icmpNo X4.here hx rfl (hb hby at_49) rfl (teq hc49).2 k) ?_
      show Gl _ _ _ _ _ _ _ _ (T4.setTop (mkF m 52 #[.val (.int p1), .val (.int p2), .val (.int p3), .val (.int p4), .val (.int p5), .val (.int ((p5 &&& (2147483647 : Int32)) % (5 : Int32))), .val (.int (b1_0 p1)), .val (.int (b1_0 p2)), .val (.int (b1_0 p3)), .val (.int (b1_0 p4)), .unset, .unset, .unset] []))
      refine go (fun t k => XS.iconst X4.here hx rfl (hb hby at_52) k) ?_
      show Gl _ _ _ _ _ _ _ _ (T4.setTop (mkF m 53 #[.val (.int p1), .val (.int p2), .val (.int p3), .val (.int p4), .val (.int p5), .val (.int ((p5 &&& (2147483647 : Int32)) % (5 : Int32))), .val (.int (b1_0 p1)), .val (.int (b1_0 p2)), .val (.int (b1_0 p3)), .val (.int (b1_0 p4)), .unset, .unset, .unset] [(.int (1 : Int32))]))
      obtain ⟨T22, h22, k22, X22, e22, E22, A22, st22⟩ := newP X4 hx hZ (hw _ (List.mem_of_getElem? (i := 5) rfl)) e4 (g := (mkF m 53 #[.val (.int p1), .val (.int p2), .val (.int p3), .val (.int p4), .val (.int p5), .val (.int ((p5 &&& (2147483647 : Int32)) % (5 : Int32))), .val (.int (b1_0 p1)), .val (.int (b1_0 p2)), .val (.int (b1_0 p3)), .val (.int (b1_0 p4)), .unset, .unset, .unset] [(.int (1 : Int32))])) rfl (hb hby at_53) rfl (by decide) (cap := 1) (by decide) (by decide) (by decide) (by decide)
      obtain ⟨o22, gq22⟩ : ∃ z, z = h4.size := ⟨_, rfl⟩
      rw [← gq22] at A22 st22
      have g_o22 : n0 ≤ o22 := Nat.le_trans (Nat.le_trans (Nat.le_trans (Nat.le_trans (Nat.le_trans Z0 K1q.1) K2q.1) K3q.1) K4q.1) (Nat.le_of_eq gq22.symm)
      have V_o22 : Arv Z h22 o22 k22 .byte (1 : Int32) [(.int (0 : Int32))] (.int (0 : Int32)) := (Arv.new A22 (by decide)).pad (pad_rep [] (.int (0 : Int32)) 1)
      have K22 : Keep h0 h22 [] := K4.ext E22
      have sz_o22 : h0.size ≤ o22 := Nat.le_trans K4.1 (Nat.le_of_eq gq22.symm)
      refine go (fun t k => st22 _ k) ?_
      show Gl _ _ _ _ _ _ _ _ (T22.setTop (mkF m 55 #[.val (.int p1), .val (.int p2), .val (.int p3), .val (.int p4), .val (.int p5), .val (.int ((p5 &&& (2147483647 : Int32)) % (5 : Int32))), .val (.int (b1_0 p1)), .val (.int (b1_0 p2)), .val (.int (b1_0 p3)), .val (.int (b1_0 p4)), .unset, .unset, .unset] [(.ref o22)]))
      refine go (fun t k => XS.dup X22.here hx rfl (hb hby at_55) rfl rfl k) ?_
      show Gl _ _ _ _ _ _ _ _ (T22.setTop (mkF m 56 #[.val (.int p1), .val (.int p2), .val (.int p3), .val (.int p4), .val (.int p5), .val (.int ((p5 &&& (2147483647 : Int32)) % (5 : Int32))), .val (.int (b1_0 p1)), .val (.int (b1_0 p2)), .val (.int (b1_0 p3)), .val (.int (b1_0 p4)), .unset, .unset, .unset] [(.ref o22), (.ref o22)]))
      refine go (fun t k => XS.iconst X22.here hx rfl (hb hby at_56) k) ?_
      show Gl _ _ _ _ _ _ _ _ (T22.setTop (mkF m 57 #[.val (.int p1), .val (.int p2), .val (.int p3), .val (.int p4), .val (.int p5), .val (.int ((p5 &&& (2147483647 : Int32)) % (5 : Int32))), .val (.int (b1_0 p1)), .val (.int (b1_0 p2)), .val (.int (b1_0 p3)), .val (.int (b1_0 p4)), .unset, .unset, .unset] [(.int (0 : Int32)), (.ref o22), (.ref o22)]))
      refine go (fun t k => XS.iload X22.here hx rfl (hb hby at_57) rfl  k) ?_
      show Gl _ _ _ _ _ _ _ _ (T22.setTop (mkF m 59 #[.val (.int p1), .val (.int p2), .val (.int p3), .val (.int p4), .val (.int p5), .val (.int ((p5 &&& (2147483647 : Int32)) % (5 : Int32))), .val (.int (b1_0 p1)), .val (.int (b1_0 p2)), .val (.int (b1_0 p3)), .val (.int (b1_0 p4)), .unset, .unset, .unset] [(.int (b1_0 p1)), (.int (0 : Int32)), (.ref o22), (.ref o22)]))
      obtain ⟨cl23, Ar23, vq23, S23, M23, Hh23, G23⟩ := id V_o22
      obtain ⟨T23, h23, X23, e23, W23, st23⟩ := stB X22 hx hZ e22 Ar23 (j := (0 : Int32)) (inb_of S23 ⟨by decide, by decide⟩) (g := (mkF m 59 #[.val (.int p1), .val (.int p2), .val (.int p3), .val (.int p4), .val (.int p5), .val (.int ((p5 &&& (2147483647 : Int32)) % (5 : Int32))), .val (.int (b1_0 p1)), .val (.int (b1_0 p2)), .val (.int (b1_0 p3)), .val (.int (b1_0 p4)), .unset, .unset, .unset] [(.int (b1_0 p1)), (.int (0 : Int32)), (.ref o22), (.ref o22)])) rfl rfl (hb hby at_59)
      have V23 : Arv Z h23 o22 k22 .byte (1 : Int32) [(.int (nar .byte (b1_0 p1)))] (.int (0 : Int32)) := Arv.set Ar23 vq23 S23 M23 Hh23 G23 (fits_nar_byte _) W23 0 rfl (Nat.le_of_ble_eq_true rfl)
      have K23 : Keep h0 h23 [] := K22.wr W23 (Or.inr sz_o22)
      have N23 := Fr.snoc X23 N4 g_o22
      refine go (fun t k => st23 _ k) ?_
      show Gl _ _ _ _ _ _ _ _ (T23.setTop (mkF m 60 #[.val (.int p1), .val (.int p2), .val (.int p3), .val (.int p4), .val (.int p5), .val (.int ((p5 &&& (2147483647 : Int32)) % (5 : Int32))), .val (.int (b1_0 p1)), .val (.int (b1_0 p2)), .val (.int (b1_0 p3)), .val (.int (b1_0 p4)), .unset, .unset, .unset] [(.ref o22)]))
      refine go (fun t k => XS.astore X23.here hx rfl (hb hby at_60) rfl rfl (l' := #[.val (.int p1), .val (.int p2), .val (.int p3), .val (.int p4), .val (.int p5), .val (.int ((p5 &&& (2147483647 : Int32)) % (5 : Int32))), .val (.int (b1_0 p1)), .val (.int (b1_0 p2)), .val (.int (b1_0 p3)), .val (.int (b1_0 p4)), .val (.ref o22), .unset, .unset]) rfl k) ?_
      show Gl _ _ _ _ _ _ _ _ (T23.setTop (mkF m 62 #[.val (.int p1), .val (.int p2), .val (.int p3), .val (.int p4), .val (.int p5), .val (.int ((p5 &&& (2147483647 : Int32)) % (5 : Int32))), .val (.int (b1_0 p1)), .val (.int (b1_0 p2)), .val (.int (b1_0 p3)), .val (.int (b1_0 p4)), .val (.ref o22), .unset, .unset] []))
      refine go (fun t k => XS.goto X23.here hx rfl (pc0 := 62) (pc' := 143) rfl (hb hby at_62) (by decide) (by decide) k) ?_
      show Gl _ _ _ _ _ _ _ _ (T23.setTop (mkF m 143 #[.val (.int p1), .val (.int p2), .val (.int p3), .val (.int p4), .val (.int p5), .val (.int ((p5 &&& (2147483647 : Int32)) % (5 : Int32))), .val (.int (b1_0 p1)), .val (.int (b1_0 p2)), .val (.int (b1_0 p3)), .val (.int (b1_0 p4)), .val (.ref o22), .unset, .unset] []))
      refine go (fun t k => XS.iload X23.here hx rfl (hb hby at_143) rfl  k) ?_
      show Gl _ _ _ _ _ _ _ _ (T23.setTop (mkF m 145 #[.val (.int p1), .val (.int p2), .val (.int p3), .val (.int p4), .val (.int p5), .val (.int ((p5 &&& (2147483647 : Int32)) % (5 : Int32))), .val (.int (b1_0 p1)), .val (.int (b1_0 p2)), .val (.int (b1_0 p3)), .val (.int (b1_0 p4)), .val (.ref o22), .unset, .unset] [(.int ((p5 &&& (2147483647 : Int32)) % (5 : Int32)))]))
      have J247 : ∀ (v11_247 : Addr) (TJ247 : State) (lJ247 : List Loc) (XJ247 : Stand p l e room_1 s m #[(.int p1), (.int p2), (.int p3), (.int p4), (.int p5)] below meth c TJ247 lJ247 5 45) (eJ247 : TJ247.heap = h23) (NJ247 : Fr n0 lJ247), Gl p e below s n0 room_1.cells room_1.slots (Kv (some (.int (b0_247x2 p1 w_XACML w_COMPACT w_BLANK v11_247))) (fun _ => True)) (TJ247.setTop (mkF m 247 #[.val (.int p1), .val (.int p2), .val (.int p3), .val (.int p4), .val (.int p5), .val (.int ((p5 &&& (2147483647 : Int32)) % (5 : Int32))), .val (.int (b1_0 p1)), .val (.int (b1_0 p2)), .val (.int (b1_0 p3)), .val (.int (b1_0 p4)), .val (.ref o22), .val (.ref v11_247), .unset] [])) := by
        intro v11_247 TJ247 lJ247 XJ247 eJ247 NJ247
        show Gl _ _ _ _ _ _ _ (Kv (some (.int (if (b2t1_0 w_XACML w_COMPACT w_BLANK (nar .byte (b1_0 p1))) = v11_247 then (b0_266x2 (1 : Int32)) else (b0_266x2 (0 : Int32))))) _) _
        refine go (fun t k => XS.aload XJ247.here hx rfl (hb hby at_247) rfl rfl k) ?_
        show Gl _ _ _ _ _ _ _ _ (TJ247.setTop (mkF m 249 #[.val (.int p1), .val (.int p2), .val (.int p3), .val (.int p4), .val (.int p5), .val (.int ((p5 &&& (2147483647 : Int32)) % (5 : Int32))), .val (.int (b1_0 p1)), .val (.int (b1_0 p2)), .val (.int (b1_0 p3)), .val (.int (b1_0 p4)), .val (.ref o22), .val (.ref v11_247), .unset] [(.ref o22)]))
        obtain ⟨_, _, ⟨T25, L25, k25, n25⟩, -, X25, ⟨Lc25, hQ25, l25, y25, z25⟩, st25⟩ := Jvm.LawKit.callS XJ247 hx (y := (⟨"com/example/policylint/policylint/PolicySyntax", "of", "([B)Lcom/example/policylint/policylint/PolicySyntax;"⟩ : MethodName)) hown (mvT hZ (hw _ (List.mem_of_getElem? (i := 9) rfl))) (mvT hZ (hw _ (List.mem_of_getElem? (i := 10) rfl))) (mvT hZ (hw _ (List.mem_of_getElem? (i := 7) rfl))) (mvT hZ (hw _ (List.mem_of_getElem? (i := 11) rfl))) (by decide) (backOf (W := 0) (rm2t1 l Z a0 hw [] o22 w_XACML w_COMPACT w_BLANK k22 (nar .byte (b1_0 p1)) h23 n0 (Nat.le_trans (Nat.le_trans (Nat.le_trans (Nat.le_trans (Nat.le_trans (Nat.le_trans Z0 K1q.1) K2q.1) K3q.1) K4q.1) E22.1) (Keep.of_wr W23).1) (Sta.wr W23 ((sta_keep0 (sta_keep0 (sta_keep0 (sta_keep0 S_XACML K1q) K2q) K3q) K4q).ext E22)) (Sta.wr W23 ((sta_keep0 (sta_keep0 (sta_keep0 (sta_keep0 S_COMPACT K1q) K2q) K3q) K4q).ext E22)) (Sta.wr W23 ((sta_keep0 (sta_keep0 (sta_keep0 (sta_keep0 S_BLANK K1q) K2q) K3q) K4q).ext E22)) V23) hZ (hw _ (List.mem_of_getElem? (i := 11) rfl)) (hw _ (List.mem_of_getElem? (i := 7) rfl)) (by decide) (by decide)) (g := (mkF m 249 #[.val (.int p1), .val (.int p2), .val (.int p3), .val (.int p4), .val (.int p5), .val (.int ((p5 &&& (2147483647 : Int32)) % (5 : Int32))), .val (.int (b1_0 p1)), .val (.int (b1_0 p2)), .val (.int (b1_0 p3)), .val (.int (b1_0 p4)), .val (.ref o22), .val (.ref v11_247), .unset] [(.ref o22)])) rfl (by rw [hml]; rfl) (argsL := [(.ref o22)]) (rest := []) (lenOf pd_2 rfl) rfl (by show 2 * 0 + _ ≤ _; exact Nat.le_of_eq rfl) (hb hby at_249) (fun _ _ => ⟨rfl, eJ247, (by decide : 5 + 0 ≤ _), (by decide : 45 + 0 ≤ _)⟩)
        dsimp only [Pt.U, Pt.locs, Pt.cells, Pt.slots] at X25 l25 y25 z25 st25 hQ25
        subst l25 y25 z25
        have X25 : Stand p l e room_1 s m #[(.int p1), (.int p2), (.int p3), (.int p4), (.int p5)] below meth c T25 _ 5 45 := X25
        obtain ⟨⟨rfl, e25'⟩, N25q⟩ := hQ25
        have e25 : T25.heap = h23 := e25'
        have N25 := Fr.app NJ247 N25q
        refine go (fun t k => st25 _ k) ?_
        show Gl _ _ _ _ _ _ _ _ (T25.setTop (mkF m 252 #[.val (.int p1), .val (.int p2), .val (.int p3), .val (.int p4), .val (.int p5), .val (.int ((p5 &&& (2147483647 : Int32)) % (5 : Int32))), .val (.int (b1_0 p1)), .val (.int (b1_0 p2)), .val (.int (b1_0 p3)), .val (.int (b1_0 p4)), .val (.ref o22), .val (.ref v11_247), .unset] [(.ref (b2t1_0 w_XACML w_COMPACT w_BLANK (nar .byte (b1_0 p1))))]))
        refine go (fun t k => XS.astore X25.here hx rfl (hb hby at_252) rfl rfl (l' := #[.val (.int p1), .val (.int p2), .val (.int p3), .val (.int p4), .val (.int p5), .val (.int ((p5 &&& (2147483647 : Int32)) % (5 : Int32))), .val (.int (b1_0 p1)), .val (.int (b1_0 p2)), .val (.int (b1_0 p3)), .val (.int (b1_0 p4)), .val (.ref o22), .val (.ref v11_247), .val (.ref (b2t1_0 w_XACML w_COMPACT w_BLANK (nar .byte (b1_0 p1))))]) rfl k) ?_
        show Gl _ _ _ _ _ _ _ _ (T25.setTop (mkF m 254 #[.val (.int p1), .val (.int p2), .val (.int p3), .val (.int p4), .val (.int p5), .val (.int ((p5 &&& (2147483647 : Int32)) % (5 : Int32))), .val (.int (b1_0 p1)), .val (.int (b1_0 p2)), .val (.int (b1_0 p3)), .val (.int (b1_0 p4)), .val (.ref o22), .val (.ref v11_247), .val (.ref (b2t1_0 w_XACML w_COMPACT w_BLANK (nar .byte (b1_0 p1))))] []))
        refine go (fun t k => XS.aload X25.here hx rfl (hb hby at_254) rfl rfl k) ?_
        show Gl _ _ _ _ _ _ _ _ (T25.setTop (mkF m 256 #[.val (.int p1), .val (.int p2), .val (.int p3), .val (.int p4), .val (.int p5), .val (.int ((p5 &&& (2147483647 : Int32)) % (5 : Int32))), .val (.int (b1_0 p1)), .val (.int (b1_0 p2)), .val (.int (b1_0 p3)), .val (.int (b1_0 p4)), .val (.ref o22), .val (.ref v11_247), .val (.ref (b2t1_0 w_XACML w_COMPACT w_BLANK (nar .byte (b1_0 p1))))] [(.ref (b2t1_0 w_XACML w_COMPACT w_BLANK (nar .byte (b1_0 p1))))]))
        refine go (fun t k => XS.aload X25.here hx rfl (hb hby at_256) rfl rfl k) ?_
        show Gl _ _ _ _ _ _ _ _ (T25.setTop (mkF m 258 #[.val (.int p1), .val (.int p2), .val (.int p3), .val (.int p4), .val (.int p5), .val (.int ((p5 &&& (2147483647 : Int32)) % (5 : Int32))), .val (.int (b1_0 p1)), .val (.int (b1_0 p2)), .val (.int (b1_0 p3)), .val (.int (b1_0 p4)), .val (.ref o22), .val (.ref v11_247), .val (.ref (b2t1_0 w_XACML w_COMPACT w_BLANK (nar .byte (b1_0 p1))))] [(.ref v11_247), (.ref (b2t1_0 w_XACML w_COMPACT w_BLANK (nar .byte (b1_0 p1))))]))
        have J266 : ∀ (s0_266 : Int32) (TJ266 : State) (lJ266 : List Loc) (XJ266 : Stand p l e room_1 s m #[(.int p1), (.int p2), (.int p3), (.int p4), (.int p5)] below meth c TJ266 lJ266 5 45) (eJ266 : TJ266.heap = h23) (NJ266 : Fr n0 lJ266), Gl p e below s n0 room_1.cells room_1.slots (Kv (some (.int (b0_266x2 s0_266))) (fun _ => True)) (TJ266.setTop (mkF m 266 #[.val (.int p1), .val (.int p2), .val (.int p3), .val (.int p4), .val (.int p5), .val (.int ((p5 &&& (2147483647 : Int32)) % (5 : Int32))), .val (.int (b1_0 p1)), .val (.int (b1_0 p2)), .val (.int (b1_0 p3)), .val (.int (b1_0 p4)), .val (.ref o22), .val (.ref v11_247), .val (.ref (b2t1_0 w_XACML w_COMPACT w_BLANK (nar .byte (b1_0 p1))))] [(.int s0_266)])) := by
          intro s0_266 TJ266 lJ266 XJ266 eJ266 NJ266
          show Gl _ _ _ _ _ _ _ (Kv (some (.int (nar .boolean s0_266))) _) _
          exact endN XJ266 hx Bd (t := .boolean) (by simp) (hb hby at_266) ⟨rfl, trivial⟩ NJ266 (by decide) (by decide)
        refine gI (c := (b2t1_0 w_XACML w_COMPACT w_BLANK (nar .byte (b1_0 p1))) = v11_247) (fun hc258 => ?_) (fun hc258 => ?_)
        · refine go (fun t k => Jvm.RoadKit.acmp (g := (mkF m 258 #[.val (.int p1), .val (.int p2), .val (.int p3), .val (.int p4), .val (.int p5), .val (.int ((p5 &&& (2147483647 : Int32)) % (5 : Int32))), .val (.int (b1_0 p1)), .val (.int (b1_0 p2)), .val (.int (b1_0 p3)), .val (.int (b1_0 p4)), .val (.ref o22), .val (.ref v11_247), .val (.ref (b2t1_0 w_XACML w_COMPACT w_BLANK (nar .byte (b1_0 p1))))] [(.ref v11_247), (.ref (b2t1_0 w_XACML w_COMPACT w_BLANK (nar .byte (b1_0 p1))))])) X25 hx rfl rfl rfl (pc0 := 258) (pc' := 261) (same := true) rfl (hb hby at_258) rfl (decide_eq_true (congrArg Value.ref hc258)) (by decide) (by decide) k) ?_
          show Gl _ _ _ _ _ _ _ _ (T25.setTop (mkF m 261 #[.val (.int p1), .val (.int p2), .val (.int p3), .val (.int p4), .val (.int p5), .val (.int ((p5 &&& (2147483647 : Int32)) % (5 : Int32))), .val (.int (b1_0 p1)), .val (.int (b1_0 p2)), .val (.int (b1_0 p3)), .val (.int (b1_0 p4)), .val (.ref o22), .val (.ref v11_247), .val (.ref (b2t1_0 w_XACML w_COMPACT w_BLANK (nar .byte (b1_0 p1))))] []))
          refine go (fun t k => XS.iconst X25.here hx rfl (hb hby at_261) k) ?_
          show Gl _ _ _ _ _ _ _ _ (T25.setTop (mkF m 262 #[.val (.int p1), .val (.int p2), .val (.int p3), .val (.int p4), .val (.int p5), .val (.int ((p5 &&& (2147483647 : Int32)) % (5 : Int32))), .val (.int (b1_0 p1)), .val (.int (b1_0 p2)), .val (.int (b1_0 p3)), .val (.int (b1_0 p4)), .val (.ref o22), .val (.ref v11_247), .val (.ref (b2t1_0 w_XACML w_COMPACT w_BLANK (nar .byte (b1_0 p1))))] [(.int (1 : Int32))]))
          refine go (fun t k => XS.goto X25.here hx rfl (pc0 := 262) (pc' := 266) rfl (hb hby at_262) (by decide) (by decide) k) ?_
          show Gl _ _ _ _ _ _ _ _ (T25.setTop (mkF m 266 #[.val (.int p1), .val (.int p2), .val (.int p3), .val (.int p4), .val (.int p5), .val (.int ((p5 &&& (2147483647 : Int32)) % (5 : Int32))), .val (.int (b1_0 p1)), .val (.int (b1_0 p2)), .val (.int (b1_0 p3)), .val (.int (b1_0 p4)), .val (.ref o22), .val (.ref v11_247), .val (.ref (b2t1_0 w_XACML w_COMPACT w_BLANK (nar .byte (b1_0 p1))))] [(.int (1 : Int32))]))
          exact J266 (1 : Int32) T25 _ X25 e25 N25
        · refine go (fun t k => Jvm.RoadKit.acmp (g := (mkF m 258 #[.val (.int p1), .val (.int p2), .val (.int p3), .val (.int p4), .val (.int p5), .val (.int ((p5 &&& (2147483647 : Int32)) % (5 : Int32))), .val (.int (b1_0 p1)), .val (.int (b1_0 p2)), .val (.int (b1_0 p3)), .val (.int (b1_0 p4)), .val (.ref o22), .val (.ref v11_247), .val (.ref (b2t1_0 w_XACML w_COMPACT w_BLANK (nar .byte (b1_0 p1))))] [(.ref v11_247), (.ref (b2t1_0 w_XACML w_COMPACT w_BLANK (nar .byte (b1_0 p1))))])) X25 hx rfl rfl rfl (pc0 := 258) (pc' := 265) (same := false) rfl (hb hby at_258) rfl (decide_eq_false fun q => hc258 (Value.ref.inj q)) (by decide) (by decide) k) ?_
          show Gl _ _ _ _ _ _ _ _ (T25.setTop (mkF m 265 #[.val (.int p1), .val (.int p2), .val (.int p3), .val (.int p4), .val (.int p5), .val (.int ((p5 &&& (2147483647 : Int32)) % (5 : Int32))), .val (.int (b1_0 p1)), .val (.int (b1_0 p2)), .val (.int (b1_0 p3)), .val (.int (b1_0 p4)), .val (.ref o22), .val (.ref v11_247), .val (.ref (b2t1_0 w_XACML w_COMPACT w_BLANK (nar .byte (b1_0 p1))))] []))
          refine go (fun t k => XS.iconst X25.here hx rfl (hb hby at_265) k) ?_
          show Gl _ _ _ _ _ _ _ _ (T25.setTop (mkF m 266 #[.val (.int p1), .val (.int p2), .val (.int p3), .val (.int p4), .val (.int p5), .val (.int ((p5 &&& (2147483647 : Int32)) % (5 : Int32))), .val (.int (b1_0 p1)), .val (.int (b1_0 p2)), .val (.int (b1_0 p3)), .val (.int (b1_0 p4)), .val (.ref o22), .val (.ref v11_247), .val (.ref (b2t1_0 w_XACML w_COMPACT w_BLANK (nar .byte (b1_0 p1))))] [(.int (0 : Int32))]))
          exact J266 (0 : Int32) T25 _ X25 e25 N25
      have J167 : ∀  (TJ167 : State) (lJ167 : List Loc) (XJ167 : Stand p l e room_1 s m #[(.int p1), (.int p2), (.int p3), (.int p4), (.int p5)] below meth c TJ167 lJ167 5 45) (eJ167 : TJ167.heap = h23) (NJ167 : Fr n0 lJ167), Gl p e below s n0 room_1.cells room_1.slots (Kv (some (.int (b0_167x2 p1 p2 p3 p4 p5 w_XACML w_COMPACT w_BLANK))) (fun _ => True)) (TJ167.setTop (mkF m 167 #[.val (.int p1), .val (.int p2), .val (.int p3), .val (.int p4), .val (.int p5), .val (.int ((p5 &&& (2147483647 : Int32)) % (5 : Int32))), .val (.int (b1_0 p1)), .val (.int (b1_0 p2)), .val (.int (b1_0 p3)), .val (.int (b1_0 p4)), .val (.ref o22), .unset, .unset] [])) := by
        intro  TJ167 lJ167 XJ167 eJ167 NJ167
        show Gl _ _ _ _ _ _ _ (Kv (some (.int (if (1 : Int32) < ((p5 &&& (2147483647 : Int32)) % (5 : Int32)) then (if (b3_0 (b1_0 p2)) = (1 : Int32) then (b0_192x2 p1 p3 p4 p5 w_XACML w_COMPACT w_BLANK) else (b0_247x2 p1 w_XACML w_COMPACT w_BLANK (b4_0 (b1_0 p2) w_XACML w_COMPACT))) else (b0_192x2 p1 p3 p4 p5 w_XACML w_COMPACT w_BLANK)))) _) _
        refine go (fun t k => XS.iload XJ167.here hx rfl (hb hby at_167) rfl  k) ?_
        show Gl _ _ _ _ _ _ _ _ (TJ167.setTop (mkF m 169 #[.val (.int p1), .val (.int p2), .val (.int p3), .val (.int p4), .val (.int p5), .val (.int ((p5 &&& (2147483647 : Int32)) % (5 : Int32))), .val (.int (b1_0 p1)), .val (.int (b1_0 p2)), .val (.int (b1_0 p3)), .val (.int (b1_0 p4)), .val (.ref o22), .unset, .unset] [(.int ((p5 &&& (2147483647 : Int32)) % (5 : Int32)))]))
        refine go (fun t k => XS.iconst XJ167.here hx rfl (hb hby at_169) k) ?_
        show Gl _ _ _ _ _ _ _ _ (TJ167.setTop (mkF m 170 #[.val (.int p1), .val (.int p2), .val (.int p3), .val (.int p4), .val (.int p5), .val (.int ((p5 &&& (2147483647 : Int32)) % (5 : Int32))), .val (.int (b1_0 p1)), .val (.int (b1_0 p2)), .val (.int (b1_0 p3)), .val (.int (b1_0 p4)), .val (.ref o22), .unset, .unset] [(.int (1 : Int32)), (.int ((p5 &&& (2147483647 : Int32)) % (5 : Int32)))]))
        have J192 : ∀  (TJ192 : State) (lJ192 : List Loc) (XJ192 : Stand p l e room_1 s m #[(.int p1), (.int p2), (.int p3), (.int p4), (.int p5)] below meth c TJ192 lJ192 5 45) (eJ192 : TJ192.heap = h23) (NJ192 : Fr n0 lJ192), Gl p e below s n0 room_1.cells room_1.slots (Kv (some (.int (b0_192x2 p1 p3 p4 p5 w_XACML w_COMPACT w_BLANK))) (fun _ => True)) (TJ192.setTop (mkF m 192 #[.val (.int p1), .val (.int p2), .val (.int p3), .val (.int p4), .val (.int p5), .val (.int ((p5 &&& (2147483647 : Int32)) % (5 : Int32))), .val (.int (b1_0 p1)), .val (.int (b1_0 p2)), .val (.int (b1_0 p3)), .val (.int (b1_0 p4)), .val (.ref o22), .unset, .unset] [])) := by
          intro  TJ192 lJ192 XJ192 eJ192 NJ192
          show Gl _ _ _ _ _ _ _ (Kv (some (.int (if (2 : Int32) < ((p5 &&& (2147483647 : Int32)) % (5 : Int32)) then (if (b3_0 (b1_0 p3)) = (1 : Int32) then (b0_217x2 p1 p4 p5 w_XACML w_COMPACT w_BLANK) else (b0_247x2 p1 w_XACML w_COMPACT w_BLANK (b4_0 (b1_0 p3) w_XACML w_COMPACT))) else (b0_217x2 p1 p4 p5 w_XACML w_COMPACT w_BLANK)))) _) _
          refine go (fun t k => XS.iload XJ192.here hx rfl (hb hby at_192) rfl  k) ?_
          show Gl _ _ _ _ _ _ _ _ (TJ192.setTop (mkF m 194 #[.val (.int p1), .val (.int p2), .val (.int p3), .val (.int p4), .val (.int p5), .val (.int ((p5 &&& (2147483647 : Int32)) % (5 : Int32))), .val (.int (b1_0 p1)), .val (.int (b1_0 p2)), .val (.int (b1_0 p3)), .val (.int (b1_0 p4)), .val (.ref o22), .unset, .unset] [(.int ((p5 &&& (2147483647 : Int32)) % (5 : Int32)))]))
          refine go (fun t k => XS.iconst XJ192.here hx rfl (hb hby at_194) k) ?_
          show Gl _ _ _ _ _ _ _ _ (TJ192.setTop (mkF m 195 #[.val (.int p1), .val (.int p2), .val (.int p3), .val (.int p4), .val (.int p5), .val (.int ((p5 &&& (2147483647 : Int32)) % (5 : Int32))), .val (.int (b1_0 p1)), .val (.int (b1_0 p2)), .val (.int (b1_0 p3)), .val (.int (b1_0 p4)), .val (.ref o22), .unset, .unset] [(.int (2 : Int32)), (.int ((p5 &&& (2147483647 : Int32)) % (5 : Int32)))]))
          have J217 : ∀  (TJ217 : State) (lJ217 : List Loc) (XJ217 : Stand p l e room_1 s m #[(.int p1), (.int p2), (.int p3), (.int p4), (.int p5)] below meth c TJ217 lJ217 5 45) (eJ217 : TJ217.heap = h23) (NJ217 : Fr n0 lJ217), Gl p e below s n0 room_1.cells room_1.slots (Kv (some (.int (b0_217x2 p1 p4 p5 w_XACML w_COMPACT w_BLANK))) (fun _ => True)) (TJ217.setTop (mkF m 217 #[.val (.int p1), .val (.int p2), .val (.int p3), .val (.int p4), .val (.int p5), .val (.int ((p5 &&& (2147483647 : Int32)) % (5 : Int32))), .val (.int (b1_0 p1)), .val (.int (b1_0 p2)), .val (.int (b1_0 p3)), .val (.int (b1_0 p4)), .val (.ref o22), .unset, .unset] [])) := by
            intro  TJ217 lJ217 XJ217 eJ217 NJ217
            show Gl _ _ _ _ _ _ _ (Kv (some (.int (if (3 : Int32) < ((p5 &&& (2147483647 : Int32)) % (5 : Int32)) then (if (b3_0 (b1_0 p4)) = (1 : Int32) then (b0_242x2 p1 w_XACML w_COMPACT w_BLANK) else (b0_247x2 p1 w_XACML w_COMPACT w_BLANK (b4_0 (b1_0 p4) w_XACML w_COMPACT))) else (b0_242x2 p1 w_XACML w_COMPACT w_BLANK)))) _) _
            refine go (fun t k => XS.iload XJ217.here hx rfl (hb hby at_217) rfl  k) ?_
            show Gl _ _ _ _ _ _ _ _ (TJ217.setTop (mkF m 219 #[.val (.int p1), .val (.int p2), .val (.int p3), .val (.int p4), .val (.int p5), .val (.int ((p5 &&& (2147483647 : Int32)) % (5 : Int32))), .val (.int (b1_0 p1)), .val (.int (b1_0 p2)), .val (.int (b1_0 p3)), .val (.int (b1_0 p4)), .val (.ref o22), .unset, .unset] [(.int ((p5 &&& (2147483647 : Int32)) % (5 : Int32)))]))
            refine go (fun t k => XS.iconst XJ217.here hx rfl (hb hby at_219) k) ?_
            show Gl _ _ _ _ _ _ _ _ (TJ217.setTop (mkF m 220 #[.val (.int p1), .val (.int p2), .val (.int p3), .val (.int p4), .val (.int p5), .val (.int ((p5 &&& (2147483647 : Int32)) % (5 : Int32))), .val (.int (b1_0 p1)), .val (.int (b1_0 p2)), .val (.int (b1_0 p3)), .val (.int (b1_0 p4)), .val (.ref o22), .unset, .unset] [(.int (3 : Int32)), (.int ((p5 &&& (2147483647 : Int32)) % (5 : Int32)))]))
            have J242 : ∀  (TJ242 : State) (lJ242 : List Loc) (XJ242 : Stand p l e room_1 s m #[(.int p1), (.int p2), (.int p3), (.int p4), (.int p5)] below meth c TJ242 lJ242 5 45) (eJ242 : TJ242.heap = h23) (NJ242 : Fr n0 lJ242), Gl p e below s n0 room_1.cells room_1.slots (Kv (some (.int (b0_242x2 p1 w_XACML w_COMPACT w_BLANK))) (fun _ => True)) (TJ242.setTop (mkF m 242 #[.val (.int p1), .val (.int p2), .val (.int p3), .val (.int p4), .val (.int p5), .val (.int ((p5 &&& (2147483647 : Int32)) % (5 : Int32))), .val (.int (b1_0 p1)), .val (.int (b1_0 p2)), .val (.int (b1_0 p3)), .val (.int (b1_0 p4)), .val (.ref o22), .unset, .unset] [])) := by
              intro  TJ242 lJ242 XJ242 eJ242 NJ242
              show Gl _ _ _ _ _ _ _ (Kv (some (.int (b0_247x2 p1 w_XACML w_COMPACT w_BLANK w_BLANK))) _) _
              obtain ⟨T31, X31, e31, st31⟩ := getS2 XJ242 hx hZ hown (host := "") (Or.inl (hw _ (List.mem_of_getElem? (i := 6) rfl))) Via.refl eJ242 (Sta.wr W23 ((sta_keep0 (sta_keep0 (sta_keep0 (sta_keep0 S_BLANK K1q) K2q) K3q) K4q).ext E22)) (g := (mkF m 242 #[.val (.int p1), .val (.int p2), .val (.int p3), .val (.int p4), .val (.int p5), .val (.int ((p5 &&& (2147483647 : Int32)) % (5 : Int32))), .val (.int (b1_0 p1)), .val (.int (b1_0 p2)), .val (.int (b1_0 p3)), .val (.int (b1_0 p4)), .val (.ref o22), .unset, .unset] [])) rfl (hb hby at_242)
              refine go (fun t k => st31 _ k) ?_
              show Gl _ _ _ _ _ _ _ _ (T31.setTop (mkF m 245 #[.val (.int p1), .val (.int p2), .val (.int p3), .val (.int p4), .val (.int p5), .val (.int ((p5 &&& (2147483647 : Int32)) % (5 : Int32))), .val (.int (b1_0 p1)), .val (.int (b1_0 p2)), .val (.int (b1_0 p3)), .val (.int (b1_0 p4)), .val (.ref o22), .unset, .unset] [(.ref w_BLANK)]))
              refine go (fun t k => XS.astore X31.here hx rfl (hb hby at_245) rfl rfl (l' := #[.val (.int p1), .val (.int p2), .val (.int p3), .val (.int p4), .val (.int p5), .val (.int ((p5 &&& (2147483647 : Int32)) % (5 : Int32))), .val (.int (b1_0 p1)), .val (.int (b1_0 p2)), .val (.int (b1_0 p3)), .val (.int (b1_0 p4)), .val (.ref o22), .val (.ref w_BLANK), .unset]) rfl k) ?_
              show Gl _ _ _ _ _ _ _ _ (T31.setTop (mkF m 247 #[.val (.int p1), .val (.int p2), .val (.int p3), .val (.int p4), .val (.int p5), .val (.int ((p5 &&& (2147483647 : Int32)) % (5 : Int32))), .val (.int (b1_0 p1)), .val (.int (b1_0 p2)), .val (.int (b1_0 p3)), .val (.int (b1_0 p4)), .val (.ref o22), .val (.ref w_BLANK), .unset] []))
              exact J247 w_BLANK T31 _ X31 e31 NJ242
            refine gI (c := (3 : Int32) < ((p5 &&& (2147483647 : Int32)) % (5 : Int32))) (fun hc220 => ?_) (fun hc220 => ?_)
            · refine go (fun t k => XS.icmpNo XJ217.here hx rfl (hb hby at_220) rfl (tlt hc220).2.2.2 k) ?_
              show Gl _ _ _ _ _ _ _ _ (TJ217.setTop (mkF m 223 #[.val (.int p1), .val (.int p2), .val (.int p3), .val (.int p4), .val (.int p5), .val (.int ((p5 &&& (2147483647 : Int32)) % (5 : Int32))), .val (.int (b1_0 p1)), .val (.int (b1_0 p2)), .val (.int (b1_0 p3)), .val (.int (b1_0 p4)), .val (.ref o22), .unset, .unset] []))
              refine go (fun t k => XS.iload XJ217.here hx rfl (hb hby at_223) rfl  k) ?_
              show Gl _ _ _ _ _ _ _ _ (TJ217.setTop (mkF m 225 #[.val (.int p1), .val (.int p2), .val (.int p3), .val (.int p4), .val (.int p5), .val (.int ((p5 &&& (2147483647 : Int32)) % (5 : Int32))), .val (.int (b1_0 p1)), .val (.int (b1_0 p2)), .val (.int (b1_0 p3)), .val (.int (b1_0 p4)), .val (.ref o22), .unset, .unset] [(.int (b1_0 p4))]))
              obtain ⟨_, _, ⟨T32, L32, k32, n32⟩, -, X32, ⟨Lc32, hQ32, l32, y32, z32⟩, st32⟩ := Jvm.LawKit.callS XJ217 hx (y := (⟨"com/example/policylint/policylint/PolicySyntaxOfPinLaw", "cls", "(B)I"⟩ : MethodName)) hown (mvT hZ (hw _ (List.mem_of_getElem? (i := 13) rfl))) (mvT hZ (hw _ (List.mem_of_getElem? (i := 14) rfl))) (mvT hZ (hw _ (List.mem_of_getElem? (i := 3) rfl))) (mvT hZ (hw _ (List.mem_of_getElem? (i := 15) rfl))) (by decide) (backOf (W := 0) (rm3 l Z a0 hw [] (b1_0 p4) h23 n0 (Nat.le_trans (Nat.le_trans (Nat.le_trans (Nat.le_trans (Nat.le_trans (Nat.le_trans Z0 K1q.1) K2q.1) K3q.1) K4q.1) E22.1) (Keep.of_wr W23).1) ) hZ (hw _ (List.mem_of_getElem? (i := 15) rfl)) (hw _ (List.mem_of_getElem? (i := 3) rfl)) (by decide) (by decide)) (g := (mkF m 225 #[.val (.int p1), .val (.int p2), .val (.int p3), .val (.int p4), .val (.int p5), .val (.int ((p5 &&& (2147483647 : Int32)) % (5 : Int32))), .val (.int (b1_0 p1)), .val (.int (b1_0 p2)), .val (.int (b1_0 p3)), .val (.int (b1_0 p4)), .val (.ref o22), .unset, .unset] [(.int (b1_0 p4))])) rfl (by rw [hml]; rfl) (argsL := [(.int (b1_0 p4))]) (rest := []) (lenOf pd_0 rfl) rfl (by show 2 * 0 + _ ≤ _; exact Nat.le_of_eq rfl) (hb hby at_225) (fun _ _ => ⟨rfl, eJ217, (by decide : 5 + 0 ≤ _), (by decide : 45 + 0 ≤ _)⟩)
              dsimp only [Pt.U, Pt.locs, Pt.cells, Pt.slots] at X32 l32 y32 z32 st32 hQ32
              subst l32 y32 z32
              have X32 : Stand p l e room_1 s m #[(.int p1), (.int p2), (.int p3), (.int p4), (.int p5)] below meth c T32 _ 5 45 := X32
              obtain ⟨⟨rfl, e32'⟩, N32q⟩ := hQ32
              have e32 : T32.heap = h23 := e32'
              have N32 := Fr.app NJ217 N32q
              refine go (fun t k => st32 _ k) ?_
              show Gl _ _ _ _ _ _ _ _ (T32.setTop (mkF m 228 #[.val (.int p1), .val (.int p2), .val (.int p3), .val (.int p4), .val (.int p5), .val (.int ((p5 &&& (2147483647 : Int32)) % (5 : Int32))), .val (.int (b1_0 p1)), .val (.int (b1_0 p2)), .val (.int (b1_0 p3)), .val (.int (b1_0 p4)), .val (.ref o22), .unset, .unset] [(.int (b3_0 (b1_0 p4)))]))
              refine go (fun t k => XS.iconst X32.here hx rfl (hb hby at_228) k) ?_
              show Gl _ _ _ _ _ _ _ _ (T32.setTop (mkF m 229 #[.val (.int p1), .val (.int p2), .val (.int p3), .val (.int p4), .val (.int p5), .val (.int ((p5 &&& (2147483647 : Int32)) % (5 : Int32))), .val (.int (b1_0 p1)), .val (.int (b1_0 p2)), .val (.int (b1_0 p3)), .val (.int (b1_0 p4)), .val (.ref o22), .unset, .unset] [(.int (1 : Int32)), (.int (b3_0 (b1_0 p4)))]))
              refine gI (c := (b3_0 (b1_0 p4)) = (1 : Int32)) (fun hc229 => ?_) (fun hc229 => ?_)
              · refine go (fun t k => XS.icmpYes X32.here hx rfl (pc0 := 229) (pc' := 242) rfl (hb hby at_229) rfl (teq hc229).1 (by decide) (by decide) k) ?_
                show Gl _ _ _ _ _ _ _ _ (T32.setTop (mkF m 242 #[.val (.int p1), .val (.int p2), .val (.int p3), .val (.int p4), .val (.int p5), .val (.int ((p5 &&& (2147483647 : Int32)) % (5 : Int32))), .val (.int (b1_0 p1)), .val (.int (b1_0 p2)), .val (.int (b1_0 p3)), .val (.int (b1_0 p4)), .val (.ref o22), .unset, .unset] []))
                exact J242  T32 _ X32 e32 N32
              · refine go (fun t k => XS.icmpNo X32.here hx rfl (hb hby at_229) rfl (feq hc229).1 k) ?_
                show Gl _ _ _ _ _ _ _ _ (T32.setTop (mkF m 232 #[.val (.int p1), .val (.int p2), .val (.int p3), .val (.int p4), .val (.int p5), .val (.int ((p5 &&& (2147483647 : Int32)) % (5 : Int32))), .val (.int (b1_0 p1)), .val (.int (b1_0 p2)), .val (.int (b1_0 p3)), .val (.int (b1_0 p4)), .val (.ref o22), .unset, .unset] []))
                refine go (fun t k => XS.iload X32.here hx rfl (hb hby at_232) rfl  k) ?_
                show Gl _ _ _ _ _ _ _ _ (T32.setTop (mkF m 234 #[.val (.int p1), .val (.int p2), .val (.int p3), .val (.int p4), .val (.int p5), .val (.int ((p5 &&& (2147483647 : Int32)) % (5 : Int32))), .val (.int (b1_0 p1)), .val (.int (b1_0 p2)), .val (.int (b1_0 p3)), .val (.int (b1_0 p4)), .val (.ref o22), .unset, .unset] [(.int (b1_0 p4))]))
                obtain ⟨_, _, ⟨T33, L33, k33, n33⟩, -, X33, ⟨Lc33, hQ33, l33, y33, z33⟩, st33⟩ := Jvm.LawKit.callS X32 hx (y := (⟨"com/example/policylint/policylint/PolicySyntaxOfPinLaw", "verdict", "(B)Lcom/example/policylint/policylint/PolicySyntax;"⟩ : MethodName)) hown (mvT hZ (hw _ (List.mem_of_getElem? (i := 16) rfl))) (mvT hZ (hw _ (List.mem_of_getElem? (i := 17) rfl))) (mvT hZ (hw _ (List.mem_of_getElem? (i := 3) rfl))) (mvT hZ (hw _ (List.mem_of_getElem? (i := 18) rfl))) (by decide) (backOf (W := 0) (rm4 l Z a0 hw [] (b1_0 p4) w_XACML w_COMPACT h23 n0 (Nat.le_trans (Nat.le_trans (Nat.le_trans (Nat.le_trans (Nat.le_trans (Nat.le_trans Z0 K1q.1) K2q.1) K3q.1) K4q.1) E22.1) (Keep.of_wr W23).1) (Sta.wr W23 ((sta_keep0 (sta_keep0 (sta_keep0 (sta_keep0 S_XACML K1q) K2q) K3q) K4q).ext E22)) (Sta.wr W23 ((sta_keep0 (sta_keep0 (sta_keep0 (sta_keep0 S_COMPACT K1q) K2q) K3q) K4q).ext E22))) hZ (hw _ (List.mem_of_getElem? (i := 18) rfl)) (hw _ (List.mem_of_getElem? (i := 3) rfl)) (by decide) (by decide)) (g := (mkF m 234 #[.val (.int p1), .val (.int p2), .val (.int p3), .val (.int p4), .val (.int p5), .val (.int ((p5 &&& (2147483647 : Int32)) % (5 : Int32))), .val (.int (b1_0 p1)), .val (.int (b1_0 p2)), .val (.int (b1_0 p3)), .val (.int (b1_0 p4)), .val (.ref o22), .unset, .unset] [(.int (b1_0 p4))])) rfl (by rw [hml]; rfl) (argsL := [(.int (b1_0 p4))]) (rest := []) (lenOf pd_3 rfl) rfl (by show 2 * 0 + _ ≤ _; exact Nat.le_of_eq rfl) (hb hby at_234) (fun _ _ => ⟨rfl, e32, (by decide : 5 + 0 ≤ _), (by decide : 45 + 0 ≤ _)⟩)
                dsimp only [Pt.U, Pt.locs, Pt.cells, Pt.slots] at X33 l33 y33 z33 st33 hQ33
                subst l33 y33 z33
                have X33 : Stand p l e room_1 s m #[(.int p1), (.int p2), (.int p3), (.int p4), (.int p5)] below meth c T33 _ 5 45 := X33
                obtain ⟨⟨rfl, e33'⟩, N33q⟩ := hQ33
                have e33 : T33.heap = h23 := e33'
                have N33 := Fr.app N32 N33q
                refine go (fun t k => st33 _ k) ?_
                show Gl _ _ _ _ _ _ _ _ (T33.setTop (mkF m 237 #[.val (.int p1), .val (.int p2), .val (.int p3), .val (.int p4), .val (.int p5), .val (.int ((p5 &&& (2147483647 : Int32)) % (5 : Int32))), .val (.int (b1_0 p1)), .val (.int (b1_0 p2)), .val (.int (b1_0 p3)), .val (.int (b1_0 p4)), .val (.ref o22), .unset, .unset] [(.ref (b4_0 (b1_0 p4) w_XACML w_COMPACT))]))
                refine go (fun t k => XS.astore X33.here hx rfl (hb hby at_237) rfl rfl (l' := #[.val (.int p1), .val (.int p2), .val (.int p3), .val (.int p4), .val (.int p5), .val (.int ((p5 &&& (2147483647 : Int32)) % (5 : Int32))), .val (.int (b1_0 p1)), .val (.int (b1_0 p2)), .val (.int (b1_0 p3)), .val (.int (b1_0 p4)), .val (.ref o22), .val (.ref (b4_0 (b1_0 p4) w_XACML w_COMPACT)), .unset]) rfl k) ?_
                show Gl _ _ _ _ _ _ _ _ (T33.setTop (mkF m 239 #[.val (.int p1), .val (.int p2), .val (.int p3), .val (.int p4), .val (.int p5), .val (.int ((p5 &&& (2147483647 : Int32)) % (5 : Int32))), .val (.int (b1_0 p1)), .val (.int (b1_0 p2)), .val (.int (b1_0 p3)), .val (.int (b1_0 p4)), .val (.ref o22), .val (.ref (b4_0 (b1_0 p4) w_XACML w_COMPACT)), .unset] []))
                refine go (fun t k => XS.goto X33.here hx rfl (pc0 := 239) (pc' := 247) rfl (hb hby at_239) (by decide) (by decide) k) ?_
                show Gl _ _ _ _ _ _ _ _ (T33.setTop (mkF m 247 #[.val (.int p1), .val (.int p2), .val (.int p3), .val (.int p4), .val (.int p5), .val (.int ((p5 &&& (2147483647 : Int32)) % (5 : Int32))), .val (.int (b1_0 p1)), .val (.int (b1_0 p2)), .val (.int (b1_0 p3)), .val (.int (b1_0 p4)), .val (.ref o22), .val (.ref (b4_0 (b1_0 p4) w_XACML w_COMPACT)), .unset] []))
                exact J247 (b4_0 (b1_0 p4) w_XACML w_COMPACT) T33 _ X33 e33 N33
            · refine go (fun t k => XS.icmpYes XJ217.here hx rfl (pc0 := 220) (pc' := 242) rfl (hb hby at_220) rfl (flt hc220).2.2.2 (by decide) (by decide) k) ?_
              show Gl _ _ _ _ _ _ _ _ (TJ217.setTop (mkF m 242 #[.val (.int p1), .val (.int p2), .val (.int p3), .val (.int p4), .val (.int p5), .val (.int ((p5 &&& (2147483647 : Int32)) % (5 : Int32))), .val (.int (b1_0 p1)), .val (.int (b1_0 p2)), .val (.int (b1_0 p3)), .val (.int (b1_0 p4)), .val (.ref o22), .unset, .unset] []))
              exact J242  TJ217 _ XJ217 eJ217 NJ217
          refine gI (c := (2 : Int32) < ((p5 &&& (2147483647 : Int32)) % (5 : Int32))) (fun hc195 => ?_) (fun hc195 => ?_)
          · refine go (fun t k => XS.icmpNo XJ192.here hx rfl (hb hby at_195) rfl (tlt hc195).2.2.2 k) ?_
            show Gl _ _ _ _ _ _ _ _ (TJ192.setTop (mkF m 198 #[.val (.int p1), .val (.int p2), .val (.int p3), .val (.int p4), .val (.int p5), .val (.int ((p5 &&& (2147483647 : Int32)) % (5 : Int32))), .val (.int (b1_0 p1)), .val (.int (b1_0 p2)), .val (.int (b1_0 p3)), .val (.int (b1_0 p4)), .val (.ref o22), .unset, .unset] []))
            refine go (fun t k => XS.iload XJ192.here hx rfl (hb hby at_198) rfl  k) ?_
            show Gl _ _ _ _ _ _ _ _ (TJ192.setTop (mkF m 200 #[.val (.int p1), .val (.int p2), .val (.int p3), .val (.int p4), .val (.int p5), .val (.int ((p5 &&& (2147483647 : Int32)) % (5 : Int32))), .val (.int (b1_0 p1)), .val (.int (b1_0 p2)), .val (.int (b1_0 p3)), .val (.int (b1_0 p4)), .val (.ref o22), .unset, .unset] [(.int (b1_0 p3))]))
            obtain ⟨_, _, ⟨T34, L34, k34, n34⟩, -, X34, ⟨Lc34, hQ34, l34, y34, z34⟩, st34⟩ := Jvm.LawKit.callS XJ192 hx (y := (⟨"com/example/policylint/policylint/PolicySyntaxOfPinLaw", "cls", "(B)I"⟩ : MethodName)) hown (mvT hZ (hw _ (List.mem_of_getElem? (i := 13) rfl))) (mvT hZ (hw _ (List.mem_of_getElem? (i := 14) rfl))) (mvT hZ (hw _ (List.mem_of_getElem? (i := 3) rfl))) (mvT hZ (hw _ (List.mem_of_getElem? (i := 15) rfl))) (by decide) (backOf (W := 0) (rm3 l Z a0 hw [] (b1_0 p3) h23 n0 (Nat.le_trans (Nat.le_trans (Nat.le_trans (Nat.le_trans (Nat.le_trans (Nat.le_trans Z0 K1q.1) K2q.1) K3q.1) K4q.1) E22.1) (Keep.of_wr W23).1) ) hZ (hw _ (List.mem_of_getElem? (i := 15) rfl)) (hw _ (List.mem_of_getElem? (i := 3) rfl)) (by decide) (by decide)) (g := (mkF m 200 #[.val (.int p1), .val (.int p2), .val (.int p3), .val (.int p4), .val (.int p5), .val (.int ((p5 &&& (2147483647 : Int32)) % (5 : Int32))), .val (.int (b1_0 p1)), .val (.int (b1_0 p2)), .val (.int (b1_0 p3)), .val (.int (b1_0 p4)), .val (.ref o22), .unset, .unset] [(.int (b1_0 p3))])) rfl (by rw [hml]; rfl) (argsL := [(.int (b1_0 p3))]) (rest := []) (lenOf pd_0 rfl) rfl (by show 2 * 0 + _ ≤ _; exact Nat.le_of_eq rfl) (hb hby at_200) (fun _ _ => ⟨rfl, eJ192, (by decide : 5 + 0 ≤ _), (by decide : 45 + 0 ≤ _)⟩)
            dsimp only [Pt.U, Pt.locs, Pt.cells, Pt.slots] at X34 l34 y34 z34 st34 hQ34
            subst l34 y34 z34
            have X34 : Stand p l e room_1 s m #[(.int p1), (.int p2), (.int p3), (.int p4), (.int p5)] below meth c T34 _ 5 45 := X34
            obtain ⟨⟨rfl, e34'⟩, N34q⟩ := hQ34
            have e34 : T34.heap = h23 := e34'
            have N34 := Fr.app NJ192 N34q
            refine go (fun t k => st34 _ k) ?_
            show Gl _ _ _ _ _ _ _ _ (T34.setTop (mkF m 203 #[.val (.int p1), .val (.int p2), .val (.int p3), .val (.int p4), .val (.int p5), .val (.int ((p5 &&& (2147483647 : Int32)) % (5 : Int32))), .val (.int (b1_0 p1)), .val (.int (b1_0 p2)), .val (.int (b1_0 p3)), .val (.int (b1_0 p4)), .val (.ref o22), .unset, .unset] [(.int (b3_0 (b1_0 p3)))]))
            refine go (fun t k => XS.iconst X34.here hx rfl (hb hby at_203) k) ?_
            show Gl _ _ _ _ _ _ _ _ (T34.setTop (mkF m 204 #[.val (.int p1), .val (.int p2), .val (.int p3), .val (.int p4), .val (.int p5), .val (.int ((p5 &&& (2147483647 : Int32)) % (5 : Int32))), .val (.int (b1_0 p1)), .val (.int (b1_0 p2)), .val (.int (b1_0 p3)), .val (.int (b1_0 p4)), .val (.ref o22), .unset, .unset] [(.int (1 : Int32)), (.int (b3_0 (b1_0 p3)))]))
            refine gI (c := (b3_0 (b1_0 p3)) = (1 : Int32)) (fun hc204 => ?_) (fun hc204 => ?_)
            · refine go (fun t k => XS.icmpYes X34.here hx rfl (pc0 := 204) (pc' := 217) rfl (hb hby at_204) rfl (teq hc204).1 (by decide) (by decide) k) ?_
              show Gl _ _ _ _ _ _ _ _ (T34.setTop (mkF m 217 #[.val (.int p1), .val (.int p2), .val (.int p3), .val (.int p4), .val (.int p5), .val (.int ((p5 &&& (2147483647 : Int32)) % (5 : Int32))), .val (.int (b1_0 p1)), .val (.int (b1_0 p2)), .val (.int (b1_0 p3)), .val (.int (b1_0 p4)), .val (.ref o22), .unset, .unset] []))
              exact J217  T34 _ X34 e34 N34
            · refine go (fun t k => XS.icmpNo X34.here hx rfl (hb hby at_204) rfl (feq hc204).1 k) ?_
              show Gl _ _ _ _ _ _ _ _ (T34.setTop (mkF m 207 #[.val (.int p1), .val (.int p2), .val (.int p3), .val (.int p4), .val (.int p5), .val (.int ((p5 &&& (2147483647 : Int32)) % (5 : Int32))), .val (.int (b1_0 p1)), .val (.int (b1_0 p2)), .val (.int (b1_0 p3)), .val (.int (b1_0 p4)), .val (.ref o22), .unset, .unset] []))
              refine go (fun t k => XS.iload X34.here hx rfl (hb hby at_207) rfl  k) ?_
              show Gl _ _ _ _ _ _ _ _ (T34.setTop (mkF m 209 #[.val (.int p1), .val (.int p2), .val (.int p3), .val (.int p4), .val (.int p5), .val (.int ((p5 &&& (2147483647 : Int32)) % (5 : Int32))), .val (.int (b1_0 p1)), .val (.int (b1_0 p2)), .val (.int (b1_0 p3)), .val (.int (b1_0 p4)), .val (.ref o22), .unset, .unset] [(.int (b1_0 p3))]))
              obtain ⟨_, _, ⟨T35, L35, k35, n35⟩, -, X35, ⟨Lc35, hQ35, l35, y35, z35⟩, st35⟩ := Jvm.LawKit.callS X34 hx (y := (⟨"com/example/policylint/policylint/PolicySyntaxOfPinLaw", "verdict", "(B)Lcom/example/policylint/policylint/PolicySyntax;"⟩ : MethodName)) hown (mvT hZ (hw _ (List.mem_of_getElem? (i := 16) rfl))) (mvT hZ (hw _ (List.mem_of_getElem? (i := 17) rfl))) (mvT hZ (hw _ (List.mem_of_getElem? (i := 3) rfl))) (mvT hZ (hw _ (List.mem_of_getElem? (i := 18) rfl))) (by decide) (backOf (W := 0) (rm4 l Z a0 hw [] (b1_0 p3) w_XACML w_COMPACT h23 n0 (Nat.le_trans (Nat.le_trans (Nat.le_trans (Nat.le_trans (Nat.le_trans (Nat.le_trans Z0 K1q.1) K2q.1) K3q.1) K4q.1) E22.1) (Keep.of_wr W23).1) (Sta.wr W23 ((sta_keep0 (sta_keep0 (sta_keep0 (sta_keep0 S_XACML K1q) K2q) K3q) K4q).ext E22)) (Sta.wr W23 ((sta_keep0 (sta_keep0 (sta_keep0 (sta_keep0 S_COMPACT K1q) K2q) K3q) K4q).ext E22))) hZ (hw _ (List.mem_of_getElem? (i := 18) rfl)) (hw _ (List.mem_of_getElem? (i := 3) rfl)) (by decide) (by decide)) (g := (mkF m 209 #[.val (.int p1), .val (.int p2), .val (.int p3), .val (.int p4), .val (.int p5), .val (.int ((p5 &&& (2147483647 : Int32)) % (5 : Int32))), .val (.int (b1_0 p1)), .val (.int (b1_0 p2)), .val (.int (b1_0 p3)), .val (.int (b1_0 p4)), .val (.ref o22), .unset, .unset] [(.int (b1_0 p3))])) rfl (by rw [hml]; rfl) (argsL := [(.int (b1_0 p3))]) (rest := []) (lenOf pd_3 rfl) rfl (by show 2 * 0 + _ ≤ _; exact Nat.le_of_eq rfl) (hb hby at_209) (fun _ _ => ⟨rfl, e34, (by decide : 5 + 0 ≤ _), (by decide : 45 + 0 ≤ _)⟩)
              dsimp only [Pt.U, Pt.locs, Pt.cells, Pt.slots] at X35 l35 y35 z35 st35 hQ35
              subst l35 y35 z35
              have X35 : Stand p l e room_1 s m #[(.int p1), (.int p2), (.int p3), (.int p4), (.int p5)] below meth c T35 _ 5 45 := X35
              obtain ⟨⟨rfl, e35'⟩, N35q⟩ := hQ35
              have e35 : T35.heap = h23 := e35'
              have N35 := Fr.app N34 N35q
              refine go (fun t k => st35 _ k) ?_
              show Gl _ _ _ _ _ _ _ _ (T35.setTop (mkF m 212 #[.val (.int p1), .val (.int p2), .val (.int p3), .val (.int p4), .val (.int p5), .val (.int ((p5 &&& (2147483647 : Int32)) % (5 : Int32))), .val (.int (b1_0 p1)), .val (.int (b1_0 p2)), .val (.int (b1_0 p3)), .val (.int (b1_0 p4)), .val (.ref o22), .unset, .unset] [(.ref (b4_0 (b1_0 p3) w_XACML w_COMPACT))]))
              refine go (fun t k => XS.astore X35.here hx rfl (hb hby at_212) rfl rfl (l' := #[.val (.int p1), .val (.int p2), .val (.int p3), .val (.int p4), .val (.int p5), .val (.int ((p5 &&& (2147483647 : Int32)) % (5 : Int32))), .val (.int (b1_0 p1)), .val (.int (b1_0 p2)), .val (.int (b1_0 p3)), .val (.int (b1_0 p4)), .val (.ref o22), .val (.ref (b4_0 (b1_0 p3) w_XACML w_COMPACT)), .unset]) rfl k) ?_
              show Gl _ _ _ _ _ _ _ _ (T35.setTop (mkF m 214 #[.val (.int p1), .val (.int p2), .val (.int p3), .val (.int p4), .val (.int p5), .val (.int ((p5 &&& (2147483647 : Int32)) % (5 : Int32))), .val (.int (b1_0 p1)), .val (.int (b1_0 p2)), .val (.int (b1_0 p3)), .val (.int (b1_0 p4)), .val (.ref o22), .val (.ref (b4_0 (b1_0 p3) w_XACML w_COMPACT)), .unset] []))
              refine go (fun t k => XS.goto X35.here hx rfl (pc0 := 214) (pc' := 247) rfl (hb hby at_214) (by decide) (by decide) k) ?_
              show Gl _ _ _ _ _ _ _ _ (T35.setTop (mkF m 247 #[.val (.int p1), .val (.int p2), .val (.int p3), .val (.int p4), .val (.int p5), .val (.int ((p5 &&& (2147483647 : Int32)) % (5 : Int32))), .val (.int (b1_0 p1)), .val (.int (b1_0 p2)), .val (.int (b1_0 p3)), .val (.int (b1_0 p4)), .val (.ref o22), .val (.ref (b4_0 (b1_0 p3) w_XACML w_COMPACT)), .unset] []))
              exact J247 (b4_0 (b1_0 p3) w_XACML w_COMPACT) T35 _ X35 e35 N35
          · refine go (fun t k => XS.icmpYes XJ192.here hx rfl (pc0 := 195) (pc' := 217) rfl (hb hby at_195) rfl (flt hc195).2.2.2 (by decide) (by decide) k) ?_
            show Gl _ _ _ _ _ _ _ _ (TJ192.setTop (mkF m 217 #[.val (.int p1), .val (.int p2), .val (.int p3), .val (.int p4), .val (.int p5), .val (.int ((p5 &&& (2147483647 : Int32)) % (5 : Int32))), .val (.int (b1_0 p1)), .val (.int (b1_0 p2)), .val (.int (b1_0 p3)), .val (.int (b1_0 p4)), .val (.ref o22), .unset, .unset] []))
            exact J217  TJ192 _ XJ192 eJ192 NJ192
        refine gI (c := (1 : Int32) < ((p5 &&& (2147483647 : Int32)) % (5 : Int32))) (fun hc170 => ?_) (fun hc170 => ?_)
        · refine go (fun t k => XS.icmpNo XJ167.here hx rfl (hb hby at_170) rfl (tlt hc170).2.2.2 k) ?_
          show Gl _ _ _ _ _ _ _ _ (TJ167.setTop (mkF m 173 #[.val (.int p1), .val (.int p2), .val (.int p3), .val (.int p4), .val (.int p5), .val (.int ((p5 &&& (2147483647 : Int32)) % (5 : Int32))), .val (.int (b1_0 p1)), .val (.int (b1_0 p2)), .val (.int (b1_0 p3)), .val (.int (b1_0 p4)), .val (.ref o22), .unset, .unset] []))
          refine go (fun t k => XS.iload XJ167.here hx rfl (hb hby at_173) rfl  k) ?_
          show Gl _ _ _ _ _ _ _ _ (TJ167.setTop (mkF m 175 #[.val (.int p1), .val (.int p2), .val (.int p3), .val (.int p4), .val (.int p5), .val (.int ((p5 &&& (2147483647 : Int32)) % (5 : Int32))), .val (.int (b1_0 p1)), .val (.int (b1_0 p2)), .val (.int (b1_0 p3)), .val (.int (b1_0 p4)), .val (.ref o22), .unset, .unset] [(.int (b1_0 p2))]))
          obtain ⟨_, _, ⟨T36, L36, k36, n36⟩, -, X36, ⟨Lc36, hQ36, l36, y36, z36⟩, st36⟩ := Jvm.LawKit.callS XJ167 hx (y := (⟨"com/example/policylint/policylint/PolicySyntaxOfPinLaw", "cls", "(B)I"⟩ : MethodName)) hown (mvT hZ (hw _ (List.mem_of_getElem? (i := 13) rfl))) (mvT hZ (hw _ (List.mem_of_getElem? (i := 14) rfl))) (mvT hZ (hw _ (List.mem_of_getElem? (i := 3) rfl))) (mvT hZ (hw _ (List.mem_of_getElem? (i := 15) rfl))) (by decide) (backOf (W := 0) (rm3 l Z a0 hw [] (b1_0 p2) h23 n0 (Nat.le_trans (Nat.le_trans (Nat.le_trans (Nat.le_trans (Nat.le_trans (Nat.le_trans Z0 K1q.1) K2q.1) K3q.1) K4q.1) E22.1) (Keep.of_wr W23).1) ) hZ (hw _ (List.mem_of_getElem? (i := 15) rfl)) (hw _ (List.mem_of_getElem? (i := 3) rfl)) (by decide) (by decide)) (g := (mkF m 175 #[.val (.int p1), .val (.int p2), .val (.int p3), .val (.int p4), .val (.int p5), .val (.int ((p5 &&& (2147483647 : Int32)) % (5 : Int32))), .val (.int (b1_0 p1)), .val (.int (b1_0 p2)), .val (.int (b1_0 p3)), .val (.int (b1_0 p4)), .val (.ref o22), .unset, .unset] [(.int (b1_0 p2))])) rfl (by rw [hml]; rfl) (argsL := [(.int (b1_0 p2))]) (rest := []) (lenOf pd_0 rfl) rfl (by show 2 * 0 + _ ≤ _; exact Nat.le_of_eq rfl) (hb hby at_175) (fun _ _ => ⟨rfl, eJ167, (by decide : 5 + 0 ≤ _), (by decide : 45 + 0 ≤ _)⟩)
          dsimp only [Pt.U, Pt.locs, Pt.cells, Pt.slots] at X36 l36 y36 z36 st36 hQ36
          subst l36 y36 z36
          have X36 : Stand p l e room_1 s m #[(.int p1), (.int p2), (.int p3), (.int p4), (.int p5)] below meth c T36 _ 5 45 := X36
          obtain ⟨⟨rfl, e36'⟩, N36q⟩ := hQ36
          have e36 : T36.heap = h23 := e36'
          have N36 := Fr.app NJ167 N36q
          refine go (fun t k => st36 _ k) ?_
          show Gl _ _ _ _ _ _ _ _ (T36.setTop (mkF m 178 #[.val (.int p1), .val (.int p2), .val (.int p3), .val (.int p4), .val (.int p5), .val (.int ((p5 &&& (2147483647 : Int32)) % (5 : Int32))), .val (.int (b1_0 p1)), .val (.int (b1_0 p2)), .val (.int (b1_0 p3)), .val (.int (b1_0 p4)), .val (.ref o22), .unset, .unset] [(.int (b3_0 (b1_0 p2)))]))
          refine go (fun t k => XS.iconst X36.here hx rfl (hb hby at_178) k) ?_
          show Gl _ _ _ _ _ _ _ _ (T36.setTop (mkF m 179 #[.val (.int p1), .val (.int p2), .val (.int p3), .val (.int p4), .val (.int p5), .val (.int ((p5 &&& (2147483647 : Int32)) % (5 : Int32))), .val (.int (b1_0 p1)), .val (.int (b1_0 p2)), .val (.int (b1_0 p3)), .val (.int (b1_0 p4)), .val (.ref o22), .unset, .unset] [(.int (1 : Int32)), (.int (b3_0 (b1_0 p2)))]))
          refine gI (c := (b3_0 (b1_0 p2)) = (1 : Int32)) (fun hc179 => ?_) (fun hc179 => ?_)
          · refine go (fun t k => XS.icmpYes X36.here hx rfl (pc0 := 179) (pc' := 192) rfl (hb hby at_179) rfl (teq hc179).1 (by decide) (by decide) k) ?_
            show Gl _ _ _ _ _ _ _ _ (T36.setTop (mkF m 192 #[.val (.int p1), .val (.int p2), .val (.int p3), .val (.int p4), .val (.int p5), .val (.int ((p5 &&& (2147483647 : Int32)) % (5 : Int32))), .val (.int (b1_0 p1)), .val (.int (b1_0 p2)), .val (.int (b1_0 p3)), .val (.int (b1_0 p4)), .val (.ref o22), .unset, .unset] []))
            exact J192  T36 _ X36 e36 N36
          · refine go (fun t k => XS.icmpNo X36.here hx rfl (hb hby at_179) rfl (feq hc179).1 k) ?_
            show Gl _ _ _ _ _ _ _ _ (T36.setTop (mkF m 182 #[.val (.int p1), .val (.int p2), .val (.int p3), .val (.int p4), .val (.int p5), .val (.int ((p5 &&& (2147483647 : Int32)) % (5 : Int32))), .val (.int (b1_0 p1)), .val (.int (b1_0 p2)), .val (.int (b1_0 p3)), .val (.int (b1_0 p4)), .val (.ref o22), .unset, .unset] []))
            refine go (fun t k => XS.iload X36.here hx rfl (hb hby at_182) rfl  k) ?_
            show Gl _ _ _ _ _ _ _ _ (T36.setTop (mkF m 184 #[.val (.int p1), .val (.int p2), .val (.int p3), .val (.int p4), .val (.int p5), .val (.int ((p5 &&& (2147483647 : Int32)) % (5 : Int32))), .val (.int (b1_0 p1)), .val (.int (b1_0 p2)), .val (.int (b1_0 p3)), .val (.int (b1_0 p4)), .val (.ref o22), .unset, .unset] [(.int (b1_0 p2))]))
            obtain ⟨_, _, ⟨T37, L37, k37, n37⟩, -, X37, ⟨Lc37, hQ37, l37, y37, z37⟩, st37⟩ := Jvm.LawKit.callS X36 hx (y := (⟨"com/example/policylint/policylint/PolicySyntaxOfPinLaw", "verdict", "(B)Lcom/example/policylint/policylint/PolicySyntax;"⟩ : MethodName)) hown (mvT hZ (hw _ (List.mem_of_getElem? (i := 16) rfl))) (mvT hZ (hw _ (List.mem_of_getElem? (i := 17) rfl))) (mvT hZ (hw _ (List.mem_of_getElem? (i := 3) rfl))) (mvT hZ (hw _ (List.mem_of_getElem? (i := 18) rfl))) (by decide) (backOf (W := 0) (rm4 l Z a0 hw [] (b1_0 p2) w_XACML w_COMPACT h23 n0 (Nat.le_trans (Nat.le_trans (Nat.le_trans (Nat.le_trans (Nat.le_trans (Nat.le_trans Z0 K1q.1) K2q.1) K3q.1) K4q.1) E22.1) (Keep.of_wr W23).1) (Sta.wr W23 ((sta_keep0 (sta_keep0 (sta_keep0 (sta_keep0 S_XACML K1q) K2q) K3q) K4q).ext E22)) (Sta.wr W23 ((sta_keep0 (sta_keep0 (sta_keep0 (sta_keep0 S_COMPACT K1q) K2q) K3q) K4q).ext E22))) hZ (hw _ (List.mem_of_getElem? (i := 18) rfl)) (hw _ (List.mem_of_getElem? (i := 3) rfl)) (by decide) (by decide)) (g := (mkF m 184 #[.val (.int p1), .val (.int p2), .val (.int p3), .val (.int p4), .val (.int p5), .val (.int ((p5 &&& (2147483647 : Int32)) % (5 : Int32))), .val (.int (b1_0 p1)), .val (.int (b1_0 p2)), .val (.int (b1_0 p3)), .val (.int (b1_0 p4)), .val (.ref o22), .unset, .unset] [(.int (b1_0 p2))])) rfl (by rw [hml]; rfl) (argsL := [(.int (b1_0 p2))]) (rest := []) (lenOf pd_3 rfl) rfl (by show 2 * 0 + _ ≤ _; exact Nat.le_of_eq rfl) (hb hby at_184) (fun _ _ => ⟨rfl, e36, (by decide : 5 + 0 ≤ _), (by decide : 45 + 0 ≤ _)⟩)
            dsimp only [Pt.U, Pt.locs, Pt.cells, Pt.slots] at X37 l37 y37 z37 st37 hQ37
            subst l37 y37 z37
            have X37 : Stand p l e room_1 s m #[(.int p1), (.int p2), (.int p3), (.int p4), (.int p5)] below meth c T37 _ 5 45 := X37
            obtain ⟨⟨rfl, e37'⟩, N37q⟩ := hQ37
            have e37 : T37.heap = h23 := e37'
            have N37 := Fr.app N36 N37q
            refine go (fun t k => st37 _ k) ?_
            show Gl _ _ _ _ _ _ _ _ (T37.setTop (mkF m 187 #[.val (.int p1), .val (.int p2), .val (.int p3), .val (.int p4), .val (.int p5), .val (.int ((p5 &&& (2147483647 : Int32)) % (5 : Int32))), .val (.int (b1_0 p1)), .val (.int (b1_0 p2)), .val (.int (b1_0 p3)), .val (.int (b1_0 p4)), .val (.ref o22), .unset, .unset] [(.ref (b4_0 (b1_0 p2) w_XACML w_COMPACT))]))
            refine go (fun t k => XS.astore X37.here hx rfl (hb hby at_187) rfl rfl (l' := #[.val (.int p1), .val (.int p2), .val (.int p3), .val (.int p4), .val (.int p5), .val (.int ((p5 &&& (2147483647 : Int32)) % (5 : Int32))), .val (.int (b1_0 p1)), .val (.int (b1_0 p2)), .val (.int (b1_0 p3)), .val (.int (b1_0 p4)), .val (.ref o22), .val (.ref (b4_0 (b1_0 p2) w_XACML w_COMPACT)), .unset]) rfl k) ?_
            show Gl _ _ _ _ _ _ _ _ (T37.setTop (mkF m 189 #[.val (.int p1), .val (.int p2), .val (.int p3), .val (.int p4), .val (.int p5), .val (.int ((p5 &&& (2147483647 : Int32)) % (5 : Int32))), .val (.int (b1_0 p1)), .val (.int (b1_0 p2)), .val (.int (b1_0 p3)), .val (.int (b1_0 p4)), .val (.ref o22), .val (.ref (b4_0 (b1_0 p2) w_XACML w_COMPACT)), .unset] []))
            refine go (fun t k => XS.goto X37.here hx rfl (pc0 := 189) (pc' := 247) rfl (hb hby at_189) (by decide) (by decide) k) ?_
            show Gl _ _ _ _ _ _ _ _ (T37.setTop (mkF m 247 #[.val (.int p1), .val (.int p2), .val (.int p3), .val (.int p4), .val (.int p5), .val (.int ((p5 &&& (2147483647 : Int32)) % (5 : Int32))), .val (.int (b1_0 p1)), .val (.int (b1_0 p2)), .val (.int (b1_0 p3)), .val (.int (b1_0 p4)), .val (.ref o22), .val (.ref (b4_0 (b1_0 p2) w_XACML w_COMPACT)), .unset] []))
            exact J247 (b4_0 (b1_0 p2) w_XACML w_COMPACT) T37 _ X37 e37 N37
        · refine go (fun t k => XS.icmpYes XJ167.here hx rfl (pc0 := 170) (pc' := 192) rfl (hb hby at_170) rfl (flt hc170).2.2.2 (by decide) (by decide) k) ?_
          show Gl _ _ _ _ _ _ _ _ (TJ167.setTop (mkF m 192 #[.val (.int p1), .val (.int p2), .val (.int p3), .val (.int p4), .val (.int p5), .val (.int ((p5 &&& (2147483647 : Int32)) % (5 : Int32))), .val (.int (b1_0 p1)), .val (.int (b1_0 p2)), .val (.int (b1_0 p3)), .val (.int (b1_0 p4)), .val (.ref o22), .unset, .unset] []))
          exact J192  TJ167 _ XJ167 eJ167 NJ167
      refine gI (c := (0 : Int32) < ((p5 &&& (2147483647 : Int32)) % (5 : Int32))) (fun hc145 => ?_) (fun hc145 => ?_)
      · refine go (fun t k => XS.ifNo X23.here hx rfl (hb hby at_145) rfl ((if0 _ _).trans (tlt hc145).2.2.2) k) ?_
        show Gl _ _ _ _ _ _ _ _ (T23.setTop (mkF m 148 #[.val (.int p1), .val (.int p2), .val (.int p3), .val (.int p4), .val (.int p5), .val (.int ((p5 &&& (2147483647 : Int32)) % (5 : Int32))), .val (.int (b1_0 p1)), .val (.int (b1_0 p2)), .val (.int (b1_0 p3)), .val (.int (b1_0 p4)), .val (.ref o22), .unset, .unset] []))
        refine go (fun t k => XS.iload X23.here hx rfl (hb hby at_148) rfl  k) ?_
        show Gl _ _ _ _ _ _ _ _ (T23.setTop (mkF m 150 #[.val (.int p1), .val (.int p2), .val (.int p3), .val (.int p4), .val (.int p5), .val (.int ((p5 &&& (2147483647 : Int32)) % (5 : Int32))), .val (.int (b1_0 p1)), .val (.int (b1_0 p2)), .val (.int (b1_0 p3)), .val (.int (b1_0 p4)), .val (.ref o22), .unset, .unset] [(.int (b1_0 p1))]))
        obtain ⟨_, _, ⟨T38, L38, k38, n38⟩, -, X38, ⟨Lc38, hQ38, l38, y38, z38⟩, st38⟩ := Jvm.LawKit.callS X23 hx (y := (⟨"com/example/policylint/policylint/PolicySyntaxOfPinLaw", "cls", "(B)I"⟩ : MethodName)) hown (mvT hZ (hw _ (List.mem_of_getElem? (i := 13) rfl))) (mvT hZ (hw _ (List.mem_of_getElem? (i := 14) rfl))) (mvT hZ (hw _ (List.mem_of_getElem? (i := 3) rfl))) (mvT hZ (hw _ (List.mem_of_getElem? (i := 15) rfl))) (by decide) (backOf (W := 0) (rm3 l Z a0 hw [] (b1_0 p1) h23 n0 (Nat.le_trans (Nat.le_trans (Nat.le_trans (Nat.le_trans (Nat.le_trans (Nat.le_trans Z0 K1q.1) K2q.1) K3q.1) K4q.1) E22.1) (Keep.of_wr W23).1) ) hZ (hw _ (List.mem_of_getElem? (i := 15) rfl)) (hw _ (List.mem_of_getElem? (i := 3) rfl)) (by decide) (by decide)) (g := (mkF m 150 #[.val (.int p1), .val (.int p2), .val (.int p3), .val (.int p4), .val (.int p5), .val (.int ((p5 &&& (2147483647 : Int32)) % (5 : Int32))), .val (.int (b1_0 p1)), .val (.int (b1_0 p2)), .val (.int (b1_0 p3)), .val (.int (b1_0 p4)), .val (.ref o22), .unset, .unset] [(.int (b1_0 p1))])) rfl (by rw [hml]; rfl) (argsL := [(.int (b1_0 p1))]) (rest := []) (lenOf pd_0 rfl) rfl (by show 2 * 0 + _ ≤ _; exact Nat.le_of_eq rfl) (hb hby at_150) (fun _ _ => ⟨rfl, e23, (by decide : 5 + 0 ≤ _), (by decide : 45 + 0 ≤ _)⟩)
        dsimp only [Pt.U, Pt.locs, Pt.cells, Pt.slots] at X38 l38 y38 z38 st38 hQ38
        subst l38 y38 z38
        have X38 : Stand p l e room_1 s m #[(.int p1), (.int p2), (.int p3), (.int p4), (.int p5)] below meth c T38 _ 5 45 := X38
        obtain ⟨⟨rfl, e38'⟩, N38q⟩ := hQ38
        have e38 : T38.heap = h23 := e38'
        have N38 := Fr.app N23 N38q
        refine go (fun t k => st38 _ k) ?_
        show Gl _ _ _ _ _ _ _ _ (T38.setTop (mkF m 153 #[.val (.int p1), .val (.int p2), .val (.int p3), .val (.int p4), .val (.int p5), .val (.int ((p5 &&& (2147483647 : Int32)) % (5 : Int32))), .val (.int (b1_0 p1)), .val (.int (b1_0 p2)), .val (.int (b1_0 p3)), .val (.int (b1_0 p4)), .val (.ref o22), .unset, .unset] [(.int (b3_0 (b1_0 p1)))]))
        refine go (fun t k => XS.iconst X38.here hx rfl (hb hby at_153) k) ?_
        show Gl _ _ _ _ _ _ _ _ (T38.setTop (mkF m 154 #[.val (.int p1), .val (.int p2), .val (.int p3), .val (.int p4), .val (.int p5), .val (.int ((p5 &&& (2147483647 : Int32)) % (5 : Int32))), .val (.int (b1_0 p1)), .val (.int (b1_0 p2)), .val (.int (b1_0 p3)), .val (.int (b1_0 p4)), .val (.ref o22), .unset, .unset] [(.int (1 : Int32)), (.int (b3_0 (b1_0 p1)))]))
        refine gI (c := (b3_0 (b1_0 p1)) = (1 : Int32)) (fun hc154 => ?_) (fun hc154 => ?_)
        · refine go (fun t k => XS.icmpYes X38.here hx rfl (pc0 := 154) (pc' := 167) rfl (hb hby at_154) rfl (teq hc154).1 (by decide) (by decide) k) ?_
          show Gl _ _ _ _ _ _ _ _ (T38.setTop (mkF m 167 #[.val (.int p1), .val (.int p2), .val (.int p3), .val (.int p4), .val (.int p5), .val (.int ((p5 &&& (2147483647 : Int32)) % (5 : Int32))), .val (.int (b1_0 p1)), .val (.int (b1_0 p2)), .val (.int (b1_0 p3)), .val (.int (b1_0 p4)), .val (.ref o22), .unset, .unset] []))
          exact J167  T38 _ X38 e38 N38
        · refine go (fun t k => XS.icmpNo X38.here hx rfl (hb hby at_154) rfl (feq hc154).1 k) ?_
          show Gl _ _ _ _ _ _ _ _ (T38.setTop (mkF m 157 #[.val (.int p1), .val (.int p2), .val (.int p3), .val (.int p4), .val (.int p5), .val (.int ((p5 &&& (2147483647 : Int32)) % (5 : Int32))), .val (.int (b1_0 p1)), .val (.int (b1_0 p2)), .val (.int (b1_0 p3)), .val (.int (b1_0 p4)), .val (.ref o22), .unset, .unset] []))
          refine go (fun t k => XS.iload X38.here hx rfl (hb hby at_157) rfl  k) ?_
          show Gl _ _ _ _ _ _ _ _ (T38.setTop (mkF m 159 #[.val (.int p1), .val (.int p2), .val (.int p3), .val (.int p4), .val (.int p5), .val (.int ((p5 &&& (2147483647 : Int32)) % (5 : Int32))), .val (.int (b1_0 p1)), .val (.int (b1_0 p2)), .val (.int (b1_0 p3)), .val (.int (b1_0 p4)), .val (.ref o22), .unset, .unset] [(.int (b1_0 p1))]))
          obtain ⟨_, _, ⟨T39, L39, k39, n39⟩, -, X39, ⟨Lc39, hQ39, l39, y39, z39⟩, st39⟩ := Jvm.LawKit.callS X38 hx (y := (⟨"com/example/policylint/policylint/PolicySyntaxOfPinLaw", "verdict", "(B)Lcom/example/policylint/policylint/PolicySyntax;"⟩ : MethodName)) hown (mvT hZ (hw _ (List.mem_of_getElem? (i := 16) rfl))) (mvT hZ (hw _ (List.mem_of_getElem? (i := 17) rfl))) (mvT hZ (hw _ (List.mem_of_getElem? (i := 3) rfl))) (mvT hZ (hw _ (List.mem_of_getElem? (i := 18) rfl))) (by decide) (backOf (W := 0) (rm4 l Z a0 hw [] (b1_0 p1) w_XACML w_COMPACT h23 n0 (Nat.le_trans (Nat.le_trans (Nat.le_trans (Nat.le_trans (Nat.le_trans (Nat.le_trans Z0 K1q.1) K2q.1) K3q.1) K4q.1) E22.1) (Keep.of_wr W23).1) (Sta.wr W23 ((sta_keep0 (sta_keep0 (sta_keep0 (sta_keep0 S_XACML K1q) K2q) K3q) K4q).ext E22)) (Sta.wr W23 ((sta_keep0 (sta_keep0 (sta_keep0 (sta_keep0 S_COMPACT K1q) K2q) K3q) K4q).ext E22))) hZ (hw _ (List.mem_of_getElem? (i := 18) rfl)) (hw _ (List.mem_of_getElem? (i := 3) rfl)) (by decide) (by decide)) (g := (mkF m 159 #[.val (.int p1), .val (.int p2), .val (.int p3), .val (.int p4), .val (.int p5), .val (.int ((p5 &&& (2147483647 : Int32)) % (5 : Int32))), .val (.int (b1_0 p1)), .val (.int (b1_0 p2)), .val (.int (b1_0 p3)), .val (.int (b1_0 p4)), .val (.ref o22), .unset, .unset] [(.int (b1_0 p1))])) rfl (by rw [hml]; rfl) (argsL := [(.int (b1_0 p1))]) (rest := []) (lenOf pd_3 rfl) rfl (by show 2 * 0 + _ ≤ _; exact Nat.le_of_eq rfl) (hb hby at_159) (fun _ _ => ⟨rfl, e38, (by decide : 5 + 0 ≤ _), (by decide : 45 + 0 ≤ _)⟩)
          dsimp only [Pt.U, Pt.locs, Pt.cells, Pt.slots] at X39 l39 y39 z39 st39 hQ39
          subst l39 y39 z39
          have X39 : Stand p l e room_1 s m #[(.int p1), (.int p2), (.int p3), (.int p4), (.int p5)] below meth c T39 _ 5 45 := X39
          obtain ⟨⟨rfl, e39'⟩, N39q⟩ := hQ39
          have e39 : T39.heap = h23 := e39'
          have N39 := Fr.app N38 N39q
          refine go (fun t k => st39 _ k) ?_
          show Gl _ _ _ _ _ _ _ _ (T39.setTop (mkF m 162 #[.val (.int p1), .val (.int p2), .val (.int p3), .val (.int p4), .val (.int p5), .val (.int ((p5 &&& (2147483647 : Int32)) % (5 : Int32))), .val (.int (b1_0 p1)), .val (.int (b1_0 p2)), .val (.int (b1_0 p3)), .val (.int (b1_0 p4)), .val (.ref o22), .unset, .unset] [(.ref (b4_0 (b1_0 p1) w_XACML w_COMPACT))]))
          refine go (fun t k => XS.astore X39.here hx rfl (hb hby at_162) rfl rfl (l' := #[.val (.int p1), .val (.int p2), .val (.int p3), .val (.int p4), .val (.int p5), .val (.int ((p5 &&& (2147483647 : Int32)) % (5 : Int32))), .val (.int (b1_0 p1)), .val (.int (b1_0 p2)), .val (.int (b1_0 p3)), .val (.int (b1_0 p4)), .val (.ref o22), .val (.ref (b4_0 (b1_0 p1) w_XACML w_COMPACT)), .unset]) rfl k) ?_
          show Gl _ _ _ _ _ _ _ _ (T39.setTop (mkF m 164 #[.val (.int p1), .val (.int p2), .val (.int p3), .val (.int p4), .val (.int p5), .val (.int ((p5 &&& (2147483647 : Int32)) % (5 : Int32))), .val (.int (b1_0 p1)), .val (.int (b1_0 p2)), .val (.int (b1_0 p3)), .val (.int (b1_0 p4)), .val (.ref o22), .val (.ref (b4_0 (b1_0 p1) w_XACML w_COMPACT)), .unset] []))
          refine go (fun t k => XS.goto X39.here hx rfl (pc0 := 164) (pc' := 247) rfl (hb hby at_164) (by decide) (by decide) k) ?_
          show Gl _ _ _ _ _ _ _ _ (T39.setTop (mkF m 247 #[.val (.int p1), .val (.int p2), .val (.int p3), .val (.int p4), .val (.int p5), .val (.int ((p5 &&& (2147483647 : Int32)) % (5 : Int32))), .val (.int (b1_0 p1)), .val (.int (b1_0 p2)), .val (.int (b1_0 p3)), .val (.int (b1_0 p4)), .val (.ref o22), .val (.ref (b4_0 (b1_0 p1) w_XACML w_COMPACT)), .unset] []))
          exact J247 (b4_0 (b1_0 p1) w_XACML w_COMPACT) T39 _ X39 e39 N39
      · refine go (fun t k => XS.ifYes X23.here hx rfl (pc0 := 145) (pc' := 167) rfl (hb hby at_145) rfl ((if0 _ _).trans (flt hc145).2.2.2) (by decide) (by decide) k) ?_
        show Gl _ _ _ _ _ _ _ _ (T23.setTop (mkF m 167 #[.val (.int p1), .val (.int p2), .val (.int p3), .val (.int p4), .val (.int p5), .val (.int ((p5 &&& (2147483647 : Int32)) % (5 : Int32))), .val (.int (b1_0 p1)), .val (.int (b1_0 p2)), .val (.int (b1_0 p3)), .val (.int (b1_0 p4)), .val (.ref o22), .unset, .unset] []))
        exact J167  T23 _ X23 e23 N23
    · refine go (fun t k => XS.icmpYes X4.here hx rfl (pc0 := 49) (pc' := 65) rfl (hb hby at_49) rfl (feq hc49).2 (by decide) (by decide) k) ?_
      show Gl _ _ _ _ _ _ _ _ (T4.setTop (mkF m 65 #[.val (.int p1), .val (.int p2), .val (.int p3), .val (.int p4), .val (.int p5), .val (.int ((p5 &&& (2147483647 : Int32)) % (5 : Int32))), .val (.int (b1_0 p1)), .val (.int (b1_0 p2)), .val (.int (b1_0 p3)), .val (.int (b1_0 p4)), .unset, .unset, .unset] []))
      refine go (fun t k => XS.iload X4.here hx rfl (hb hby at_65) rfl  k) ?_
      show Gl _ _ _ _ _ _ _ _ (T4.setTop (mkF m 67 #[.val (.int p1), .val (.int p2), .val (.int p3), .val (.int p4), .val (.int p5), .val (.int ((p5 &&& (2147483647 : Int32)) % (5 : Int32))), .val (.int (b1_0 p1)), .val (.int (b1_0 p2)), .val (.int (b1_0 p3)), .val (.int (b1_0 p4)), .unset, .unset, .unset] [(.int ((p5 &&& (2147483647 : Int32)) % (5 : Int32)))]))
      refine go (fun t k => XS.iconst X4.here hx rfl (hb hby at_67) k) ?_
      show Gl _ _ _ _ _ _ _ _ (T4.setTop (mkF m 68 #[.val (.int p1), .val (.int p2), .val (.int p3), .val (.int p4), .val (.int p5), .val (.int ((p5 &&& (2147483647 : Int32)) % (5 : Int32))), .val (.int (b1_0 p1)), .val (.int (b1_0 p2)), .val (.int (b1_0 p3)), .val (.int (b1_0 p4)), .unset, .unset, .unset] [(.int (2 : Int32)), (.int ((p5 &&& (2147483647 : Int32)) % (5 : Int32)))]))
      refine gI (c := ((p5 &&& (2147483647 : Int32)) % (5 : Int32)) = (2 : Int32)) (fun hc68 => ?_) (fun hc68 => ?_)
      · refine go (fun t k => XS.icmpNo X4.here hx rfl (hb hby at_68) rfl (teq hc68).2 k) ?_
        show Gl _ _ _ _ _ _ _ _ (T4.setTop (mkF m 71 #[.val (.int p1), .val (.int p2), .val (.int p3), .val (.int p4), .val (.int p5), .val (.int ((p5 &&& (2147483647 : Int32)) % (5 : Int32))), .val (.int (b1_0 p1)), .val (.int (b1_0 p2)), .val (.int (b1_0 p3)), .val (.int (b1_0 p4)), .unset, .unset, .unset] []))
        refine go (fun t k => XS.iconst X4.here hx rfl (hb hby at_71) k) ?_
        show Gl _ _ _ _ _ _ _ _ (T4.setTop (mkF m 72 #[.val (.int p1), .val (.int p2), .val (.int p3), .val (.int p4), .val (.int p5), .val (.int ((p5 &&& (2147483647 : Int32)) % (5 : Int32))), .val (.int (b1_0 p1)), .val (.int (b1_0 p2)), .val (.int (b1_0 p3)), .val (.int (b1_0 p4)), .unset, .unset, .unset] [(.int (2 : Int32))]))
        obtain ⟨T40, h40, k40, X40, e40, E40, A40, st40⟩ := newP X4 hx hZ (hw _ (List.mem_of_getElem? (i := 5) rfl)) e4 (g := (mkF m 72 #[.val (.int p1), .val (.int p2), .val (.int p3), .val (.int p4), .val (.int p5), .val (.int ((p5 &&& (2147483647 : Int32)) % (5 : Int32))), .val (.int (b1_0 p1)), .val (.int (b1_0 p2)), .val (.int (b1_0 p3)), .val (.int (b1_0 p4)), .unset, .unset, .unset] [(.int (2 : Int32))])) rfl (hb hby at_72) rfl (by decide) (cap := 2) (by decide) (by decide) (by decide) (by decide)
        obtain ⟨o40, gq40⟩ : ∃ z, z = h4.size := ⟨_, rfl⟩
        rw [← gq40] at A40 st40
        have g_o40 : n0 ≤ o40 := Nat.le_trans (Nat.le_trans (Nat.le_trans (Nat.le_trans (Nat.le_trans Z0 K1q.1) K2q.1) K3q.1) K4q.1) (Nat.le_of_eq gq40.symm)
        have V_o40 : Arv Z h40 o40 k40 .byte (2 : Int32) [(.int (0 : Int32)), (.int (0 : Int32))] (.int (0 : Int32)) := (Arv.new A40 (by decide)).pad (pad_rep [] (.int (0 : Int32)) 2)
        have K40 : Keep h0 h40 [] := K4.ext E40
        have sz_o40 : h0.size ≤ o40 := Nat.le_trans K4.1 (Nat.le_of_eq gq40.symm)
        refine go (fun t k => st40 _ k) ?_
        show Gl _ _ _ _ _ _ _ _ (T40.setTop (mkF m 74 #[.val (.int p1), .val (.int p2), .val (.int p3), .val (.int p4), .val (.int p5), .val (.int ((p5 &&& (2147483647 : Int32)) % (5 : Int32))), .val (.int (b1_0 p1)), .val (.int (b1_0 p2)), .val (.int (b1_0 p3)), .val (.int (b1_0 p4)), .unset, .unset, .unset] [(.ref o40)]))
        refine go (fun t k => XS.dup X40.here hx rfl (hb hby at_74) rfl rfl k) ?_
        show Gl _ _ _ _ _ _ _ _ (T40.setTop (mkF m 75 #[.val (.int p1), .val (.int p2), .val (.int p3), .val (.int p4), .val (.int p5), .val (.int ((p5 &&& (2147483647 : Int32)) % (5 : Int32))), .val (.int (b1_0 p1)), .val (.int (b1_0 p2)), .val (.int (b1_0 p3)), .val (.int (b1_0 p4)), .unset, .unset, .unset] [(.ref o40), (.ref o40)]))
        refine go (fun t k => XS.iconst X40.here hx rfl (hb hby at_75) k) ?_
        show Gl _ _ _ _ _ _ _ _ (T40.setTop (mkF m 76 #[.val (.int p1), .val (.int p2), .val (.int p3), .val (.int p4), .val (.int p5), .val (.int ((p5 &&& (2147483647 : Int32)) % (5 : Int32))), .val (.int (b1_0 p1)), .val (.int (b1_0 p2)), .val (.int (b1_0 p3)), .val (.int (b1_0 p4)), .unset, .unset, .unset] [(.int (0 : Int32)), (.ref o40), (.ref o40)]))
        refine go (fun t k => XS.iload X40.here hx rfl (hb hby at_76) rfl  k) ?_
        show Gl _ _ _ _ _ _ _ _ (T40.setTop (mkF m 78 #[.val (.int p1), .val (.int p2), .val (.int p3), .val (.int p4), .val (.int p5), .val (.int ((p5 &&& (2147483647 : Int32)) % (5 : Int32))), .val (.int (b1_0 p1)), .val (.int (b1_0 p2)), .val (.int (b1_0 p3)), .val (.int (b1_0 p4)), .unset, .unset, .unset] [(.int (b1_0 p1)), (.int (0 : Int32)), (.ref o40), (.ref o40)]))
        obtain ⟨cl41, Ar41, vq41, S41, M41, Hh41, G41⟩ := id V_o40
        obtain ⟨T41, h41, X41, e41, W41, st41⟩ := stB X40 hx hZ e40 Ar41 (j := (0 : Int32)) (inb_of S41 ⟨by decide, by decide⟩) (g := (mkF m 78 #[.val (.int p1), .val (.int p2), .val (.int p3), .val (.int p4), .val (.int p5), .val (.int ((p5 &&& (2147483647 : Int32)) % (5 : Int32))), .val (.int (b1_0 p1)), .val (.int (b1_0 p2)), .val (.int (b1_0 p3)), .val (.int (b1_0 p4)), .unset, .unset, .unset] [(.int (b1_0 p1)), (.int (0 : Int32)), (.ref o40), (.ref o40)])) rfl rfl (hb hby at_78)
        have V41 : Arv Z h41 o40 k40 .byte (2 : Int32) [(.int (nar .byte (b1_0 p1))), (.int (0 : Int32))] (.int (0 : Int32)) := Arv.set Ar41 vq41 S41 M41 Hh41 G41 (fits_nar_byte _) W41 0 rfl (Nat.le_of_ble_eq_true rfl)
        have K41 : Keep h0 h41 [] := K40.wr W41 (Or.inr sz_o40)
        have N41 := Fr.snoc X41 N4 g_o40
        refine go (fun t k => st41 _ k) ?_
        show Gl _ _ _ _ _ _ _ _ (T41.setTop (mkF m 79 #[.val (.int p1), .val (.int p2), .val (.int p3), .val (.int p4), .val (.int p5), .val (.int ((p5 &&& (2147483647 : Int32)) % (5 : Int32))), .val (.int (b1_0 p1)), .val (.int (b1_0 p2)), .val (.int (b1_0 p3)), .val (.int (b1_0 p4)), .unset, .unset, .unset] [(.ref o40)]))
        refine go (fun t k => XS.dup X41.here hx rfl (hb hby at_79) rfl rfl k) ?_
        show Gl _ _ _ _ _ _ _ _ (T41.setTop (mkF m 80 #[.val (.int p1), .val (.int p2), .val (.int p3), .val (.int p4), .val (.int p5), .val (.int ((p5 &&& (2147483647 : Int32)) % (5 : Int32))), .val (.int (b1_0 p1)), .val (.int (b1_0 p2)), .val (.int (b1_0 p3)), .val (.int (b1_0 p4)), .unset, .unset, .unset] [(.ref o40), (.ref o40)]))
        refine go (fun t k => XS.iconst X41.here hx rfl (hb hby at_80) k) ?_
        show Gl _ _ _ _ _ _ _ _ (T41.setTop (mkF m 81 #[.val (.int p1), .val (.int p2), .val (.int p3), .val (.int p4), .val (.int p5), .val (.int ((p5 &&& (2147483647 : Int32)) % (5 : Int32))), .val (.int (b1_0 p1)), .val (.int (b1_0 p2)), .val (.int (b1_0 p3)), .val (.int (b1_0 p4)), .unset, .unset, .unset] [(.int (1 : Int32)), (.ref o40), (.ref o40)]))
        refine go (fun t k => XS.iload X41.here hx rfl (hb hby at_81) rfl  k) ?_
        show Gl _ _ _ _ _ _ _ _ (T41.setTop (mkF m 83 #[.val (.int p1), .val (.int p2), .val (.int p3), .val (.int p4), .val (.int p5), .val (.int ((p5 &&& (2147483647 : Int32)) % (5 : Int32))), .val (.int (b1_0 p1)), .val (.int (b1_0 p2)), .val (.int (b1_0 p3)), .val (.int (b1_0 p4)), .unset, .unset, .unset] [(.int (b1_0 p2)), (.int (1 : Int32)), (.ref o40), (.ref o40)]))
        obtain ⟨cl42, Ar42, vq42, S42, M42, Hh42, G42⟩ := id V41
        obtain ⟨T42, h42, X42, e42, W42, st42⟩ := stB X41 hx hZ e41 Ar42 (j := (1 : Int32)) (inb_of S42 ⟨by decide, by decide⟩) (g := (mkF m 83 #[.val (.int p1), .val (.int p2), .val (.int p3), .val (.int p4), .val (.int p5), .val (.int ((p5 &&& (2147483647 : Int32)) % (5 : Int32))), .val (.int (b1_0 p1)), .val (.int (b1_0 p2)), .val (.int (b1_0 p3)), .val (.int (b1_0 p4)), .unset, .unset, .unset] [(.int (b1_0 p2)), (.int (1 : Int32)), (.ref o40), (.ref o40)])) rfl rfl (hb hby at_83)
        have V42 : Arv Z h42 o40 k40 .byte (2 : Int32) [(.int (nar .byte (b1_0 p1))), (.int (nar .byte (b1_0 p2)))] (.int (0 : Int32)) := Arv.set Ar42 vq42 S42 M42 Hh42 G42 (fits_nar_byte _) W42 1 rfl (Nat.le_of_ble_eq_true rfl)
        have K42 : Keep h0 h42 [] := K41.wr W42 (Or.inr sz_o40)
        have N42 := Fr.snoc X42 N41 g_o40
        refine go (fun t k => st42 _ k) ?_
        show Gl _ _ _ _ _ _ _ _ (T42.setTop (mkF m 84 #[.val (.int p1), .val (.int p2), .val (.int p3), .val (.int p4), .val (.int p5), .val (.int ((p5 &&& (2147483647 : Int32)) % (5 : Int32))), .val (.int (b1_0 p1)), .val (.int (b1_0 p2)), .val (.int (b1_0 p3)), .val (.int (b1_0 p4)), .unset, .unset, .unset] [(.ref o40)]))
        refine go (fun t k => XS.astore X42.here hx rfl (hb hby at_84) rfl rfl (l' := #[.val (.int p1), .val (.int p2), .val (.int p3), .val (.int p4), .val (.int p5), .val (.int ((p5 &&& (2147483647 : Int32)) % (5 : Int32))), .val (.int (b1_0 p1)), .val (.int (b1_0 p2)), .val (.int (b1_0 p3)), .val (.int (b1_0 p4)), .val (.ref o40), .unset, .unset]) rfl k) ?_
        show Gl _ _ _ _ _ _ _ _ (T42.setTop (mkF m 86 #[.val (.int p1), .val (.int p2), .val (.int p3), .val (.int p4), .val (.int p5), .val (.int ((p5 &&& (2147483647 : Int32)) % (5 : Int32))), .val (.int (b1_0 p1)), .val (.int (b1_0 p2)), .val (.int (b1_0 p3)), .val (.int (b1_0 p4)), .val (.ref o40), .unset, .unset] []))
        refine go (fun t k => XS.goto X42.here hx rfl (pc0 := 86) (pc' := 143) rfl (hb hby at_86) (by decide) (by decide) k) ?_
        show Gl _ _ _ _ _ _ _ _ (T42.setTop (mkF m 143 #[.val (.int p1), .val (.int p2), .val (.int p3), .val (.int p4), .val (.int p5), .val (.int ((p5 &&& (2147483647 : Int32)) % (5 : Int32))), .val (.int (b1_0 p1)), .val (.int (b1_0 p2)), .val (.int (b1_0 p3)), .val (.int (b1_0 p4)), .val (.ref o40), .unset, .unset] []))
        refine go (fun t k => XS.iload X42.here hx rfl (hb hby at_143) rfl  k) ?_
        show Gl _ _ _ _ _ _ _ _ (T42.setTop (mkF m 145 #[.val (.int p1), .val (.int p2), .val (.int p3), .val (.int p4), .val (.int p5), .val (.int ((p5 &&& (2147483647 : Int32)) % (5 : Int32))), .val (.int (b1_0 p1)), .val (.int (b1_0 p2)), .val (.int (b1_0 p3)), .val (.int (b1_0 p4)), .val (.ref o40), .unset, .unset] [(.int ((p5 &&& (2147483647 : Int32)) % (5 : Int32)))]))
        have J247 : ∀ (v11_247 : Addr) (TJ247 : State) (lJ247 : List Loc) (XJ247 : Stand p l e room_1 s m #[(.int p1), (.int p2), (.int p3), (.int p4), (.int p5)] below meth c TJ247 lJ247 5 46) (eJ247 : TJ247.heap = h42) (NJ247 : Fr n0 lJ247), Gl p e below s n0 room_1.cells room_1.slots (Kv (some (.int (b0_247x3 p1 p2 w_XACML w_COMPACT w_BLANK v11_247))) (fun _ => True)) (TJ247.setTop (mkF m 247 #[.val (.int p1), .val (.int p2), .val (.int p3), .val (.int p4), .val (.int p5), .val (.int ((p5 &&& (2147483647 : Int32)) % (5 : Int32))), .val (.int (b1_0 p1)), .val (.int (b1_0 p2)), .val (.int (b1_0 p3)), .val (.int (b1_0 p4)), .val (.ref o40), .val (.ref v11_247), .unset] [])) := by
          intro v11_247 TJ247 lJ247 XJ247 eJ247 NJ247
          show Gl _ _ _ _ _ _ _ (Kv (some (.int (if (b2t2_0 w_XACML w_COMPACT w_BLANK (nar .byte (b1_0 p1)) (nar .byte (b1_0 p2))) = v11_247 then (b0_266x3 (1 : Int32)) else (b0_266x3 (0 : Int32))))) _) _
          refine go (fun t k => XS.aload XJ247.here hx rfl (hb hby at_247) rfl rfl k) ?_
          show Gl _ _ _ _ _ _ _ _ (TJ247.setTop (mkF m 249 #[.val (.int p1), .val (.int p2), .val (.int p3), .val (.int p4), .val (.int p5), .val (.int ((p5 &&& (2147483647 : Int32)) % (5 : Int32))), .val (.int (b1_0 p1)), .val (.int (b1_0 p2)), .val (.int (b1_0 p3)), .val (.int (b1_0 p4)), .val (.ref o40), .val (.ref v11_247), .unset] [(.ref o40)]))
          obtain ⟨_, _, ⟨T44, L44, k44, n44⟩, -, X44, ⟨Lc44, hQ44, l44, y44, z44⟩, st44⟩ := Jvm.LawKit.callS XJ247 hx (y := (⟨"com/example/policylint/policylint/PolicySyntax", "of", "([B)Lcom/example/policylint/policylint/PolicySyntax;"⟩ : MethodName)) hown (mvT hZ (hw _ (List.mem_of_getElem? (i := 9) rfl))) (mvT hZ (hw _ (List.mem_of_getElem? (i := 10) rfl))) (mvT hZ (hw _ (List.mem_of_getElem? (i := 7) rfl))) (mvT hZ (hw _ (List.mem_of_getElem? (i := 11) rfl))) (by decide) (backOf (W := 0) (rm2t2 l Z a0 hw [] o40 w_XACML w_COMPACT w_BLANK k40 (nar .byte (b1_0 p1)) (nar .byte (b1_0 p2)) h42 n0 (Nat.le_trans (Nat.le_trans (Nat.le_trans (Nat.le_trans (Nat.le_trans (Nat.le_trans (Nat.le_trans Z0 K1q.1) K2q.1) K3q.1) K4q.1) E40.1) (Keep.of_wr W41).1) (Keep.of_wr W42).1) (Sta.wr W42 (Sta.wr W41 ((sta_keep0 (sta_keep0 (sta_keep0 (sta_keep0 S_XACML K1q) K2q) K3q) K4q).ext E40))) (Sta.wr W42 (Sta.wr W41 ((sta_keep0 (sta_keep0 (sta_keep0 (sta_keep0 S_COMPACT K1q) K2q) K3q) K4q).ext E40))) (Sta.wr W42 (Sta.wr W41 ((sta_keep0 (sta_keep0 (sta_keep0 (sta_keep0 S_BLANK K1q) K2q) K3q) K4q).ext E40))) V42) hZ (hw _ (List.mem_of_getElem? (i := 11) rfl)) (hw _ (List.mem_of_getElem? (i := 7) rfl)) (by decide) (by decide)) (g := (mkF m 249 #[.val (.int p1), .val (.int p2), .val (.int p3), .val (.int p4), .val (.int p5), .val (.int ((p5 &&& (2147483647 : Int32)) % (5 : Int32))), .val (.int (b1_0 p1)), .val (.int (b1_0 p2)), .val (.int (b1_0 p3)), .val (.int (b1_0 p4)), .val (.ref o40), .val (.ref v11_247), .unset] [(.ref o40)])) rfl (by rw [hml]; rfl) (argsL := [(.ref o40)]) (rest := []) (lenOf pd_2 rfl) rfl (by show 2 * 0 + _ ≤ _; exact Nat.le_of_eq rfl) (hb hby at_249) (fun _ _ => ⟨rfl, eJ247, (by decide : 5 + 0 ≤ _), (by decide : 46 + 0 ≤ _)⟩)
          dsimp only [Pt.U, Pt.locs, Pt.cells, Pt.slots] at X44 l44 y44 z44 st44 hQ44
          subst l44 y44 z44
          have X44 : Stand p l e room_1 s m #[(.int p1), (.int p2), (.int p3), (.int p4), (.int p5)] below meth c T44 _ 5 46 := X44
          obtain ⟨⟨rfl, e44'⟩, N44q⟩ := hQ44
          have e44 : T44.heap = h42 := e44'
          have N44 := Fr.app NJ247 N44q
          refine go (fun t k => st44 _ k) ?_
          show Gl _ _ _ _ _ _ _ _ (T44.setTop (mkF m 252 #[.val (.int p1), .val (.int p2), .val (.int p3), .val (.int p4), .val (.int p5), .val (.int ((p5 &&& (2147483647 : Int32)) % (5 : Int32))), .val (.int (b1_0 p1)), .val (.int (b1_0 p2)), .val (.int (b1_0 p3)), .val (.int (b1_0 p4)), .val (.ref o40), .val (.ref v11_247), .unset] [(.ref (b2t2_0 w_XACML w_COMPACT w_BLANK (nar .byte (b1_0 p1)) (nar .byte (b1_0 p2))))]))
          refine go (fun t k => XS.astore X44.here hx rfl (hb hby at_252) rfl rfl (l' := #[.val (.int p1), .val (.int p2), .val (.int p3), .val (.int p4), .val (.int p5), .val (.int ((p5 &&& (2147483647 : Int32)) % (5 : Int32))), .val (.int (b1_0 p1)), .val (.int (b1_0 p2)), .val (.int (b1_0 p3)), .val (.int (b1_0 p4)), .val (.ref o40), .val (.ref v11_247), .val (.ref (b2t2_0 w_XACML w_COMPACT w_BLANK (nar .byte (b1_0 p1)) (nar .byte (b1_0 p2))))]) rfl k) ?_
          show Gl _ _ _ _ _ _ _ _ (T44.setTop (mkF m 254 #[.val (.int p1), .val (.int p2), .val (.int p3), .val (.int p4), .val (.int p5), .val (.int ((p5 &&& (2147483647 : Int32)) % (5 : Int32))), .val (.int (b1_0 p1)), .val (.int (b1_0 p2)), .val (.int (b1_0 p3)), .val (.int (b1_0 p4)), .val (.ref o40), .val (.ref v11_247), .val (.ref (b2t2_0 w_XACML w_COMPACT w_BLANK (nar .byte (b1_0 p1)) (nar .byte (b1_0 p2))))] []))
          refine go (fun t k => XS.aload X44.here hx rfl (hb hby at_254) rfl rfl k) ?_
          show Gl _ _ _ _ _ _ _ _ (T44.setTop (mkF m 256 #[.val (.int p1), .val (.int p2), .val (.int p3), .val (.int p4), .val (.int p5), .val (.int ((p5 &&& (2147483647 : Int32)) % (5 : Int32))), .val (.int (b1_0 p1)), .val (.int (b1_0 p2)), .val (.int (b1_0 p3)), .val (.int (b1_0 p4)), .val (.ref o40), .val (.ref v11_247), .val (.ref (b2t2_0 w_XACML w_COMPACT w_BLANK (nar .byte (b1_0 p1)) (nar .byte (b1_0 p2))))] [(.ref (b2t2_0 w_XACML w_COMPACT w_BLANK (nar .byte (b1_0 p1)) (nar .byte (b1_0 p2))))]))
          refine go (fun t k => XS.aload X44.here hx rfl (hb hby at_256) rfl rfl k) ?_
          show Gl _ _ _ _ _ _ _ _ (T44.setTop (mkF m 258 #[.val (.int p1), .val (.int p2), .val (.int p3), .val (.int p4), .val (.int p5), .val (.int ((p5 &&& (2147483647 : Int32)) % (5 : Int32))), .val (.int (b1_0 p1)), .val (.int (b1_0 p2)), .val (.int (b1_0 p3)), .val (.int (b1_0 p4)), .val (.ref o40), .val (.ref v11_247), .val (.ref (b2t2_0 w_XACML w_COMPACT w_BLANK (nar .byte (b1_0 p1)) (nar .byte (b1_0 p2))))] [(.ref v11_247), (.ref (b2t2_0 w_XACML w_COMPACT w_BLANK (nar .byte (b1_0 p1)) (nar .byte (b1_0 p2))))]))
          have J266 : ∀ (s0_266 : Int32) (TJ266 : State) (lJ266 : List Loc) (XJ266 : Stand p l e room_1 s m #[(.int p1), (.int p2), (.int p3), (.int p4), (.int p5)] below meth c TJ266 lJ266 5 46) (eJ266 : TJ266.heap = h42) (NJ266 : Fr n0 lJ266), Gl p e below s n0 room_1.cells room_1.slots (Kv (some (.int (b0_266x3 s0_266))) (fun _ => True)) (TJ266.setTop (mkF m 266 #[.val (.int p1), .val (.int p2), .val (.int p3), .val (.int p4), .val (.int p5), .val (.int ((p5 &&& (2147483647 : Int32)) % (5 : Int32))), .val (.int (b1_0 p1)), .val (.int (b1_0 p2)), .val (.int (b1_0 p3)), .val (.int (b1_0 p4)), .val (.ref o40), .val (.ref v11_247), .val (.ref (b2t2_0 w_XACML w_COMPACT w_BLANK (nar .byte (b1_0 p1)) (nar .byte (b1_0 p2))))] [(.int s0_266)])) := by
            intro s0_266 TJ266 lJ266 XJ266 eJ266 NJ266
            show Gl _ _ _ _ _ _ _ (Kv (some (.int (nar .boolean s0_266))) _) _
            exact endN XJ266 hx Bd (t := .boolean) (by simp) (hb hby at_266) ⟨rfl, trivial⟩ NJ266 (by decide) (by decide)
          refine gI (c := (b2t2_0 w_XACML w_COMPACT w_BLANK (nar .byte (b1_0 p1)) (nar .byte (b1_0 p2))) = v11_247) (fun hc258 => ?_) (fun hc258 => ?_)
          · refine go (fun t k => Jvm.RoadKit.acmp (g := (mkF m 258 #[.val (.int p1), .val (.int p2), .val (.int p3), .val (.int p4), .val (.int p5), .val (.int ((p5 &&& (2147483647 : Int32)) % (5 : Int32))), .val (.int (b1_0 p1)), .val (.int (b1_0 p2)), .val (.int (b1_0 p3)), .val (.int (b1_0 p4)), .val (.ref o40), .val (.ref v11_247), .val (.ref (b2t2_0 w_XACML w_COMPACT w_BLANK (nar .byte (b1_0 p1)) (nar .byte (b1_0 p2))))] [(.ref v11_247), (.ref (b2t2_0 w_XACML w_COMPACT w_BLANK (nar .byte (b1_0 p1)) (nar .byte (b1_0 p2))))])) X44 hx rfl rfl rfl (pc0 := 258) (pc' := 261) (same := true) rfl (hb hby at_258) rfl (decide_eq_true (congrArg Value.ref hc258)) (by decide) (by decide) k) ?_
            show Gl _ _ _ _ _ _ _ _ (T44.setTop (mkF m 261 #[.val (.int p1), .val (.int p2), .val (.int p3), .val (.int p4), .val (.int p5), .val (.int ((p5 &&& (2147483647 : Int32)) % (5 : Int32))), .val (.int (b1_0 p1)), .val (.int (b1_0 p2)), .val (.int (b1_0 p3)), .val (.int (b1_0 p4)), .val (.ref o40), .val (.ref v11_247), .val (.ref (b2t2_0 w_XACML w_COMPACT w_BLANK (nar .byte (b1_0 p1)) (nar .byte (b1_0 p2))))] []))
            refine go (fun t k => XS.iconst X44.here hx rfl (hb hby at_261) k) ?_
            show Gl _ _ _ _ _ _ _ _ (T44.setTop (mkF m 262 #[.val (.int p1), .val (.int p2), .val (.int p3), .val (.int p4), .val (.int p5), .val (.int ((p5 &&& (2147483647 : Int32)) % (5 : Int32))), .val (.int (b1_0 p1)), .val (.int (b1_0 p2)), .val (.int (b1_0 p3)), .val (.int (b1_0 p4)), .val (.ref o40), .val (.ref v11_247), .val (.ref (b2t2_0 w_XACML w_COMPACT w_BLANK (nar .byte (b1_0 p1)) (nar .byte (b1_0 p2))))] [(.int (1 : Int32))]))
            refine go (fun t k => XS.goto X44.here hx rfl (pc0 := 262) (pc' := 266) rfl (hb hby at_262) (by decide) (by decide) k) ?_
            show Gl _ _ _ _ _ _ _ _ (T44.setTop (mkF m 266 #[.val (.int p1), .val (.int p2), .val (.int p3), .val (.int p4), .val (.int p5), .val (.int ((p5 &&& (2147483647 : Int32)) % (5 : Int32))), .val (.int (b1_0 p1)), .val (.int (b1_0 p2)), .val (.int (b1_0 p3)), .val (.int (b1_0 p4)), .val (.ref o40), .val (.ref v11_247), .val (.ref (b2t2_0 w_XACML w_COMPACT w_BLANK (nar .byte (b1_0 p1)) (nar .byte (b1_0 p2))))] [(.int (1 : Int32))]))
            exact J266 (1 : Int32) T44 _ X44 e44 N44
          · refine go (fun t k => Jvm.RoadKit.acmp (g := (mkF m 258 #[.val (.int p1), .val (.int p2), .val (.int p3), .val (.int p4), .val (.int p5), .val (.int ((p5 &&& (2147483647 : Int32)) % (5 : Int32))), .val (.int (b1_0 p1)), .val (.int (b1_0 p2)), .val (.int (b1_0 p3)), .val (.int (b1_0 p4)), .val (.ref o40), .val (.ref v11_247), .val (.ref (b2t2_0 w_XACML w_COMPACT w_BLANK (nar .byte (b1_0 p1)) (nar .byte (b1_0 p2))))] [(.ref v11_247), (.ref (b2t2_0 w_XACML w_COMPACT w_BLANK (nar .byte (b1_0 p1)) (nar .byte (b1_0 p2))))])) X44 hx rfl rfl rfl (pc0 := 258) (pc' := 265) (same := false) rfl (hb hby at_258) rfl (decide_eq_false fun q => hc258 (Value.ref.inj q)) (by decide) (by decide) k) ?_
            show Gl _ _ _ _ _ _ _ _ (T44.setTop (mkF m 265 #[.val (.int p1), .val (.int p2), .val (.int p3), .val (.int p4), .val (.int p5), .val (.int ((p5 &&& (2147483647 : Int32)) % (5 : Int32))), .val (.int (b1_0 p1)), .val (.int (b1_0 p2)), .val (.int (b1_0 p3)), .val (.int (b1_0 p4)), .val (.ref o40), .val (.ref v11_247), .val (.ref (b2t2_0 w_XACML w_COMPACT w_BLANK (nar .byte (b1_0 p1)) (nar .byte (b1_0 p2))))] []))
            refine go (fun t k => XS.iconst X44.here hx rfl (hb hby at_265) k) ?_
            show Gl _ _ _ _ _ _ _ _ (T44.setTop (mkF m 266 #[.val (.int p1), .val (.int p2), .val (.int p3), .val (.int p4), .val (.int p5), .val (.int ((p5 &&& (2147483647 : Int32)) % (5 : Int32))), .val (.int (b1_0 p1)), .val (.int (b1_0 p2)), .val (.int (b1_0 p3)), .val (.int (b1_0 p4)), .val (.ref o40), .val (.ref v11_247), .val (.ref (b2t2_0 w_XACML w_COMPACT w_BLANK (nar .byte (b1_0 p1)) (nar .byte (b1_0 p2))))] [(.int (0 : Int32))]))
            exact J266 (0 : Int32) T44 _ X44 e44 N44
        have J167 : ∀  (TJ167 : State) (lJ167 : List Loc) (XJ167 : Stand p l e room_1 s m #[(.int p1), (.int p2), (.int p3), (.int p4), (.int p5)] below meth c TJ167 lJ167 5 46) (eJ167 : TJ167.heap = h42) (NJ167 : Fr n0 lJ167), Gl p e below s n0 room_1.cells room_1.slots (Kv (some (.int (b0_167x3 p1 p2 p3 p4 p5 w_XACML w_COMPACT w_BLANK))) (fun _ => True)) (TJ167.setTop (mkF m 167 #[.val (.int p1), .val (.int p2), .val (.int p3), .val (.int p4), .val (.int p5), .val (.int ((p5 &&& (2147483647 : Int32)) % (5 : Int32))), .val (.int (b1_0 p1)), .val (.int (b1_0 p2)), .val (.int (b1_0 p3)), .val (.int (b1_0 p4)), .val (.ref o40), .unset, .unset] [])) := by
          intro  TJ167 lJ167 XJ167 eJ167 NJ167
          show Gl _ _ _ _ _ _ _ (Kv (some (.int (if (1 : Int32) < ((p5 &&& (2147483647 : Int32)) % (5 : Int32)) then (if (b3_0 (b1_0 p2)) = (1 : Int32) then (b0_192x3 p1 p2 p3 p4 p5 w_XACML w_COMPACT w_BLANK) else (b0_247x3 p1 p2 w_XACML w_COMPACT w_BLANK (b4_0 (b1_0 p2) w_XACML w_COMPACT))) else (b0_192x3 p1 p2 p3 p4 p5 w_XACML w_COMPACT w_BLANK)))) _) _
          refine go (fun t k => XS.iload XJ167.here hx rfl (hb hby at_167) rfl  k) ?_
          show Gl _ _ _ _ _ _ _ _ (TJ167.setTop (mkF m 169 #[.val (.int p1), .val (.int p2), .val (.int p3), .val (.int p4), .val (.int p5), .val (.int ((p5 &&& (2147483647 : Int32)) % (5 : Int32))), .val (.int (b1_0 p1)), .val (.int (b1_0 p2)), .val (.int (b1_0 p3)), .val (.int (b1_0 p4)), .val (.ref o40), .unset, .unset] [(.int ((p5 &&& (2147483647 : Int32)) % (5 : Int32)))]))
          refine go (fun t k => XS.iconst XJ167.here hx rfl (hb hby at_169) k) ?_
          show Gl _ _ _ _ _ _ _ _ (TJ167.setTop (mkF m 170 #[.val (.int p1), .val (.int p2), .val (.int p3), .val (.int p4), .val (.int p5), .val (.int ((p5 &&& (2147483647 : Int32)) % (5 : Int32))), .val (.int (b1_0 p1)), .val (.int (b1_0 p2)), .val (.int (b1_0 p3)), .val (.int (b1_0 p4)), .val (.ref o40), .unset, .unset] [(.int (1 : Int32)), (.int ((p5 &&& (2147483647 : Int32)) % (5 : Int32)))]))
          have J192 : ∀  (TJ192 : State) (lJ192 : List Loc) (XJ192 : Stand p l e room_1 s m #[(.int p1), (.int p2), (.int p3), (.int p4), (.int p5)] below meth c TJ192 lJ192 5 46) (eJ192 : TJ192.heap = h42) (NJ192 : Fr n0 lJ192), Gl p e below s n0 room_1.cells room_1.slots (Kv (some (.int (b0_192x3 p1 p2 p3 p4 p5 w_XACML w_COMPACT w_BLANK))) (fun _ => True)) (TJ192.setTop (mkF m 192 #[.val (.int p1), .val (.int p2), .val (.int p3), .val (.int p4), .val (.int p5), .val (.int ((p5 &&& (2147483647 : Int32)) % (5 : Int32))), .val (.int (b1_0 p1)), .val (.int (b1_0 p2)), .val (.int (b1_0 p3)), .val (.int (b1_0 p4)), .val (.ref o40), .unset, .unset] [])) := by
            intro  TJ192 lJ192 XJ192 eJ192 NJ192
            show Gl _ _ _ _ _ _ _ (Kv (some (.int (if (2 : Int32) < ((p5 &&& (2147483647 : Int32)) % (5 : Int32)) then (if (b3_0 (b1_0 p3)) = (1 : Int32) then (b0_217x3 p1 p2 p4 p5 w_XACML w_COMPACT w_BLANK) else (b0_247x3 p1 p2 w_XACML w_COMPACT w_BLANK (b4_0 (b1_0 p3) w_XACML w_COMPACT))) else (b0_217x3 p1 p2 p4 p5 w_XACML w_COMPACT w_BLANK)))) _) _
            refine go (fun t k => XS.iload XJ192.here hx rfl (hb hby at_192) rfl  k) ?_
            show Gl _ _ _ _ _ _ _ _ (TJ192.setTop (mkF m 194 #[.val (.int p1), .val (.int p2), .val (.int p3), .val (.int p4), .val (.int p5), .val (.int ((p5 &&& (2147483647 : Int32)) % (5 : Int32))), .val (.int (b1_0 p1)), .val (.int (b1_0 p2)), .val (.int (b1_0 p3)), .val (.int (b1_0 p4)), .val (.ref o40), .unset, .unset] [(.int ((p5 &&& (2147483647 : Int32)) % (5 : Int32)))]))
            refine go (fun t k => XS.iconst XJ192.here hx rfl (hb hby at_194) k) ?_
            show Gl _ _ _ _ _ _ _ _ (TJ192.setTop (mkF m 195 #[.val (.int p1), .val (.int p2), .val (.int p3), .val (.int p4), .val (.int p5), .val (.int ((p5 &&& (2147483647 : Int32)) % (5 : Int32))), .val (.int (b1_0 p1)), .val (.int (b1_0 p2)), .val (.int (b1_0 p3)), .val (.int (b1_0 p4)), .val (.ref o40), .unset, .unset] [(.int (2 : Int32)), (.int ((p5 &&& (2147483647 : Int32)) % (5 : Int32)))]))
            have J217 : ∀  (TJ217 : State) (lJ217 : List Loc) (XJ217 : Stand p l e room_1 s m #[(.int p1), (.int p2), (.int p3), (.int p4), (.int p5)] below meth c TJ217 lJ217 5 46) (eJ217 : TJ217.heap = h42) (NJ217 : Fr n0 lJ217), Gl p e below s n0 room_1.cells room_1.slots (Kv (some (.int (b0_217x3 p1 p2 p4 p5 w_XACML w_COMPACT w_BLANK))) (fun _ => True)) (TJ217.setTop (mkF m 217 #[.val (.int p1), .val (.int p2), .val (.int p3), .val (.int p4), .val (.int p5), .val (.int ((p5 &&& (2147483647 : Int32)) % (5 : Int32))), .val (.int (b1_0 p1)), .val (.int (b1_0 p2)), .val (.int (b1_0 p3)), .val (.int (b1_0 p4)), .val (.ref o40), .unset, .unset] [])) := by
              intro  TJ217 lJ217 XJ217 eJ217 NJ217
              show Gl _ _ _ _ _ _ _ (Kv (some (.int (if (3 : Int32) < ((p5 &&& (2147483647 : Int32)) % (5 : Int32)) then (if (b3_0 (b1_0 p4)) = (1 : Int32) then (b0_242x3 p1 p2 w_XACML w_COMPACT w_BLANK) else (b0_247x3 p1 p2 w_XACML w_COMPACT w_BLANK (b4_0 (b1_0 p4) w_XACML w_COMPACT))) else (b0_242x3 p1 p2 w_XACML w_COMPACT w_BLANK)))) _) _
              refine go (fun t k => XS.iload XJ217.here hx rfl (hb hby at_217) rfl  k) ?_
              show Gl _ _ _ _ _ _ _ _ (TJ217.setTop (mkF m 219 #[.val (.int p1), .val (.int p2), .val (.int p3), .val (.int p4), .val (.int p5), .val (.int ((p5 &&& (2147483647 : Int32)) % (5 : Int32))), .val (.int (b1_0 p1)), .val (.int (b1_0 p2)), .val (.int (b1_0 p3)), .val (.int (b1_0 p4)), .val (.ref o40), .unset, .unset] [(.int ((p5 &&& (2147483647 : Int32)) % (5 : Int32)))]))
              refine go (fun t k => XS.iconst XJ217.here hx rfl (hb hby at_219) k) ?_
              show Gl _ _ _ _ _ _ _ _ (TJ217.setTop (mkF m 220 #[.val (.int p1), .val (.int p2), .val (.int p3), .val (.int p4), .val (.int p5), .val (.int ((p5 &&& (2147483647 : Int32)) % (5 : Int32))), .val (.int (b1_0 p1)), .val (.int (b1_0 p2)), .val (.int (b1_0 p3)), .val (.int (b1_0 p4)), .val (.ref o40), .unset, .unset] [(.int (3 : Int32)), (.int ((p5 &&& (2147483647 : Int32)) % (5 : Int32)))]))
              have J242 : ∀  (TJ242 : State) (lJ242 : List Loc) (XJ242 : Stand p l e room_1 s m #[(.int p1), (.int p2), (.int p3), (.int p4), (.int p5)] below meth c TJ242 lJ242 5 46) (eJ242 : TJ242.heap = h42) (NJ242 : Fr n0 lJ242), Gl p e below s n0 room_1.cells room_1.slots (Kv (some (.int (b0_242x3 p1 p2 w_XACML w_COMPACT w_BLANK))) (fun _ => True)) (TJ242.setTop (mkF m 242 #[.val (.int p1), .val (.int p2), .val (.int p3), .val (.int p4), .val (.int p5), .val (.int ((p5 &&& (2147483647 : Int32)) % (5 : Int32))), .val (.int (b1_0 p1)), .val (.int (b1_0 p2)), .val (.int (b1_0 p3)), .val (.int (b1_0 p4)), .val (.ref o40), .unset, .unset] [])) := by
                intro  TJ242 lJ242 XJ242 eJ242 NJ242
                show Gl _ _ _ _ _ _ _ (Kv (some (.int (b0_247x3 p1 p2 w_XACML w_COMPACT w_BLANK w_BLANK))) _) _
                obtain ⟨T50, X50, e50, st50⟩ := getS2 XJ242 hx hZ hown (host := "") (Or.inl (hw _ (List.mem_of_getElem? (i := 6) rfl))) Via.refl eJ242 (Sta.wr W42 (Sta.wr W41 ((sta_keep0 (sta_keep0 (sta_keep0 (sta_keep0 S_BLANK K1q) K2q) K3q) K4q).ext E40))) (g := (mkF m 242 #[.val (.int p1), .val (.int p2), .val (.int p3), .val (.int p4), .val (.int p5), .val (.int ((p5 &&& (2147483647 : Int32)) % (5 : Int32))), .val (.int (b1_0 p1)), .val (.int (b1_0 p2)), .val (.int (b1_0 p3)), .val (.int (b1_0 p4)), .val (.ref o40), .unset, .unset] [])) rfl (hb hby at_242)
                refine go (fun t k => st50 _ k) ?_
                show Gl _ _ _ _ _ _ _ _ (T50.setTop (mkF m 245 #[.val (.int p1), .val (.int p2), .val (.int p3), .val (.int p4), .val (.int p5), .val (.int ((p5 &&& (2147483647 : Int32)) % (5 : Int32))), .val (.int (b1_0 p1)), .val (.int (b1_0 p2)), .val (.int (b1_0 p3)), .val (.int (b1_0 p4)), .val (.ref o40), .unset, .unset] [(.ref w_BLANK)]))
                refine go (fun t k => XS.astore X50.here hx rfl (hb hby at_245) rfl rfl (l' := #[.val (.int p1), .val (.int p2), .val (.int p3), .val (.int p4), .val (.int p5), .val (.int ((p5 &&& (2147483647 : Int32)) % (5 : Int32))), .val (.int (b1_0 p1)), .val (.int (b1_0 p2)), .val (.int (b1_0 p3)), .val (.int (b1_0 p4)), .val (.ref o40), .val (.ref w_BLANK), .unset]) rfl k) ?_
                show Gl _ _ _ _ _ _ _ _ (T50.setTop (mkF m 247 #[.val (.int p1), .val (.int p2), .val (.int p3), .val (.int p4), .val (.int p5), .val (.int ((p5 &&& (2147483647 : Int32)) % (5 : Int32))), .val (.int (b1_0 p1)), .val (.int (b1_0 p2)), .val (.int (b1_0 p3)), .val (.int (b1_0 p4)), .val (.ref o40), .val (.ref w_BLANK), .unset] []))
                exact J247 w_BLANK T50 _ X50 e50 NJ242
              refine gI (c := (3 : Int32) < ((p5 &&& (2147483647 : Int32)) % (5 : Int32))) (fun hc220 => ?_) (fun hc220 => ?_)
              · refine go (fun t k => XS.icmpNo XJ217.here hx rfl (hb hby at_220) rfl (tlt hc220).2.2.2 k) ?_
                show Gl _ _ _ _ _ _ _ _ (TJ217.setTop (mkF m 223 #[.val (.int p1), .val (.int p2), .val (.int p3), .val (.int p4), .val (.int p5), .val (.int ((p5 &&& (2147483647 : Int32)) % (5 : Int32))), .val (.int (b1_0 p1)), .val (.int (b1_0 p2)), .val (.int (b1_0 p3)), .val (.int (b1_0 p4)), .val (.ref o40), .unset, .unset] []))
                refine go (fun t k => XS.iload XJ217.here hx rfl (hb hby at_223) rfl  k) ?_
                show Gl _ _ _ _ _ _ _ _ (TJ217.setTop (mkF m 225 #[.val (.int p1), .val (.int p2), .val (.int p3), .val (.int p4), .val (.int p5), .val (.int ((p5 &&& (2147483647 : Int32)) % (5 : Int32))), .val (.int (b1_0 p1)), .val (.int (b1_0 p2)), .val (.int (b1_0 p3)), .val (.int (b1_0 p4)), .val (.ref o40), .unset, .unset] [(.int (b1_0 p4))]))
                obtain ⟨_, _, ⟨T51, L51, k51, n51⟩, -, X51, ⟨Lc51, hQ51, l51, y51, z51⟩, st51⟩ := Jvm.LawKit.callS XJ217 hx (y := (⟨"com/example/policylint/policylint/PolicySyntaxOfPinLaw", "cls", "(B)I"⟩ : MethodName)) hown (mvT hZ (hw _ (List.mem_of_getElem? (i := 13) rfl))) (mvT hZ (hw _ (List.mem_of_getElem? (i := 14) rfl))) (mvT hZ (hw _ (List.mem_of_getElem? (i := 3) rfl))) (mvT hZ (hw _ (List.mem_of_getElem? (i := 15) rfl))) (by decide) (backOf (W := 0) (rm3 l Z a0 hw [] (b1_0 p4) h42 n0 (Nat.le_trans (Nat.le_trans (Nat.le_trans (Nat.le_trans (Nat.le_trans (Nat.le_trans (Nat.le_trans Z0 K1q.1) K2q.1) K3q.1) K4q.1) E40.1) (Keep.of_wr W41).1) (Keep.of_wr W42).1) ) hZ (hw _ (List.mem_of_getElem? (i := 15) rfl)) (hw _ (List.mem_of_getElem? (i := 3) rfl)) (by decide) (by decide)) (g := (mkF m 225 #[.val (.int p1), .val (.int p2), .val (.int p3), .val (.int p4), .val (.int p5), .val (.int ((p5 &&& (2147483647 : Int32)) % (5 : Int32))), .val (.int (b1_0 p1)), .val (.int (b1_0 p2)), .val (.int (b1_0 p3)), .val (.int (b1_0 p4)), .val (.ref o40), .unset, .unset] [(.int (b1_0 p4))])) rfl (by rw [hml]; rfl) (argsL := [(.int (b1_0 p4))]) (rest := []) (lenOf pd_0 rfl) rfl (by show 2 * 0 + _ ≤ _; exact Nat.le_of_eq rfl) (hb hby at_225) (fun _ _ => ⟨rfl, eJ217, (by decide : 5 + 0 ≤ _), (by decide : 46 + 0 ≤ _)⟩)
                dsimp only [Pt.U, Pt.locs, Pt.cells, Pt.slots] at X51 l51 y51 z51 st51 hQ51
                subst l51 y51 z51
                have X51 : Stand p l e room_1 s m #[(.int p1), (.int p2), (.int p3), (.int p4), (.int p5)] below meth c T51 _ 5 46 := X51
                obtain ⟨⟨rfl, e51'⟩, N51q⟩ := hQ51
                have e51 : T51.heap = h42 := e51'
                have N51 := Fr.app NJ217 N51q
                refine go (fun t k => st51 _ k) ?_
                show Gl _ _ _ _ _ _ _ _ (T51.setTop (mkF m 228 #[.val (.int p1), .val (.int p2), .val (.int p3), .val (.int p4), .val (.int p5), .val (.int ((p5 &&& (2147483647 : Int32)) % (5 : Int32))), .val (.int (b1_0 p1)), .val (.int (b1_0 p2)), .val (.int (b1_0 p3)), .val (.int (b1_0 p4)), .val (.ref o40), .unset, .unset] [(.int (b3_0 (b1_0 p4)))]))
                refine go (fun t k => XS.iconst X51.here hx rfl (hb hby at_228) k) ?_
                show Gl _ _ _ _ _ _ _ _ (T51.setTop (mkF m 229 #[.val (.int p1), .val (.int p2), .val (.int p3), .val (.int p4), .val (.int p5), .val (.int ((p5 &&& (2147483647 : Int32)) % (5 : Int32))), .val (.int (b1_0 p1)), .val (.int (b1_0 p2)), .val (.int (b1_0 p3)), .val (.int (b1_0 p4)), .val (.ref o40), .unset, .unset] [(.int (1 : Int32)), (.int (b3_0 (b1_0 p4)))]))
                refine gI (c := (b3_0 (b1_0 p4)) = (1 : Int32)) (fun hc229 => ?_) (fun hc229 => ?_)
                · refine go (fun t k => XS.icmpYes X51.here hx rfl (pc0 := 229) (pc' := 242) rfl (hb hby at_229) rfl (teq hc229).1 (by decide) (by decide) k) ?_
                  show Gl _ _ _ _ _ _ _ _ (T51.setTop (mkF m 242 #[.val (.int p1), .val (.int p2), .val (.int p3), .val (.int p4), .val (.int p5), .val (.int ((p5 &&& (2147483647 : Int32)) % (5 : Int32))), .val (.int (b1_0 p1)), .val (.int (b1_0 p2)), .val (.int (b1_0 p3)), .val (.int (b1_0 p4)), .val (.ref o40), .unset, .unset] []))
                  exact J242  T51 _ X51 e51 N51
                · refine go (fun t k => XS.icmpNo X51.here hx rfl (hb hby at_229) rfl (feq hc229).1 k) ?_
                  show Gl _ _ _ _ _ _ _ _ (T51.setTop (mkF m 232 #[.val (.int p1), .val (.int p2), .val (.int p3), .val (.int p4), .val (.int p5), .val (.int ((p5 &&& (2147483647 : Int32)) % (5 : Int32))), .val (.int (b1_0 p1)), .val (.int (b1_0 p2)), .val (.int (b1_0 p3)), .val (.int (b1_0 p4)), .val (.ref o40), .unset, .unset] []))
                  refine go (fun t k => XS.iload X51.here hx rfl (hb hby at_232) rfl  k) ?_
                  show Gl _ _ _ _ _ _ _ _ (T51.setTop (mkF m 234 #[.val (.int p1), .val (.int p2), .val (.int p3), .val (.int p4), .val (.int p5), .val (.int ((p5 &&& (2147483647 : Int32)) % (5 : Int32))), .val (.int (b1_0 p1)), .val (.int (b1_0 p2)), .val (.int (b1_0 p3)), .val (.int (b1_0 p4)), .val (.ref o40), .unset, .unset] [(.int (b1_0 p4))]))
                  obtain ⟨_, _, ⟨T52, L52, k52, n52⟩, -, X52, ⟨Lc52, hQ52, l52, y52, z52⟩, st52⟩ := Jvm.LawKit.callS X51 hx (y := (⟨"com/example/policylint/policylint/PolicySyntaxOfPinLaw", "verdict", "(B)Lcom/example/policylint/policylint/PolicySyntax;"⟩ : MethodName)) hown (mvT hZ (hw _ (List.mem_of_getElem? (i := 16) rfl))) (mvT hZ (hw _ (List.mem_of_getElem? (i := 17) rfl))) (mvT hZ (hw _ (List.mem_of_getElem? (i := 3) rfl))) (mvT hZ (hw _ (List.mem_of_getElem? (i := 18) rfl))) (by decide) (backOf (W := 0) (rm4 l Z a0 hw [] (b1_0 p4) w_XACML w_COMPACT h42 n0 (Nat.le_trans (Nat.le_trans (Nat.le_trans (Nat.le_trans (Nat.le_trans (Nat.le_trans (Nat.le_trans Z0 K1q.1) K2q.1) K3q.1) K4q.1) E40.1) (Keep.of_wr W41).1) (Keep.of_wr W42).1) (Sta.wr W42 (Sta.wr W41 ((sta_keep0 (sta_keep0 (sta_keep0 (sta_keep0 S_XACML K1q) K2q) K3q) K4q).ext E40))) (Sta.wr W42 (Sta.wr W41 ((sta_keep0 (sta_keep0 (sta_keep0 (sta_keep0 S_COMPACT K1q) K2q) K3q) K4q).ext E40)))) hZ (hw _ (List.mem_of_getElem? (i := 18) rfl)) (hw _ (List.mem_of_getElem? (i := 3) rfl)) (by decide) (by decide)) (g := (mkF m 234 #[.val (.int p1), .val (.int p2), .val (.int p3), .val (.int p4), .val (.int p5), .val (.int ((p5 &&& (2147483647 : Int32)) % (5 : Int32))), .val (.int (b1_0 p1)), .val (.int (b1_0 p2)), .val (.int (b1_0 p3)), .val (.int (b1_0 p4)), .val (.ref o40), .unset, .unset] [(.int (b1_0 p4))])) rfl (by rw [hml]; rfl) (argsL := [(.int (b1_0 p4))]) (rest := []) (lenOf pd_3 rfl) rfl (by show 2 * 0 + _ ≤ _; exact Nat.le_of_eq rfl) (hb hby at_234) (fun _ _ => ⟨rfl, e51, (by decide : 5 + 0 ≤ _), (by decide : 46 + 0 ≤ _)⟩)
                  dsimp only [Pt.U, Pt.locs, Pt.cells, Pt.slots] at X52 l52 y52 z52 st52 hQ52
                  subst l52 y52 z52
                  have X52 : Stand p l e room_1 s m #[(.int p1), (.int p2), (.int p3), (.int p4), (.int p5)] below meth c T52 _ 5 46 := X52
                  obtain ⟨⟨rfl, e52'⟩, N52q⟩ := hQ52
                  have e52 : T52.heap = h42 := e52'
                  have N52 := Fr.app N51 N52q
                  refine go (fun t k => st52 _ k) ?_
                  show Gl _ _ _ _ _ _ _ _ (T52.setTop (mkF m 237 #[.val (.int p1), .val (.int p2), .val (.int p3), .val (.int p4), .val (.int p5), .val (.int ((p5 &&& (2147483647 : Int32)) % (5 : Int32))), .val (.int (b1_0 p1)), .val (.int (b1_0 p2)), .val (.int (b1_0 p3)), .val (.int (b1_0 p4)), .val (.ref o40), .unset, .unset] [(.ref (b4_0 (b1_0 p4) w_XACML w_COMPACT))]))
                  refine go (fun t k => XS.astore X52.here hx rfl (hb hby at_237) rfl rfl (l' := #[.val (.int p1), .val (.int p2), .val (.int p3), .val (.int p4), .val (.int p5), .val (.int ((p5 &&& (2147483647 : Int32)) % (5 : Int32))), .val (.int (b1_0 p1)), .val (.int (b1_0 p2)), .val (.int (b1_0 p3)), .val (.int (b1_0 p4)), .val (.ref o40), .val (.ref (b4_0 (b1_0 p4) w_XACML w_COMPACT)), .unset]) rfl k) ?_
                  show Gl _ _ _ _ _ _ _ _ (T52.setTop (mkF m 239 #[.val (.int p1), .val (.int p2), .val (.int p3), .val (.int p4), .val (.int p5), .val (.int ((p5 &&& (2147483647 : Int32)) % (5 : Int32))), .val (.int (b1_0 p1)), .val (.int (b1_0 p2)), .val (.int (b1_0 p3)), .val (.int (b1_0 p4)), .val (.ref o40), .val (.ref (b4_0 (b1_0 p4) w_XACML w_COMPACT)), .unset] []))
                  refine go (fun t k => XS.goto X52.here hx rfl (pc0 := 239) (pc' := 247) rfl (hb hby at_239) (by decide) (by decide) k) ?_
                  show Gl _ _ _ _ _ _ _ _ (T52.setTop (mkF m 247 #[.val (.int p1), .val (.int p2), .val (.int p3), .val (.int p4), .val (.int p5), .val (.int ((p5 &&& (2147483647 : Int32)) % (5 : Int32))), .val (.int (b1_0 p1)), .val (.int (b1_0 p2)), .val (.int (b1_0 p3)), .val (.int (b1_0 p4)), .val (.ref o40), .val (.ref (b4_0 (b1_0 p4) w_XACML w_COMPACT)), .unset] []))
                  exact J247 (b4_0 (b1_0 p4) w_XACML w_COMPACT) T52 _ X52 e52 N52
              · refine go (fun t k => XS.icmpYes XJ217.here hx rfl (pc0 := 220) (pc' := 242) rfl (hb hby at_220) rfl (flt hc220).2.2.2 (by decide) (by decide) k) ?_
                show Gl _ _ _ _ _ _ _ _ (TJ217.setTop (mkF m 242 #[.val (.int p1), .val (.int p2), .val (.int p3), .val (.int p4), .val (.int p5), .val (.int ((p5 &&& (2147483647 : Int32)) % (5 : Int32))), .val (.int (b1_0 p1)), .val (.int (b1_0 p2)), .val (.int (b1_0 p3)), .val (.int (b1_0 p4)), .val (.ref o40), .unset, .unset] []))
                exact J242  TJ217 _ XJ217 eJ217 NJ217
            refine gI (c := (2 : Int32) < ((p5 &&& (2147483647 : Int32)) % (5 : Int32))) (fun hc195 => ?_) (fun hc195 => ?_)
            · refine go (fun t k => XS.icmpNo XJ192.here hx rfl (hb hby at_195) rfl (tlt hc195).2.2.2 k) ?_
              show Gl _ _ _ _ _ _ _ _ (TJ192.setTop (mkF m 198 #[.val (.int p1), .val (.int p2), .val (.int p3), .val (.int p4), .val (.int p5), .val (.int ((p5 &&& (2147483647 : Int32)) % (5 : Int32))), .val (.int (b1_0 p1)), .val (.int (b1_0 p2)), .val (.int (b1_0 p3)), .val (.int (b1_0 p4)), .val (.ref o40), .unset, .unset] []))
              refine go (fun t k => XS.iload XJ192.here hx rfl (hb hby at_198) rfl  k) ?_
              show Gl _ _ _ _ _ _ _ _ (TJ192.setTop (mkF m 200 #[.val (.int p1), .val (.int p2), .val (.int p3), .val (.int p4), .val (.int p5), .val (.int ((p5 &&& (2147483647 : Int32)) % (5 : Int32))), .val (.int (b1_0 p1)), .val (.int (b1_0 p2)), .val (.int (b1_0 p3)), .val (.int (b1_0 p4)), .val (.ref o40), .unset, .unset] [(.int (b1_0 p3))]))
              obtain ⟨_, _, ⟨T53, L53, k53, n53⟩, -, X53, ⟨Lc53, hQ53, l53, y53, z53⟩, st53⟩ := Jvm.LawKit.callS XJ192 hx (y := (⟨"com/example/policylint/policylint/PolicySyntaxOfPinLaw", "cls", "(B)I"⟩ : MethodName)) hown (mvT hZ (hw _ (List.mem_of_getElem? (i := 13) rfl))) (mvT hZ (hw _ (List.mem_of_getElem? (i := 14) rfl))) (mvT hZ (hw _ (List.mem_of_getElem? (i := 3) rfl))) (mvT hZ (hw _ (List.mem_of_getElem? (i := 15) rfl))) (by decide) (backOf (W := 0) (rm3 l Z a0 hw [] (b1_0 p3) h42 n0 (Nat.le_trans (Nat.le_trans (Nat.le_trans (Nat.le_trans (Nat.le_trans (Nat.le_trans (Nat.le_trans Z0 K1q.1) K2q.1) K3q.1) K4q.1) E40.1) (Keep.of_wr W41).1) (Keep.of_wr W42).1) ) hZ (hw _ (List.mem_of_getElem? (i := 15) rfl)) (hw _ (List.mem_of_getElem? (i := 3) rfl)) (by decide) (by decide)) (g := (mkF m 200 #[.val (.int p1), .val (.int p2), .val (.int p3), .val (.int p4), .val (.int p5), .val (.int ((p5 &&& (2147483647 : Int32)) % (5 : Int32))), .val (.int (b1_0 p1)), .val (.int (b1_0 p2)), .val (.int (b1_0 p3)), .val (.int (b1_0 p4)), .val (.ref o40), .unset, .unset] [(.int (b1_0 p3))])) rfl (by rw [hml]; rfl) (argsL := [(.int (b1_0 p3))]) (rest := []) (lenOf pd_0 rfl) rfl (by show 2 * 0 + _ ≤ _; exact Nat.le_of_eq rfl) (hb hby at_200) (fun _ _ => ⟨rfl, eJ192, (by decide : 5 + 0 ≤ _), (by decide : 46 + 0 ≤ _)⟩)
              dsimp only [Pt.U, Pt.locs, Pt.cells, Pt.slots] at X53 l53 y53 z53 st53 hQ53
              subst l53 y53 z53
              have X53 : Stand p l e room_1 s m #[(.int p1), (.int p2), (.int p3), (.int p4), (.int p5)] below meth c T53 _ 5 46 := X53
              obtain ⟨⟨rfl, e53'⟩, N53q⟩ := hQ53
              have e53 : T53.heap = h42 := e53'
              have N53 := Fr.app NJ192 N53q
              refine go (fun t k => st53 _ k) ?_
              show Gl _ _ _ _ _ _ _ _ (T53.setTop (mkF m 203 #[.val (.int p1), .val (.int p2), .val (.int p3), .val (.int p4), .val (.int p5), .val (.int ((p5 &&& (2147483647 : Int32)) % (5 : Int32))), .val (.int (b1_0 p1)), .val (.int (b1_0 p2)), .val (.int (b1_0 p3)), .val (.int (b1_0 p4)), .val (.ref o40), .unset, .unset] [(.int (b3_0 (b1_0 p3)))]))
              refine go (fun t k => XS.iconst X53.here hx rfl (hb hby at_203) k) ?_
              show Gl _ _ _ _ _ _ _ _ (T53.setTop (mkF m 204 #[.val (.int p1), .val (.int p2), .val (.int p3), .val (.int p4), .val (.int p5), .val (.int ((p5 &&& (2147483647 : Int32)) % (5 : Int32))), .val (.int (b1_0 p1)), .val (.int (b1_0 p2)), .val (.int (b1_0 p3)), .val (.int (b1_0 p4)), .val (.ref o40), .unset, .unset] [(.int (1 : Int32)), (.int (b3_0 (b1_0 p3)))]))
              refine gI (c := (b3_0 (b1_0 p3)) = (1 : Int32)) (fun hc204 => ?_) (fun hc204 => ?_)
              · refine go (fun t k => XS.icmpYes X53.here hx rfl (pc0 := 204) (pc' := 217) rfl (hb hby at_204) rfl (teq hc204).1 (by decide) (by decide) k) ?_
                show Gl _ _ _ _ _ _ _ _ (T53.setTop (mkF m 217 #[.val (.int p1), .val (.int p2), .val (.int p3), .val (.int p4), .val (.int p5), .val (.int ((p5 &&& (2147483647 : Int32)) % (5 : Int32))), .val (.int (b1_0 p1)), .val (.int (b1_0 p2)), .val (.int (b1_0 p3)), .val (.int (b1_0 p4)), .val (.ref o40), .unset, .unset] []))
                exact J217  T53 _ X53 e53 N53
              · refine go (fun t k => XS.icmpNo X53.here hx rfl (hb hby at_204) rfl (feq hc204).1 k) ?_
                show Gl _ _ _ _ _ _ _ _ (T53.setTop (mkF m 207 #[.val (.int p1), .val (.int p2), .val (.int p3), .val (.int p4), .val (.int p5), .val (.int ((p5 &&& (2147483647 : Int32)) % (5 : Int32))), .val (.int (b1_0 p1)), .val (.int (b1_0 p2)), .val (.int (b1_0 p3)), .val (.int (b1_0 p4)), .val (.ref o40), .unset, .unset] []))
                refine go (fun t k => XS.iload X53.here hx rfl (hb hby at_207) rfl  k) ?_
                show Gl _ _ _ _ _ _ _ _ (T53.setTop (mkF m 209 #[.val (.int p1), .val (.int p2), .val (.int p3), .val (.int p4), .val (.int p5), .val (.int ((p5 &&& (2147483647 : Int32)) % (5 : Int32))), .val (.int (b1_0 p1)), .val (.int (b1_0 p2)), .val (.int (b1_0 p3)), .val (.int (b1_0 p4)), .val (.ref o40), .unset, .unset] [(.int (b1_0 p3))]))
                obtain ⟨_, _, ⟨T54, L54, k54, n54⟩, -, X54, ⟨Lc54, hQ54, l54, y54, z54⟩, st54⟩ := Jvm.LawKit.callS X53 hx (y := (⟨"com/example/policylint/policylint/PolicySyntaxOfPinLaw", "verdict", "(B)Lcom/example/policylint/policylint/PolicySyntax;"⟩ : MethodName)) hown (mvT hZ (hw _ (List.mem_of_getElem? (i := 16) rfl))) (mvT hZ (hw _ (List.mem_of_getElem? (i := 17) rfl))) (mvT hZ (hw _ (List.mem_of_getElem? (i := 3) rfl))) (mvT hZ (hw _ (List.mem_of_getElem? (i := 18) rfl))) (by decide) (backOf (W := 0) (rm4 l Z a0 hw [] (b1_0 p3) w_XACML w_COMPACT h42 n0 (Nat.le_trans (Nat.le_trans (Nat.le_trans (Nat.le_trans (Nat.le_trans (Nat.le_trans (Nat.le_trans Z0 K1q.1) K2q.1) K3q.1) K4q.1) E40.1) (Keep.of_wr W41).1) (Keep.of_wr W42).1) (Sta.wr W42 (Sta.wr W41 ((sta_keep0 (sta_keep0 (sta_keep0 (sta_keep0 S_XACML K1q) K2q) K3q) K4q).ext E40))) (Sta.wr W42 (Sta.wr W41 ((sta_keep0 (sta_keep0 (sta_keep0 (sta_keep0 S_COMPACT K1q) K2q) K3q) K4q).ext E40)))) hZ (hw _ (List.mem_of_getElem? (i := 18) rfl)) (hw _ (List.mem_of_getElem? (i := 3) rfl)) (by decide) (by decide)) (g := (mkF m 209 #[.val (.int p1), .val (.int p2), .val (.int p3), .val (.int p4), .val (.int p5), .val (.int ((p5 &&& (2147483647 : Int32)) % (5 : Int32))), .val (.int (b1_0 p1)), .val (.int (b1_0 p2)), .val (.int (b1_0 p3)), .val (.int (b1_0 p4)), .val (.ref o40), .unset, .unset] [(.int (b1_0 p3))])) rfl (by rw [hml]; rfl) (argsL := [(.int (b1_0 p3))]) (rest := []) (lenOf pd_3 rfl) rfl (by show 2 * 0 + _ ≤ _; exact Nat.le_of_eq rfl) (hb hby at_209) (fun _ _ => ⟨rfl, e53, (by decide : 5 + 0 ≤ _), (by decide : 46 + 0 ≤ _)⟩)
                dsimp only [Pt.U, Pt.locs, Pt.cells, Pt.slots] at X54 l54 y54 z54 st54 hQ54
                subst l54 y54 z54
                have X54 : Stand p l e room_1 s m #[(.int p1), (.int p2), (.int p3), (.int p4), (.int p5)] below meth c T54 _ 5 46 := X54
                obtain ⟨⟨rfl, e54'⟩, N54q⟩ := hQ54
                have e54 : T54.heap = h42 := e54'
                have N54 := Fr.app N53 N54q
                refine go (fun t k => st54 _ k) ?_
                show Gl _ _ _ _ _ _ _ _ (T54.setTop (mkF m 212 #[.val (.int p1), .val (.int p2), .val (.int p3), .val (.int p4), .val (.int p5), .val (.int ((p5 &&& (2147483647 : Int32)) % (5 : Int32))), .val (.int (b1_0 p1)), .val (.int (b1_0 p2)), .val (.int (b1_0 p3)), .val (.int (b1_0 p4)), .val (.ref o40), .unset, .unset] [(.ref (b4_0 (b1_0 p3) w_XACML w_COMPACT))]))
                refine go (fun t k => XS.astore X54.here hx rfl (hb hby at_212) rfl rfl (l' := #[.val (.int p1), .val (.int p2), .val (.int p3), .val (.int p4), .val (.int p5), .val (.int ((p5 &&& (2147483647 : Int32)) % (5 : Int32))), .val (.int (b1_0 p1)), .val (.int (b1_0 p2)), .val (.int (b1_0 p3)), .val (.int (b1_0 p4)), .val (.ref o40), .val (.ref (b4_0 (b1_0 p3) w_XACML w_COMPACT)), .unset]) rfl k) ?_
                show Gl _ _ _ _ _ _ _ _ (T54.setTop (mkF m 214 #[.val (.int p1), .val (.int p2), .val (.int p3), .val (.int p4), .val (.int p5), .val (.int ((p5 &&& (2147483647 : Int32)) % (5 : Int32))), .val (.int (b1_0 p1)), .val (.int (b1_0 p2)), .val (.int (b1_0 p3)), .val (.int (b1_0 p4)), .val (.ref o40), .val (.ref (b4_0 (b1_0 p3) w_XACML w_COMPACT)), .unset] []))
                refine go (fun t k => XS.goto X54.here hx rfl (pc0 := 214) (pc' := 247) rfl (hb hby at_214) (by decide) (by decide) k) ?_
                show Gl _ _ _ _ _ _ _ _ (T54.setTop (mkF m 247 #[.val (.int p1), .val (.int p2), .val (.int p3), .val (.int p4), .val (.int p5), .val (.int ((p5 &&& (2147483647 : Int32)) % (5 : Int32))), .val (.int (b1_0 p1)), .val (.int (b1_0 p2)), .val (.int (b1_0 p3)), .val (.int (b1_0 p4)), .val (.ref o40), .val (.ref (b4_0 (b1_0 p3) w_XACML w_COMPACT)), .unset] []))
                exact J247 (b4_0 (b1_0 p3) w_XACML w_COMPACT) T54 _ X54 e54 N54
            · refine go (fun t k => XS.icmpYes XJ192.here hx rfl (pc0 := 195) (pc' := 217) rfl (hb hby at_195) rfl (flt hc195).2.2.2 (by decide) (by decide) k) ?_
              show Gl _ _ _ _ _ _ _ _ (TJ192.setTop (mkF m 217 #[.val (.int p1), .val (.int p2), .val (.int p3), .val (.int p4), .val (.int p5), .val (.int ((p5 &&& (2147483647 : Int32)) % (5 : Int32))), .val (.int (b1_0 p1)), .val (.int (b1_0 p2)), .val (.int (b1_0 p3)), .val (.int (b1_0 p4)), .val (.ref o40), .unset, .unset] []))
              exact J217  TJ192 _ XJ192 eJ192 NJ192
          refine gI (c := (1 : Int32) < ((p5 &&& (2147483647 : Int32)) % (5 : Int32))) (fun hc170 => ?_) (fun hc170 => ?_)
          · refine go (fun t k => XS.icmpNo XJ167.here hx rfl (hb hby at_170) rfl (tlt hc170).2.2.2 k) ?_
            show Gl _ _ _ _ _ _ _ _ (TJ167.setTop (mkF m 173 #[.val (.int p1), .val (.int p2), .val (.int p3), .val (.int p4), .val (.int p5), .val (.int ((p5 &&& (2147483647 : Int32)) % (5 : Int32))), .val (.int (b1_0 p1)), .val (.int (b1_0 p2)), .val (.int (b1_0 p3)), .val (.int (b1_0 p4)), .val (.ref o40), .unset, .unset] []))
            refine go (fun t k => XS.iload XJ167.here hx rfl (hb hby at_173) rfl  k) ?_
            show Gl _ _ _ _ _ _ _ _ (TJ167.setTop (mkF m 175 #[.val (.int p1), .val (.int p2), .val (.int p3), .val (.int p4), .val (.int p5), .val (.int ((p5 &&& (2147483647 : Int32)) % (5 : Int32))), .val (.int (b1_0 p1)), .val (.int (b1_0 p2)), .val (.int (b1_0 p3)), .val (.int (b1_0 p4)), .val (.ref o40), .unset, .unset] [(.int (b1_0 p2))]))
            obtain ⟨_, _, ⟨T55, L55, k55, n55⟩, -, X55, ⟨Lc55, hQ55, l55, y55, z55⟩, st55⟩ := Jvm.LawKit.callS XJ167 hx (y := (⟨"com/example/policylint/policylint/PolicySyntaxOfPinLaw", "cls", "(B)I"⟩ : MethodName)) hown (mvT hZ (hw _ (List.mem_of_getElem? (i := 13) rfl))) (mvT hZ (hw _ (List.mem_of_getElem? (i := 14) rfl))) (mvT hZ (hw _ (List.mem_of_getElem? (i := 3) rfl))) (mvT hZ (hw _ (List.mem_of_getElem? (i := 15) rfl))) (by decide) (backOf (W := 0) (rm3 l Z a0 hw [] (b1_0 p2) h42 n0 (Nat.le_trans (Nat.le_trans (Nat.le_trans (Nat.le_trans (Nat.le_trans (Nat.le_trans (Nat.le_trans Z0 K1q.1) K2q.1) K3q.1) K4q.1) E40.1) (Keep.of_wr W41).1) (Keep.of_wr W42).1) ) hZ (hw _ (List.mem_of_getElem? (i := 15) rfl)) (hw _ (List.mem_of_getElem? (i := 3) rfl)) (by decide) (by decide)) (g := (mkF m 175 #[.val (.int p1), .val (.int p2), .val (.int p3), .val (.int p4), .val (.int p5), .val (.int ((p5 &&& (2147483647 : Int32)) % (5 : Int32))), .val (.int (b1_0 p1)), .val (.int (b1_0 p2)), .val (.int (b1_0 p3)), .val (.int (b1_0 p4)), .val (.ref o40), .unset, .unset] [(.int (b1_0 p2))])) rfl (by rw [hml]; rfl) (argsL := [(.int (b1_0 p2))]) (rest := []) (lenOf pd_0 rfl) rfl (by show 2 * 0 + _ ≤ _; exact Nat.le_of_eq rfl) (hb hby at_175) (fun _ _ => ⟨rfl, eJ167, (by decide : 5 + 0 ≤ _), (by decide : 46 + 0 ≤ _)⟩)
            dsimp only [Pt.U, Pt.locs, Pt.cells, Pt.slots] at X55 l55 y55 z55 st55 hQ55
            subst l55 y55 z55
            have X55 : Stand p l e room_1 s m #[(.int p1), (.int p2), (.int p3), (.int p4), (.int p5)] below meth c T55 _ 5 46 := X55
            obtain ⟨⟨rfl, e55'⟩, N55q⟩ := hQ55
            have e55 : T55.heap = h42 := e55'
            have N55 := Fr.app NJ167 N55q
            refine go (fun t k => st55 _ k) ?_
            show Gl _ _ _ _ _ _ _ _ (T55.setTop (mkF m 178 #[.val (.int p1), .val (.int p2), .val (.int p3), .val (.int p4), .val (.int p5), .val (.int ((p5 &&& (2147483647 : Int32)) % (5 : Int32))), .val (.int (b1_0 p1)), .val (.int (b1_0 p2)), .val (.int (b1_0 p3)), .val (.int (b1_0 p4)), .val (.ref o40), .unset, .unset] [(.int (b3_0 (b1_0 p2)))]))
            refine go (fun t k => XS.iconst X55.here hx rfl (hb hby at_178) k) ?_
            show Gl _ _ _ _ _ _ _ _ (T55.setTop (mkF m 179 #[.val (.int p1), .val (.int p2), .val (.int p3), .val (.int p4), .val (.int p5), .val (.int ((p5 &&& (2147483647 : Int32)) % (5 : Int32))), .val (.int (b1_0 p1)), .val (.int (b1_0 p2)), .val (.int (b1_0 p3)), .val (.int (b1_0 p4)), .val (.ref o40), .unset, .unset] [(.int (1 : Int32)), (.int (b3_0 (b1_0 p2)))]))
            refine gI (c := (b3_0 (b1_0 p2)) = (1 : Int32)) (fun hc179 => ?_) (fun hc179 => ?_)
            · refine go (fun t k => XS.icmpYes X55.here hx rfl (pc0 := 179) (pc' := 192) rfl (hb hby at_179) rfl (teq hc179).1 (by decide) (by decide) k) ?_
              show Gl _ _ _ _ _ _ _ _ (T55.setTop (mkF m 192 #[.val (.int p1), .val (.int p2), .val (.int p3), .val (.int p4), .val (.int p5), .val (.int ((p5 &&& (2147483647 : Int32)) % (5 : Int32))), .val (.int (b1_0 p1)), .val (.int (b1_0 p2)), .val (.int (b1_0 p3)), .val (.int (b1_0 p4)), .val (.ref o40), .unset, .unset] []))
              exact J192  T55 _ X55 e55 N55
            · refine go (fun t k => XS.icmpNo X55.here hx rfl (hb hby at_179) rfl (feq hc179).1 k) ?_
              show Gl _ _ _ _ _ _ _ _ (T55.setTop (mkF m 182 #[.val (.int p1), .val (.int p2), .val (.int p3), .val (.int p4), .val (.int p5), .val (.int ((p5 &&& (2147483647 : Int32)) % (5 : Int32))), .val (.int (b1_0 p1)), .val (.int (b1_0 p2)), .val (.int (b1_0 p3)), .val (.int (b1_0 p4)), .val (.ref o40), .unset, .unset] []))
              refine go (fun t k => XS.iload X55.here hx rfl (hb hby at_182) rfl  k) ?_
              show Gl _ _ _ _ _ _ _ _ (T55.setTop (mkF m 184 #[.val (.int p1), .val (.int p2), .val (.int p3), .val (.int p4), .val (.int p5), .val (.int ((p5 &&& (2147483647 : Int32)) % (5 : Int32))), .val (.int (b1_0 p1)), .val (.int (b1_0 p2)), .val (.int (b1_0 p3)), .val (.int (b1_0 p4)), .val (.ref o40), .unset, .unset] [(.int (b1_0 p2))]))
              obtain ⟨_, _, ⟨T56, L56, k56, n56⟩, -, X56, ⟨Lc56, hQ56, l56, y56, z56⟩, st56⟩ := Jvm.LawKit.callS X55 hx (y := (⟨"com/example/policylint/policylint/PolicySyntaxOfPinLaw", "verdict", "(B)Lcom/example/policylint/policylint/PolicySyntax;"⟩ : MethodName)) hown (mvT hZ (hw _ (List.mem_of_getElem? (i := 16) rfl))) (mvT hZ (hw _ (List.mem_of_getElem? (i := 17) rfl))) (mvT hZ (hw _ (List.mem_of_getElem? (i := 3) rfl))) (mvT hZ (hw _ (List.mem_of_getElem? (i := 18) rfl))) (by decide) (backOf (W := 0) (rm4 l Z a0 hw [] (b1_0 p2) w_XACML w_COMPACT h42 n0 (Nat.le_trans (Nat.le_trans (Nat.le_trans (Nat.le_trans (Nat.le_trans (Nat.le_trans (Nat.le_trans Z0 K1q.1) K2q.1) K3q.1) K4q.1) E40.1) (Keep.of_wr W41).1) (Keep.of_wr W42).1) (Sta.wr W42 (Sta.wr W41 ((sta_keep0 (sta_keep0 (sta_keep0 (sta_keep0 S_XACML K1q) K2q) K3q) K4q).ext E40))) (Sta.wr W42 (Sta.wr W41 ((sta_keep0 (sta_keep0 (sta_keep0 (sta_keep0 S_COMPACT K1q) K2q) K3q) K4q).ext E40)))) hZ (hw _ (List.mem_of_getElem? (i := 18) rfl)) (hw _ (List.mem_of_getElem? (i := 3) rfl)) (by decide) (by decide)) (g := (mkF m 184 #[.val (.int p1), .val (.int p2), .val (.int p3), .val (.int p4), .val (.int p5), .val (.int ((p5 &&& (2147483647 : Int32)) % (5 : Int32))), .val (.int (b1_0 p1)), .val (.int (b1_0 p2)), .val (.int (b1_0 p3)), .val (.int (b1_0 p4)), .val (.ref o40), .unset, .unset] [(.int (b1_0 p2))])) rfl (by rw [hml]; rfl) (argsL := [(.int (b1_0 p2))]) (rest := []) (lenOf pd_3 rfl) rfl (by show 2 * 0 + _ ≤ _; exact Nat.le_of_eq rfl) (hb hby at_184) (fun _ _ => ⟨rfl, e55, (by decide : 5 + 0 ≤ _), (by decide : 46 + 0 ≤ _)⟩)
              dsimp only [Pt.U, Pt.locs, Pt.cells, Pt.slots] at X56 l56 y56 z56 st56 hQ56
              subst l56 y56 z56
              have X56 : Stand p l e room_1 s m #[(.int p1), (.int p2), (.int p3), (.int p4), (.int p5)] below meth c T56 _ 5 46 := X56
              obtain ⟨⟨rfl, e56'⟩, N56q⟩ := hQ56
              have e56 : T56.heap = h42 := e56'
              have N56 := Fr.app N55 N56q
              refine go (fun t k => st56 _ k) ?_
              show Gl _ _ _ _ _ _ _ _ (T56.setTop (mkF m 187 #[.val (.int p1), .val (.int p2), .val (.int p3), .val (.int p4), .val (.int p5), .val (.int ((p5 &&& (2147483647 : Int32)) % (5 : Int32))), .val (.int (b1_0 p1)), .val (.int (b1_0 p2)), .val (.int (b1_0 p3)), .val (.int (b1_0 p4)), .val (.ref o40), .unset, .unset] [(.ref (b4_0 (b1_0 p2) w_XACML w_COMPACT))]))
              refine go (fun t k => XS.astore X56.here hx rfl (hb hby at_187) rfl rfl (l' := #[.val (.int p1), .val (.int p2), .val (.int p3), .val (.int p4), .val (.int p5), .val (.int ((p5 &&& (2147483647 : Int32)) % (5 : Int32))), .val (.int (b1_0 p1)), .val (.int (b1_0 p2)), .val (.int (b1_0 p3)), .val (.int (b1_0 p4)), .val (.ref o40), .val (.ref (b4_0 (b1_0 p2) w_XACML w_COMPACT)), .unset]) rfl k) ?_
              show Gl _ _ _ _ _ _ _ _ (T56.setTop (mkF m 189 #[.val (.int p1), .val (.int p2), .val (.int p3), .val (.int p4), .val (.int p5), .val (.int ((p5 &&& (2147483647 : Int32)) % (5 : Int32))), .val (.int (b1_0 p1)), .val (.int (b1_0 p2)), .val (.int (b1_0 p3)), .val (.int (b1_0 p4)), .val (.ref o40), .val (.ref (b4_0 (b1_0 p2) w_XACML w_COMPACT)), .unset] []))
              refine go (fun t k => XS.goto X56.here hx rfl (pc0 := 189) (pc' := 247) rfl (hb hby at_189) (by decide) (by decide) k) ?_
              show Gl _ _ _ _ _ _ _ _ (T56.setTop (mkF m 247 #[.val (.int p1), .val (.int p2), .val (.int p3), .val (.int p4), .val (.int p5), .val (.int ((p5 &&& (2147483647 : Int32)) % (5 : Int32))), .val (.int (b1_0 p1)), .val (.int (b1_0 p2)), .val (.int (b1_0 p3)), .val (.int (b1_0 p4)), .val (.ref o40), .val (.ref (b4_0 (b1_0 p2) w_XACML w_COMPACT)), .unset] []))
              exact J247 (b4_0 (b1_0 p2) w_XACML w_COMPACT) T56 _ X56 e56 N56
          · refine go (fun t k => XS.icmpYes XJ167.here hx rfl (pc0 := 170) (pc' := 192) rfl (hb hby at_170) rfl (flt hc170).2.2.2 (by decide) (by decide) k) ?_
            show Gl _ _ _ _ _ _ _ _ (TJ167.setTop (mkF m 192 #[.val (.int p1), .val (.int p2), .val (.int p3), .val (.int p4), .val (.int p5), .val (.int ((p5 &&& (2147483647 : Int32)) % (5 : Int32))), .val (.int (b1_0 p1)), .val (.int (b1_0 p2)), .val (.int (b1_0 p3)), .val (.int (b1_0 p4)), .val (.ref o40), .unset, .unset] []))
            exact J192  TJ167 _ XJ167 eJ167 NJ167
        refine gI (c := (0 : Int32) < ((p5 &&& (2147483647 : Int32)) % (5 : Int32))) (fun hc145 => ?_) (fun hc145 => ?_)
        · refine go (fun t k => XS.ifNo X42.here hx rfl (hb hby at_145) rfl ((if0 _ _).trans (tlt hc145).2.2.2) k) ?_
          show Gl _ _ _ _ _ _ _ _ (T42.setTop (mkF m 148 #[.val (.int p1), .val (.int p2), .val (.int p3), .val (.int p4), .val (.int p5), .val (.int ((p5 &&& (2147483647 : Int32)) % (5 : Int32))), .val (.int (b1_0 p1)), .val (.int (b1_0 p2)), .val (.int (b1_0 p3)), .val (.int (b1_0 p4)), .val (.ref o40), .unset, .unset] []))
          refine go (fun t k => XS.iload X42.here hx rfl (hb hby at_148) rfl  k) ?_
          show Gl _ _ _ _ _ _ _ _ (T42.setTop (mkF m 150 #[.val (.int p1), .val (.int p2), .val (.int p3), .val (.int p4), .val (.int p5), .val (.int ((p5 &&& (2147483647 : Int32)) % (5 : Int32))), .val (.int (b1_0 p1)), .val (.int (b1_0 p2)), .val (.int (b1_0 p3)), .val (.int (b1_0 p4)), .val (.ref o40), .unset, .unset] [(.int (b1_0 p1))]))
          obtain ⟨_, _, ⟨T57, L57, k57, n57⟩, -, X57, ⟨Lc57, hQ57, l57, y57, z57⟩, st57⟩ := Jvm.LawKit.callS X42 hx (y := (⟨"com/example/policylint/policylint/PolicySyntaxOfPinLaw", "cls", "(B)I"⟩ : MethodName)) hown (mvT hZ (hw _ (List.mem_of_getElem? (i := 13) rfl))) (mvT hZ (hw _ (List.mem_of_getElem? (i := 14) rfl))) (mvT hZ (hw _ (List.mem_of_getElem? (i := 3) rfl))) (mvT hZ (hw _ (List.mem_of_getElem? (i := 15) rfl))) (by decide) (backOf (W := 0) (rm3 l Z a0 hw [] (b1_0 p1) h42 n0 (Nat.le_trans (Nat.le_trans (Nat.le_trans (Nat.le_trans (Nat.le_trans (Nat.le_trans (Nat.le_trans Z0 K1q.1) K2q.1) K3q.1) K4q.1) E40.1) (Keep.of_wr W41).1) (Keep.of_wr W42).1) ) hZ (hw _ (List.mem_of_getElem? (i := 15) rfl)) (hw _ (List.mem_of_getElem? (i := 3) rfl)) (by decide) (by decide)) (g := (mkF m 150 #[.val (.int p1), .val (.int p2), .val (.int p3), .val (.int p4), .val (.int p5), .val (.int ((p5 &&& (2147483647 : Int32)) % (5 : Int32))), .val (.int (b1_0 p1)), .val (.int (b1_0 p2)), .val (.int (b1_0 p3)), .val (.int (b1_0 p4)), .val (.ref o40), .unset, .unset] [(.int (b1_0 p1))])) rfl (by rw [hml]; rfl) (argsL := [(.int (b1_0 p1))]) (rest := []) (lenOf pd_0 rfl) rfl (by show 2 * 0 + _ ≤ _; exact Nat.le_of_eq rfl) (hb hby at_150) (fun _ _ => ⟨rfl, e42, (by decide : 5 + 0 ≤ _), (by decide : 46 + 0 ≤ _)⟩)
          dsimp only [Pt.U, Pt.locs, Pt.cells, Pt.slots] at X57 l57 y57 z57 st57 hQ57
          subst l57 y57 z57
          have X57 : Stand p l e room_1 s m #[(.int p1), (.int p2), (.int p3), (.int p4), (.int p5)] below meth c T57 _ 5 46 := X57
          obtain ⟨⟨rfl, e57'⟩, N57q⟩ := hQ57
          have e57 : T57.heap = h42 := e57'
          have N57 := Fr.app N42 N57q
          refine go (fun t k => st57 _ k) ?_
          show Gl _ _ _ _ _ _ _ _ (T57.setTop (mkF m 153 #[.val (.int p1), .val (.int p2), .val (.int p3), .val (.int p4), .val (.int p5), .val (.int ((p5 &&& (2147483647 : Int32)) % (5 : Int32))), .val (.int (b1_0 p1)), .val (.int (b1_0 p2)), .val (.int (b1_0 p3)), .val (.int (b1_0 p4)), .val (.ref o40), .unset, .unset] [(.int (b3_0 (b1_0 p1)))]))
          refine go (fun t k => XS.iconst X57.here hx rfl (hb hby at_153) k) ?_
          show Gl _ _ _ _ _ _ _ _ (T57.setTop (mkF m 154 #[.val (.int p1), .val (.int p2), .val (.int p3), .val (.int p4), .val (.int p5), .val (.int ((p5 &&& (2147483647 : Int32)) % (5 : Int32))), .val (.int (b1_0 p1)), .val (.int (b1_0 p2)), .val (.int (b1_0 p3)), .val (.int (b1_0 p4)), .val (.ref o40), .unset, .unset] [(.int (1 : Int32)), (.int (b3_0 (b1_0 p1)))]))
          refine gI (c := (b3_0 (b1_0 p1)) = (1 : Int32)) (fun hc154 => ?_) (fun hc154 => ?_)
          · refine go (fun t k => XS.icmpYes X57.here hx rfl (pc0 := 154) (pc' := 167) rfl (hb hby at_154) rfl (teq hc154).1 (by decide) (by decide) k) ?_
            show Gl _ _ _ _ _ _ _ _ (T57.setTop (mkF m 167 #[.val (.int p1), .val (.int p2), .val (.int p3), .val (.int p4), .val (.int p5), .val (.int ((p5 &&& (2147483647 : Int32)) % (5 : Int32))), .val (.int (b1_0 p1)), .val (.int (b1_0 p2)), .val (.int (b1_0 p3)), .val (.int (b1_0 p4)), .val (.ref o40), .unset, .unset] []))
            exact J167  T57 _ X57 e57 N57
          · refine go (fun t k => XS.icmpNo X57.here hx rfl (hb hby at_154) rfl (feq hc154).1 k) ?_
            show Gl _ _ _ _ _ _ _ _ (T57.setTop (mkF m 157 #[.val (.int p1), .val (.int p2), .val (.int p3), .val (.int p4), .val (.int p5), .val (.int ((p5 &&& (2147483647 : Int32)) % (5 : Int32))), .val (.int (b1_0 p1)), .val (.int (b1_0 p2)), .val (.int (b1_0 p3)), .val (.int (b1_0 p4)), .val (.ref o40), .unset, .unset] []))
            refine go (fun t k => XS.iload X57.here hx rfl (hb hby at_157) rfl  k) ?_
            show Gl _ _ _ _ _ _ _ _ (T57.setTop (mkF m 159 #[.val (.int p1), .val (.int p2), .val (.int p3), .val (.int p4), .val (.int p5), .val (.int ((p5 &&& (2147483647 : Int32)) % (5 : Int32))), .val (.int (b1_0 p1)), .val (.int (b1_0 p2)), .val (.int (b1_0 p3)), .val (.int (b1_0 p4)), .val (.ref o40), .unset, .unset] [(.int (b1_0 p1))]))
            obtain ⟨_, _, ⟨T58, L58, k58, n58⟩, -, X58, ⟨Lc58, hQ58, l58, y58, z58⟩, st58⟩ := Jvm.LawKit.callS X57 hx (y := (⟨"com/example/policylint/policylint/PolicySyntaxOfPinLaw", "verdict", "(B)Lcom/example/policylint/policylint/PolicySyntax;"⟩ : MethodName)) hown (mvT hZ (hw _ (List.mem_of_getElem? (i := 16) rfl))) (mvT hZ (hw _ (List.mem_of_getElem? (i := 17) rfl))) (mvT hZ (hw _ (List.mem_of_getElem? (i := 3) rfl))) (mvT hZ (hw _ (List.mem_of_getElem? (i := 18) rfl))) (by decide) (backOf (W := 0) (rm4 l Z a0 hw [] (b1_0 p1) w_XACML w_COMPACT h42 n0 (Nat.le_trans (Nat.le_trans (Nat.le_trans (Nat.le_trans (Nat.le_trans (Nat.le_trans (Nat.le_trans Z0 K1q.1) K2q.1) K3q.1) K4q.1) E40.1) (Keep.of_wr W41).1) (Keep.of_wr W42).1) (Sta.wr W42 (Sta.wr W41 ((sta_keep0 (sta_keep0 (sta_keep0 (sta_keep0 S_XACML K1q) K2q) K3q) K4q).ext E40))) (Sta.wr W42 (Sta.wr W41 ((sta_keep0 (sta_keep0 (sta_keep0 (sta_keep0 S_COMPACT K1q) K2q) K3q) K4q).ext E40)))) hZ (hw _ (List.mem_of_getElem? (i := 18) rfl)) (hw _ (List.mem_of_getElem? (i := 3) rfl)) (by decide) (by decide)) (g := (mkF m 159 #[.val (.int p1), .val (.int p2), .val (.int p3), .val (.int p4), .val (.int p5), .val (.int ((p5 &&& (2147483647 : Int32)) % (5 : Int32))), .val (.int (b1_0 p1)), .val (.int (b1_0 p2)), .val (.int (b1_0 p3)), .val (.int (b1_0 p4)), .val (.ref o40), .unset, .unset] [(.int (b1_0 p1))])) rfl (by rw [hml]; rfl) (argsL := [(.int (b1_0 p1))]) (rest := []) (lenOf pd_3 rfl) rfl (by show 2 * 0 + _ ≤ _; exact Nat.le_of_eq rfl) (hb hby at_159) (fun _ _ => ⟨rfl, e57, (by decide : 5 + 0 ≤ _), (by decide : 46 + 0 ≤ _)⟩)
            dsimp only [Pt.U, Pt.locs, Pt.cells, Pt.slots] at X58 l58 y58 z58 st58 hQ58
            subst l58 y58 z58
            have X58 : Stand p l e room_1 s m #[(.int p1), (.int p2), (.int p3), (.int p4), (.int p5)] below meth c T58 _ 5 46 := X58
            obtain ⟨⟨rfl, e58'⟩, N58q⟩ := hQ58
            have e58 : T58.heap = h42 := e58'
            have N58 := Fr.app N57 N58q
            refine go (fun t k => st58 _ k) ?_
            show Gl _ _ _ _ _ _ _ _ (T58.setTop (mkF m 162 #[.val (.int p1), .val (.int p2), .val (.int p3), .val (.int p4), .val (.int p5), .val (.int ((p5 &&& (2147483647 : Int32)) % (5 : Int32))), .val (.int (b1_0 p1)), .val (.int (b1_0 p2)), .val (.int (b1_0 p3)), .val (.int (b1_0 p4)), .val (.ref o40), .unset, .unset] [(.ref (b4_0 (b1_0 p1) w_XACML w_COMPACT))]))
            refine go (fun t k => XS.astore X58.here hx rfl (hb hby at_162) rfl rfl (l' := #[.val (.int p1), .val (.int p2), .val (.int p3), .val (.int p4), .val (.int p5), .val (.int ((p5 &&& (2147483647 : Int32)) % (5 : Int32))), .val (.int (b1_0 p1)), .val (.int (b1_0 p2)), .val (.int (b1_0 p3)), .val (.int (b1_0 p4)), .val (.ref o40), .val (.ref (b4_0 (b1_0 p1) w_XACML w_COMPACT)), .unset]) rfl k) ?_
            show Gl _ _ _ _ _ _ _ _ (T58.setTop (mkF m 164 #[.val (.int p1), .val (.int p2), .val (.int p3), .val (.int p4), .val (.int p5), .val (.int ((p5 &&& (2147483647 : Int32)) % (5 : Int32))), .val (.int (b1_0 p1)), .val (.int (b1_0 p2)), .val (.int (b1_0 p3)), .val (.int (b1_0 p4)), .val (.ref o40), .val (.ref (b4_0 (b1_0 p1) w_XACML w_COMPACT)), .unset] []))
            refine go (fun t k => XS.goto X58.here hx rfl (pc0 := 164) (pc' := 247) rfl (hb hby at_164) (by decide) (by decide) k) ?_
            show Gl _ _ _ _ _ _ _ _ (T58.setTop (mkF m 247 #[.val (.int p1), .val (.int p2), .val (.int p3), .val (.int p4), .val (.int p5), .val (.int ((p5 &&& (2147483647 : Int32)) % (5 : Int32))), .val (.int (b1_0 p1)), .val (.int (b1_0 p2)), .val (.int (b1_0 p3)), .val (.int (b1_0 p4)), .val (.ref o40), .val (.ref (b4_0 (b1_0 p1) w_XACML w_COMPACT)), .unset] []))
            exact J247 (b4_0 (b1_0 p1) w_XACML w_COMPACT) T58 _ X58 e58 N58
        · refine go (fun t k => XS.ifYes X42.here hx rfl (pc0 := 145) (pc' := 167) rfl (hb hby at_145) rfl ((if0 _ _).trans (flt hc145).2.2.2) (by decide) (by decide) k) ?_
          show Gl _ _ _ _ _ _ _ _ (T42.setTop (mkF m 167 #[.val (.int p1), .val (.int p2), .val (.int p3), .val (.int p4), .val (.int p5), .val (.int ((p5 &&& (2147483647 : Int32)) % (5 : Int32))), .val (.int (b1_0 p1)), .val (.int (b1_0 p2)), .val (.int (b1_0 p3)), .val (.int (b1_0 p4)), .val (.ref o40), .unset, .unset] []))
          exact J167  T42 _ X42 e42 N42
      · refine go (fun t k => XS.icmpYes X4.here hx rfl (pc0 := 68) (pc' := 89) rfl (hb hby at_68) rfl (feq hc68).2 (by decide) (by decide) k) ?_
        show Gl _ _ _ _ _ _ _ _ (T4.setTop (mkF m 89 #[.val (.int p1), .val (.int p2), .val (.int p3), .val (.int p4), .val (.int p5), .val (.int ((p5 &&& (2147483647 : Int32)) % (5 : Int32))), .val (.int (b1_0 p1)), .val (.int (b1_0 p2)), .val (.int (b1_0 p3)), .val (.int (b1_0 p4)), .unset, .unset, .unset] []))
        refine go (fun t k => XS.iload X4.here hx rfl (hb hby at_89) rfl  k) ?_
        show Gl _ _ _ _ _ _ _ _ (T4.setTop (mkF m 91 #[.val (.int p1), .val (.int p2), .val (.int p3), .val (.int p4), .val (.int p5), .val (.int ((p5 &&& (2147483647 : Int32)) % (5 : Int32))), .val (.int (b1_0 p1)), .val (.int (b1_0 p2)), .val (.int (b1_0 p3)), .val (.int (b1_0 p4)), .unset, .unset, .unset] [(.int ((p5 &&& (2147483647 : Int32)) % (5 : Int32)))]))
        refine go (fun t k => XS.iconst X4.here hx rfl (hb hby at_91) k) ?_
        show Gl _ _ _ _ _ _ _ _ (T4.setTop (mkF m 92 #[.val (.int p1), .val (.int p2), .val (.int p3), .val (.int p4), .val (.int p5), .val (.int ((p5 &&& (2147483647 : Int32)) % (5 : Int32))), .val (.int (b1_0 p1)), .val (.int (b1_0 p2)), .val (.int (b1_0 p3)), .val (.int (b1_0 p4)), .unset, .unset, .unset] [(.int (3 : Int32)), (.int ((p5 &&& (2147483647 : Int32)) % (5 : Int32)))]))
        refine gI (c := ((p5 &&& (2147483647 : Int32)) % (5 : Int32)) = (3 : Int32)) (fun hc92 => ?_) (fun hc92 => ?_)
        · refine go (fun t k => XS.icmpNo X4.here hx rfl (hb hby at_92) rfl (teq hc92).2 k) ?_
          show Gl _ _ _ _ _ _ _ _ (T4.setTop (mkF m 95 #[.val (.int p1), .val (.int p2), .val (.int p3), .val (.int p4), .val (.int p5), .val (.int ((p5 &&& (2147483647 : Int32)) % (5 : Int32))), .val (.int (b1_0 p1)), .val (.int (b1_0 p2)), .val (.int (b1_0 p3)), .val (.int (b1_0 p4)), .unset, .unset, .unset] []))
          refine go (fun t k => XS.iconst X4.here hx rfl (hb hby at_95) k) ?_
          show Gl _ _ _ _ _ _ _ _ (T4.setTop (mkF m 96 #[.val (.int p1), .val (.int p2), .val (.int p3), .val (.int p4), .val (.int p5), .val (.int ((p5 &&& (2147483647 : Int32)) % (5 : Int32))), .val (.int (b1_0 p1)), .val (.int (b1_0 p2)), .val (.int (b1_0 p3)), .val (.int (b1_0 p4)), .unset, .unset, .unset] [(.int (3 : Int32))]))
          obtain ⟨T59, h59, k59, X59, e59, E59, A59, st59⟩ := newP X4 hx hZ (hw _ (List.mem_of_getElem? (i := 5) rfl)) e4 (g := (mkF m 96 #[.val (.int p1), .val (.int p2), .val (.int p3), .val (.int p4), .val (.int p5), .val (.int ((p5 &&& (2147483647 : Int32)) % (5 : Int32))), .val (.int (b1_0 p1)), .val (.int (b1_0 p2)), .val (.int (b1_0 p3)), .val (.int (b1_0 p4)), .unset, .unset, .unset] [(.int (3 : Int32))])) rfl (hb hby at_96) rfl (by decide) (cap := 3) (by decide) (by decide) (by decide) (by decide)
          obtain ⟨o59, gq59⟩ : ∃ z, z = h4.size := ⟨_, rfl⟩
          rw [← gq59] at A59 st59
          have g_o59 : n0 ≤ o59 := Nat.le_trans (Nat.le_trans (Nat.le_trans (Nat.le_trans (Nat.le_trans Z0 K1q.1) K2q.1) K3q.1) K4q.1) (Nat.le_of_eq gq59.symm)
          have V_o59 : Arv Z h59 o59 k59 .byte (3 : Int32) [(.int (0 : Int32)), (.int (0 : Int32)), (.int (0 : Int32))] (.int (0 : Int32)) := (Arv.new A59 (by decide)).pad (pad_rep [] (.int (0 : Int32)) 3)
          have K59 : Keep h0 h59 [] := K4.ext E59
          have sz_o59 : h0.size ≤ o59 := Nat.le_trans K4.1 (Nat.le_of_eq gq59.symm)
          refine go (fun t k => st59 _ k) ?_
          show Gl _ _ _ _ _ _ _ _ (T59.setTop (mkF m 98 #[.val (.int p1), .val (.int p2), .val (.int p3), .val (.int p4), .val (.int p5), .val (.int ((p5 &&& (2147483647 : Int32)) % (5 : Int32))), .val (.int (b1_0 p1)), .val (.int (b1_0 p2)), .val (.int (b1_0 p3)), .val (.int (b1_0 p4)), .unset, .unset, .unset] [(.ref o59)]))
          refine go (fun t k => XS.dup X59.here hx rfl (hb hby at_98) rfl rfl k) ?_
          show Gl _ _ _ _ _ _ _ _ (T59.setTop (mkF m 99 #[.val (.int p1), .val (.int p2), .val (.int p3), .val (.int p4), .val (.int p5), .val (.int ((p5 &&& (2147483647 : Int32)) % (5 : Int32))), .val (.int (b1_0 p1)), .val (.int (b1_0 p2)), .val (.int (b1_0 p3)), .val (.int (b1_0 p4)), .unset, .unset, .unset] [(.ref o59), (.ref o59)]))
          refine go (fun t k => XS.iconst X59.here hx rfl (hb hby at_99) k) ?_
          show Gl _ _ _ _ _ _ _ _ (T59.setTop (mkF m 100 #[.val (.int p1), .val (.int p2), .val (.int p3), .val (.int p4), .val (.int p5), .val (.int ((p5 &&& (2147483647 : Int32)) % (5 : Int32))), .val (.int (b1_0 p1)), .val (.int (b1_0 p2)), .val (.int (b1_0 p3)), .val (.int (b1_0 p4)), .unset, .unset, .unset] [(.int (0 : Int32)), (.ref o59), (.ref o59)]))
          refine go (fun t k => XS.iload X59.here hx rfl (hb hby at_100) rfl  k) ?_
          show Gl _ _ _ _ _ _ _ _ (T59.setTop (mkF m 102 #[.val (.int p1), .val (.int p2), .val (.int p3), .val (.int p4), .val (.int p5), .val (.int ((p5 &&& (2147483647 : Int32)) % (5 : Int32))), .val (.int (b1_0 p1)), .val (.int (b1_0 p2)), .val (.int (b1_0 p3)), .val (.int (b1_0 p4)), .unset, .unset, .unset] [(.int (b1_0 p1)), (.int (0 : Int32)), (.ref o59), (.ref o59)]))
          obtain ⟨cl60, Ar60, vq60, S60, M60, Hh60, G60⟩ := id V_o59
          obtain ⟨T60, h60, X60, e60, W60, st60⟩ := stB X59 hx hZ e59 Ar60 (j := (0 : Int32)) (inb_of S60 ⟨by decide, by decide⟩) (g := (mkF m 102 #[.val (.int p1), .val (.int p2), .val (.int p3), .val (.int p4), .val (.int p5), .val (.int ((p5 &&& (2147483647 : Int32)) % (5 : Int32))), .val (.int (b1_0 p1)), .val (.int (b1_0 p2)), .val (.int (b1_0 p3)), .val (.int (b1_0 p4)), .unset, .unset, .unset] [(.int (b1_0 p1)), (.int (0 : Int32)), (.ref o59), (.ref o59)])) rfl rfl (hb hby at_102)
          have V60 : Arv Z h60 o59 k59 .byte (3 : Int32) [(.int (nar .byte (b1_0 p1))), (.int (0 : Int32)), (.int (0 : Int32))] (.int (0 : Int32)) := Arv.set Ar60 vq60 S60 M60 Hh60 G60 (fits_nar_byte _) W60 0 rfl (Nat.le_of_ble_eq_true rfl)
          have K60 : Keep h0 h60 [] := K59.wr W60 (Or.inr sz_o59)
          have N60 := Fr.snoc X60 N4 g_o59
          refine go (fun t k => st60 _ k) ?_
          show Gl _ _ _ _ _ _ _ _ (T60.setTop (mkF m 103 #[.val (.int p1), .val (.int p2), .val (.int p3), .val (.int p4), .val (.int p5), .val (.int ((p5 &&& (2147483647 : Int32)) % (5 : Int32))), .val (.int (b1_0 p1)), .val (.int (b1_0 p2)), .val (.int (b1_0 p3)), .val (.int (b1_0 p4)), .unset, .unset, .unset] [(.ref o59)]))
          refine go (fun t k => XS.dup X60.here hx rfl (hb hby at_103) rfl rfl k) ?_
          show Gl _ _ _ _ _ _ _ _ (T60.setTop (mkF m 104 #[.val (.int p1), .val (.int p2), .val (.int p3), .val (.int p4), .val (.int p5), .val (.int ((p5 &&& (2147483647 : Int32)) % (5 : Int32))), .val (.int (b1_0 p1)), .val (.int (b1_0 p2)), .val (.int (b1_0 p3)), .val (.int (b1_0 p4)), .unset, .unset, .unset] [(.ref o59), (.ref o59)]))
          refine go (fun t k => XS.iconst X60.here hx rfl (hb hby at_104) k) ?_
          show Gl _ _ _ _ _ _ _ _ (T60.setTop (mkF m 105 #[.val (.int p1), .val (.int p2), .val (.int p3), .val (.int p4), .val (.int p5), .val (.int ((p5 &&& (2147483647 : Int32)) % (5 : Int32))), .val (.int (b1_0 p1)), .val (.int (b1_0 p2)), .val (.int (b1_0 p3)), .val (.int (b1_0 p4)), .unset, .unset, .unset] [(.int (1 : Int32)), (.ref o59), (.ref o59)]))
          refine go (fun t k => XS.iload X60.here hx rfl (hb hby at_105) rfl  k) ?_
          show Gl _ _ _ _ _ _ _ _ (T60.setTop (mkF m 107 #[.val (.int p1), .val (.int p2), .val (.int p3), .val (.int p4), .val (.int p5), .val (.int ((p5 &&& (2147483647 : Int32)) % (5 : Int32))), .val (.int (b1_0 p1)), .val (.int (b1_0 p2)), .val (.int (b1_0 p3)), .val (.int (b1_0 p4)), .unset, .unset, .unset] [(.int (b1_0 p2)), (.int (1 : Int32)), (.ref o59), (.ref o59)]))
          obtain ⟨cl61, Ar61, vq61, S61, M61, Hh61, G61⟩ := id V60
          obtain ⟨T61, h61, X61, e61, W61, st61⟩ := stB X60 hx hZ e60 Ar61 (j := (1 : Int32)) (inb_of S61 ⟨by decide, by decide⟩) (g := (mkF m 107 #[.val (.int p1), .val (.int p2), .val (.int p3), .val (.int p4), .val (.int p5), .val (.int ((p5 &&& (2147483647 : Int32)) % (5 : Int32))), .val (.int (b1_0 p1)), .val (.int (b1_0 p2)), .val (.int (b1_0 p3)), .val (.int (b1_0 p4)), .unset, .unset, .unset] [(.int (b1_0 p2)), (.int (1 : Int32)), (.ref o59), (.ref o59)])) rfl rfl (hb hby at_107)
          have V61 : Arv Z h61 o59 k59 .byte (3 : Int32) [(.int (nar .byte (b1_0 p1))), (.int (nar .byte (b1_0 p2))), (.int (0 : Int32))] (.int (0 : Int32)) := Arv.set Ar61 vq61 S61 M61 Hh61 G61 (fits_nar_byte _) W61 1 rfl (Nat.le_of_ble_eq_true rfl)
          have K61 : Keep h0 h61 [] := K60.wr W61 (Or.inr sz_o59)
          have N61 := Fr.snoc X61 N60 g_o59
          refine go (fun t k => st61 _ k) ?_
          show Gl _ _ _ _ _ _ _ _ (T61.setTop (mkF m 108 #[.val (.int p1), .val (.int p2), .val (.int p3), .val (.int p4), .val (.int p5), .val (.int ((p5 &&& (2147483647 : Int32)) % (5 : Int32))), .val (.int (b1_0 p1)), .val (.int (b1_0 p2)), .val (.int (b1_0 p3)), .val (.int (b1_0 p4)), .unset, .unset, .unset] [(.ref o59)]))
          refine go (fun t k => XS.dup X61.here hx rfl (hb hby at_108) rfl rfl k) ?_
          show Gl _ _ _ _ _ _ _ _ (T61.setTop (mkF m 109 #[.val (.int p1), .val (.int p2), .val (.int p3), .val (.int p4), .val (.int p5), .val (.int ((p5 &&& (2147483647 : Int32)) % (5 : Int32))), .val (.int (b1_0 p1)), .val (.int (b1_0 p2)), .val (.int (b1_0 p3)), .val (.int (b1_0 p4)), .unset, .unset, .unset] [(.ref o59), (.ref o59)]))
          refine go (fun t k => XS.iconst X61.here hx rfl (hb hby at_109) k) ?_
          show Gl _ _ _ _ _ _ _ _ (T61.setTop (mkF m 110 #[.val (.int p1), .val (.int p2), .val (.int p3), .val (.int p4), .val (.int p5), .val (.int ((p5 &&& (2147483647 : Int32)) % (5 : Int32))), .val (.int (b1_0 p1)), .val (.int (b1_0 p2)), .val (.int (b1_0 p3)), .val (.int (b1_0 p4)), .unset, .unset, .unset] [(.int (2 : Int32)), (.ref o59), (.ref o59)]))
          refine go (fun t k => XS.iload X61.here hx rfl (hb hby at_110) rfl  k) ?_
          show Gl _ _ _ _ _ _ _ _ (T61.setTop (mkF m 112 #[.val (.int p1), .val (.int p2), .val (.int p3), .val (.int p4), .val (.int p5), .val (.int ((p5 &&& (2147483647 : Int32)) % (5 : Int32))), .val (.int (b1_0 p1)), .val (.int (b1_0 p2)), .val (.int (b1_0 p3)), .val (.int (b1_0 p4)), .unset, .unset, .unset] [(.int (b1_0 p3)), (.int (2 : Int32)), (.ref o59), (.ref o59)]))
          obtain ⟨cl62, Ar62, vq62, S62, M62, Hh62, G62⟩ := id V61
          obtain ⟨T62, h62, X62, e62, W62, st62⟩ := stB X61 hx hZ e61 Ar62 (j := (2 : Int32)) (inb_of S62 ⟨by decide, by decide⟩) (g := (mkF m 112 #[.val (.int p1), .val (.int p2), .val (.int p3), .val (.int p4), .val (.int p5), .val (.int ((p5 &&& (2147483647 : Int32)) % (5 : Int32))), .val (.int (b1_0 p1)), .val (.int (b1_0 p2)), .val (.int (b1_0 p3)), .val (.int (b1_0 p4)), .unset, .unset, .unset] [(.int (b1_0 p3)), (.int (2 : Int32)), (.ref o59), (.ref o59)])) rfl rfl (hb hby at_112)
          have V62 : Arv Z h62 o59 k59 .byte (3 : Int32) [(.int (nar .byte (b1_0 p1))), (.int (nar .byte (b1_0 p2))), (.int (nar .byte (b1_0 p3)))] (.int (0 : Int32)) := Arv.set Ar62 vq62 S62 M62 Hh62 G62 (fits_nar_byte _) W62 2 rfl (Nat.le_of_ble_eq_true rfl)
          have K62 : Keep h0 h62 [] := K61.wr W62 (Or.inr sz_o59)
          have N62 := Fr.snoc X62 N61 g_o59
          refine go (fun t k => st62 _ k) ?_
          show Gl _ _ _ _ _ _ _ _ (T62.setTop (mkF m 113 #[.val (.int p1), .val (.int p2), .val (.int p3), .val (.int p4), .val (.int p5), .val (.int ((p5 &&& (2147483647 : Int32)) % (5 : Int32))), .val (.int (b1_0 p1)), .val (.int (b1_0 p2)), .val (.int (b1_0 p3)), .val (.int (b1_0 p4)), .unset, .unset, .unset] [(.ref o59)]))
          refine go (fun t k => XS.astore X62.here hx rfl (hb hby at_113) rfl rfl (l' := #[.val (.int p1), .val (.int p2), .val (.int p3), .val (.int p4), .val (.int p5), .val (.int ((p5 &&& (2147483647 : Int32)) % (5 : Int32))), .val (.int (b1_0 p1)), .val (.int (b1_0 p2)), .val (.int (b1_0 p3)), .val (.int (b1_0 p4)), .val (.ref o59), .unset, .unset]) rfl k) ?_
          show Gl _ _ _ _ _ _ _ _ (T62.setTop (mkF m 115 #[.val (.int p1), .val (.int p2), .val (.int p3), .val (.int p4), .val (.int p5), .val (.int ((p5 &&& (2147483647 : Int32)) % (5 : Int32))), .val (.int (b1_0 p1)), .val (.int (b1_0 p2)), .val (.int (b1_0 p3)), .val (.int (b1_0 p4)), .val (.ref o59), .unset, .unset] []))
          refine go (fun t k => XS.goto X62.here hx rfl (pc0 := 115) (pc' := 143) rfl (hb hby at_115) (by decide) (by decide) k) ?_
          show Gl _ _ _ _ _ _ _ _ (T62.setTop (mkF m 143 #[.val (.int p1), .val (.int p2), .val (.int p3), .val (.int p4), .val (.int p5), .val (.int ((p5 &&& (2147483647 : Int32)) % (5 : Int32))), .val (.int (b1_0 p1)), .val (.int (b1_0 p2)), .val (.int (b1_0 p3)), .val (.int (b1_0 p4)), .val (.ref o59), .unset, .unset] []))
          refine go (fun t k => XS.iload X62.here hx rfl (hb hby at_143) rfl  k) ?_
          show Gl _ _ _ _ _ _ _ _ (T62.setTop (mkF m 145 #[.val (.int p1), .val (.int p2), .val (.int p3), .val (.int p4), .val (.int p5), .val (.int ((p5 &&& (2147483647 : Int32)) % (5 : Int32))), .val (.int (b1_0 p1)), .val (.int (b1_0 p2)), .val (.int (b1_0 p3)), .val (.int (b1_0 p4)), .val (.ref o59), .unset, .unset] [(.int ((p5 &&& (2147483647 : Int32)) % (5 : Int32)))]))
          have J247 : ∀ (v11_247 : Addr) (TJ247 : State) (lJ247 : List Loc) (XJ247 : Stand p l e room_1 s m #[(.int p1), (.int p2), (.int p3), (.int p4), (.int p5)] below meth c TJ247 lJ247 5 47) (eJ247 : TJ247.heap = h62) (NJ247 : Fr n0 lJ247), Gl p e below s n0 room_1.cells room_1.slots (Kv (some (.int (b0_247x4 p1 p2 p3 w_XACML w_COMPACT w_BLANK v11_247))) (fun _ => True)) (TJ247.setTop (mkF m 247 #[.val (.int p1), .val (.int p2), .val (.int p3), .val (.int p4), .val (.int p5), .val (.int ((p5 &&& (2147483647 : Int32)) % (5 : Int32))), .val (.int (b1_0 p1)), .val (.int (b1_0 p2)), .val (.int (b1_0 p3)), .val (.int (b1_0 p4)), .val (.ref o59), .val (.ref v11_247), .unset] [])) := by
            intro v11_247 TJ247 lJ247 XJ247 eJ247 NJ247
            show Gl _ _ _ _ _ _ _ (Kv (some (.int (if (b2t3_0 w_XACML w_COMPACT w_BLANK (nar .byte (b1_0 p1)) (nar .byte (b1_0 p2)) (nar .byte (b1_0 p3))) = v11_247 then (b0_266x4 (1 : Int32)) else (b0_266x4 (0 : Int32))))) _) _
            refine go (fun t k => XS.aload XJ247.here hx rfl (hb hby at_247) rfl rfl k) ?_
            show Gl _ _ _ _ _ _ _ _ (TJ247.setTop (mkF m 249 #[.val (.int p1), .val (.int p2), .val (.int p3), .val (.int p4), .val (.int p5), .val (.int ((p5 &&& (2147483647 : Int32)) % (5 : Int32))), .val (.int (b1_0 p1)), .val (.int (b1_0 p2)), .val (.int (b1_0 p3)), .val (.int (b1_0 p4)), .val (.ref o59), .val (.ref v11_247), .unset] [(.ref o59)]))
            obtain ⟨_, _, ⟨T64, L64, k64, n64⟩, -, X64, ⟨Lc64, hQ64, l64, y64, z64⟩, st64⟩ := Jvm.LawKit.callS XJ247 hx (y := (⟨"com/example/policylint/policylint/PolicySyntax", "of", "([B)Lcom/example/policylint/policylint/PolicySyntax;"⟩ : MethodName)) hown (mvT hZ (hw _ (List.mem_of_getElem? (i := 9) rfl))) (mvT hZ (hw _ (List.mem_of_getElem? (i := 10) rfl))) (mvT hZ (hw _ (List.mem_of_getElem? (i := 7) rfl))) (mvT hZ (hw _ (List.mem_of_getElem? (i := 11) rfl))) (by decide) (backOf (W := 0) (rm2t3 l Z a0 hw [] o59 w_XACML w_COMPACT w_BLANK k59 (nar .byte (b1_0 p1)) (nar .byte (b1_0 p2)) (nar .byte (b1_0 p3)) h62 n0 (Nat.le_trans (Nat.le_trans (Nat.le_trans (Nat.le_trans (Nat.le_trans (Nat.le_trans (Nat.le_trans (Nat.le_trans Z0 K1q.1) K2q.1) K3q.1) K4q.1) E59.1) (Keep.of_wr W60).1) (Keep.of_wr W61).1) (Keep.of_wr W62).1) (Sta.wr W62 (Sta.wr W61 (Sta.wr W60 ((sta_keep0 (sta_keep0 (sta_keep0 (sta_keep0 S_XACML K1q) K2q) K3q) K4q).ext E59)))) (Sta.wr W62 (Sta.wr W61 (Sta.wr W60 ((sta_keep0 (sta_keep0 (sta_keep0 (sta_keep0 S_COMPACT K1q) K2q) K3q) K4q).ext E59)))) (Sta.wr W62 (Sta.wr W61 (Sta.wr W60 ((sta_keep0 (sta_keep0 (sta_keep0 (sta_keep0 S_BLANK K1q) K2q) K3q) K4q).ext E59)))) V62) hZ (hw _ (List.mem_of_getElem? (i := 11) rfl)) (hw _ (List.mem_of_getElem? (i := 7) rfl)) (by decide) (by decide)) (g := (mkF m 249 #[.val (.int p1), .val (.int p2), .val (.int p3), .val (.int p4), .val (.int p5), .val (.int ((p5 &&& (2147483647 : Int32)) % (5 : Int32))), .val (.int (b1_0 p1)), .val (.int (b1_0 p2)), .val (.int (b1_0 p3)), .val (.int (b1_0 p4)), .val (.ref o59), .val (.ref v11_247), .unset] [(.ref o59)])) rfl (by rw [hml]; rfl) (argsL := [(.ref o59)]) (rest := []) (lenOf pd_2 rfl) rfl (by show 2 * 0 + _ ≤ _; exact Nat.le_of_eq rfl) (hb hby at_249) (fun _ _ => ⟨rfl, eJ247, (by decide : 5 + 0 ≤ _), (by decide : 47 + 0 ≤ _)⟩)
            dsimp only [Pt.U, Pt.locs, Pt.cells, Pt.slots] at X64 l64 y64 z64 st64 hQ64
            subst l64 y64 z64
            have X64 : Stand p l e room_1 s m #[(.int p1), (.int p2), (.int p3), (.int p4), (.int p5)] below meth c T64 _ 5 47 := X64
            obtain ⟨⟨rfl, e64'⟩, N64q⟩ := hQ64
            have e64 : T64.heap = h62 := e64'
            have N64 := Fr.app NJ247 N64q
            refine go (fun t k => st64 _ k) ?_
            show Gl _ _ _ _ _ _ _ _ (T64.setTop (mkF m 252 #[.val (.int p1), .val (.int p2), .val (.int p3), .val (.int p4), .val (.int p5), .val (.int ((p5 &&& (2147483647 : Int32)) % (5 : Int32))), .val (.int (b1_0 p1)), .val (.int (b1_0 p2)), .val (.int (b1_0 p3)), .val (.int (b1_0 p4)), .val (.ref o59), .val (.ref v11_247), .unset] [(.ref (b2t3_0 w_XACML w_COMPACT w_BLANK (nar .byte (b1_0 p1)) (nar .byte (b1_0 p2)) (nar .byte (b1_0 p3))))]))
            refine go (fun t k => XS.astore X64.here hx rfl (hb hby at_252) rfl rfl (l' := #[.val (.int p1), .val (.int p2), .val (.int p3), .val (.int p4), .val (.int p5), .val (.int ((p5 &&& (2147483647 : Int32)) % (5 : Int32))), .val (.int (b1_0 p1)), .val (.int (b1_0 p2)), .val (.int (b1_0 p3)), .val (.int (b1_0 p4)), .val (.ref o59), .val (.ref v11_247), .val (.ref (b2t3_0 w_XACML w_COMPACT w_BLANK (nar .byte (b1_0 p1)) (nar .byte (b1_0 p2)) (nar .byte (b1_0 p3))))]) rfl k) ?_
            show Gl _ _ _ _ _ _ _ _ (T64.setTop (mkF m 254 #[.val (.int p1), .val (.int p2), .val (.int p3), .val (.int p4), .val (.int p5), .val (.int ((p5 &&& (2147483647 : Int32)) % (5 : Int32))), .val (.int (b1_0 p1)), .val (.int (b1_0 p2)), .val (.int (b1_0 p3)), .val (.int (b1_0 p4)), .val (.ref o59), .val (.ref v11_247), .val (.ref (b2t3_0 w_XACML w_COMPACT w_BLANK (nar .byte (b1_0 p1)) (nar .byte (b1_0 p2)) (nar .byte (b1_0 p3))))] []))
            refine go (fun t k => XS.aload X64.here hx rfl (hb hby at_254) rfl rfl k) ?_
            show Gl _ _ _ _ _ _ _ _ (T64.setTop (mkF m 256 #[.val (.int p1), .val (.int p2), .val (.int p3), .val (.int p4), .val (.int p5), .val (.int ((p5 &&& (2147483647 : Int32)) % (5 : Int32))), .val (.int (b1_0 p1)), .val (.int (b1_0 p2)), .val (.int (b1_0 p3)), .val (.int (b1_0 p4)), .val (.ref o59), .val (.ref v11_247), .val (.ref (b2t3_0 w_XACML w_COMPACT w_BLANK (nar .byte (b1_0 p1)) (nar .byte (b1_0 p2)) (nar .byte (b1_0 p3))))] [(.ref (b2t3_0 w_XACML w_COMPACT w_BLANK (nar .byte (b1_0 p1)) (nar .byte (b1_0 p2)) (nar .byte (b1_0 p3))))]))
            refine go (fun t k => XS.aload X64.here hx rfl (hb hby at_256) rfl rfl k) ?_
            show Gl _ _ _ _ _ _ _ _ (T64.setTop (mkF m 258 #[.val (.int p1), .val (.int p2), .val (.int p3), .val (.int p4), .val (.int p5), .val (.int ((p5 &&& (2147483647 : Int32)) % (5 : Int32))), .val (.int (b1_0 p1)), .val (.int (b1_0 p2)), .val (.int (b1_0 p3)), .val (.int (b1_0 p4)), .val (.ref o59), .val (.ref v11_247), .val (.ref (b2t3_0 w_XACML w_COMPACT w_BLANK (nar .byte (b1_0 p1)) (nar .byte (b1_0 p2)) (nar .byte (b1_0 p3))))] [(.ref v11_247), (.ref (b2t3_0 w_XACML w_COMPACT w_BLANK (nar .byte (b1_0 p1)) (nar .byte (b1_0 p2)) (nar .byte (b1_0 p3))))]))
            have J266 : ∀ (s0_266 : Int32) (TJ266 : State) (lJ266 : List Loc) (XJ266 : Stand p l e room_1 s m #[(.int p1), (.int p2), (.int p3), (.int p4), (.int p5)] below meth c TJ266 lJ266 5 47) (eJ266 : TJ266.heap = h62) (NJ266 : Fr n0 lJ266), Gl p e below s n0 room_1.cells room_1.slots (Kv (some (.int (b0_266x4 s0_266))) (fun _ => True)) (TJ266.setTop (mkF m 266 #[.val (.int p1), .val (.int p2), .val (.int p3), .val (.int p4), .val (.int p5), .val (.int ((p5 &&& (2147483647 : Int32)) % (5 : Int32))), .val (.int (b1_0 p1)), .val (.int (b1_0 p2)), .val (.int (b1_0 p3)), .val (.int (b1_0 p4)), .val (.ref o59), .val (.ref v11_247), .val (.ref (b2t3_0 w_XACML w_COMPACT w_BLANK (nar .byte (b1_0 p1)) (nar .byte (b1_0 p2)) (nar .byte (b1_0 p3))))] [(.int s0_266)])) := by
              intro s0_266 TJ266 lJ266 XJ266 eJ266 NJ266
              show Gl _ _ _ _ _ _ _ (Kv (some (.int (nar .boolean s0_266))) _) _
              exact endN XJ266 hx Bd (t := .boolean) (by simp) (hb hby at_266) ⟨rfl, trivial⟩ NJ266 (by decide) (by decide)
            refine gI (c := (b2t3_0 w_XACML w_COMPACT w_BLANK (nar .byte (b1_0 p1)) (nar .byte (b1_0 p2)) (nar .byte (b1_0 p3))) = v11_247) (fun hc258 => ?_) (fun hc258 => ?_)
            · refine go (fun t k => Jvm.RoadKit.acmp (g := (mkF m 258 #[.val (.int p1), .val (.int p2), .val (.int p3), .val (.int p4), .val (.int p5), .val (.int ((p5 &&& (2147483647 : Int32)) % (5 : Int32))), .val (.int (b1_0 p1)), .val (.int (b1_0 p2)), .val (.int (b1_0 p3)), .val (.int (b1_0 p4)), .val (.ref o59), .val (.ref v11_247), .val (.ref (b2t3_0 w_XACML w_COMPACT w_BLANK (nar .byte (b1_0 p1)) (nar .byte (b1_0 p2)) (nar .byte (b1_0 p3))))] [(.ref v11_247), (.ref (b2t3_0 w_XACML w_COMPACT w_BLANK (nar .byte (b1_0 p1)) (nar .byte (b1_0 p2)) (nar .byte (b1_0 p3))))])) X64 hx rfl rfl rfl (pc0 := 258) (pc' := 261) (same := true) rfl (hb hby at_258) rfl (decide_eq_true (congrArg Value.ref hc258)) (by decide) (by decide) k) ?_
              show Gl _ _ _ _ _ _ _ _ (T64.setTop (mkF m 261 #[.val (.int p1), .val (.int p2), .val (.int p3), .val (.int p4), .val (.int p5), .val (.int ((p5 &&& (2147483647 : Int32)) % (5 : Int32))), .val (.int (b1_0 p1)), .val (.int (b1_0 p2)), .val (.int (b1_0 p3)), .val (.int (b1_0 p4)), .val (.ref o59), .val (.ref v11_247), .val (.ref (b2t3_0 w_XACML w_COMPACT w_BLANK (nar .byte (b1_0 p1)) (nar .byte (b1_0 p2)) (nar .byte (b1_0 p3))))] []))
              refine go (fun t k => XS.iconst X64.here hx rfl (hb hby at_261) k) ?_
              show Gl _ _ _ _ _ _ _ _ (T64.setTop (mkF m 262 #[.val (.int p1), .val (.int p2), .val (.int p3), .val (.int p4), .val (.int p5), .val (.int ((p5 &&& (2147483647 : Int32)) % (5 : Int32))), .val (.int (b1_0 p1)), .val (.int (b1_0 p2)), .val (.int (b1_0 p3)), .val (.int (b1_0 p4)), .val (.ref o59), .val (.ref v11_247), .val (.ref (b2t3_0 w_XACML w_COMPACT w_BLANK (nar .byte (b1_0 p1)) (nar .byte (b1_0 p2)) (nar .byte (b1_0 p3))))] [(.int (1 : Int32))]))
              refine go (fun t k => XS.goto X64.here hx rfl (pc0 := 262) (pc' := 266) rfl (hb hby at_262) (by decide) (by decide) k) ?_
              show Gl _ _ _ _ _ _ _ _ (T64.setTop (mkF m 266 #[.val (.int p1), .val (.int p2), .val (.int p3), .val (.int p4), .val (.int p5), .val (.int ((p5 &&& (2147483647 : Int32)) % (5 : Int32))), .val (.int (b1_0 p1)), .val (.int (b1_0 p2)), .val (.int (b1_0 p3)), .val (.int (b1_0 p4)), .val (.ref o59), .val (.ref v11_247), .val (.ref (b2t3_0 w_XACML w_COMPACT w_BLANK (nar .byte (b1_0 p1)) (nar .byte (b1_0 p2)) (nar .byte (b1_0 p3))))] [(.int (1 : Int32))]))
              exact J266 (1 : Int32) T64 _ X64 e64 N64
            · refine go (fun t k => Jvm.RoadKit.acmp (g := (mkF m 258 #[.val (.int p1), .val (.int p2), .val (.int p3), .val (.int p4), .val (.int p5), .val (.int ((p5 &&& (2147483647 : Int32)) % (5 : Int32))), .val (.int (b1_0 p1)), .val (.int (b1_0 p2)), .val (.int (b1_0 p3)), .val (.int (b1_0 p4)), .val (.ref o59), .val (.ref v11_247), .val (.ref (b2t3_0 w_XACML w_COMPACT w_BLANK (nar .byte (b1_0 p1)) (nar .byte (b1_0 p2)) (nar .byte (b1_0 p3))))] [(.ref v11_247), (.ref (b2t3_0 w_XACML w_COMPACT w_BLANK (nar .byte (b1_0 p1)) (nar .byte (b1_0 p2)) (nar .byte (b1_0 p3))))])) X64 hx rfl rfl rfl (pc0 := 258) (pc' := 265) (same := false) rfl (hb hby at_258) rfl (decide_eq_false fun q => hc258 (Value.ref.inj q)) (by decide) (by decide) k) ?_
              show Gl _ _ _ _ _ _ _ _ (T64.setTop (mkF m 265 #[.val (.int p1), .val (.int p2), .val (.int p3), .val (.int p4), .val (.int p5), .val (.int ((p5 &&& (2147483647 : Int32)) % (5 : Int32))), .val (.int (b1_0 p1)), .val (.int (b1_0 p2)), .val (.int (b1_0 p3)), .val (.int (b1_0 p4)), .val (.ref o59), .val (.ref v11_247), .val (.ref (b2t3_0 w_XACML w_COMPACT w_BLANK (nar .byte (b1_0 p1)) (nar .byte (b1_0 p2)) (nar .byte (b1_0 p3))))] []))
              refine go (fun t k => XS.iconst X64.here hx rfl (hb hby at_265) k) ?_
              show Gl _ _ _ _ _ _ _ _ (T64.setTop (mkF m 266 #[.val (.int p1), .val (.int p2), .val (.int p3), .val (.int p4), .val (.int p5), .val (.int ((p5 &&& (2147483647 : Int32)) % (5 : Int32))), .val (.int (b1_0 p1)), .val (.int (b1_0 p2)), .val (.int (b1_0 p3)), .val (.int (b1_0 p4)), .val (.ref o59), .val (.ref v11_247), .val (.ref (b2t3_0 w_XACML w_COMPACT w_BLANK (nar .byte (b1_0 p1)) (nar .byte (b1_0 p2)) (nar .byte (b1_0 p3))))] [(.int (0 : Int32))]))
              exact J266 (0 : Int32) T64 _ X64 e64 N64
          have J167 : ∀  (TJ167 : State) (lJ167 : List Loc) (XJ167 : Stand p l e room_1 s m #[(.int p1), (.int p2), (.int p3), (.int p4), (.int p5)] below meth c TJ167 lJ167 5 47) (eJ167 : TJ167.heap = h62) (NJ167 : Fr n0 lJ167), Gl p e below s n0 room_1.cells room_1.slots (Kv (some (.int (b0_167x4 p1 p2 p3 p4 p5 w_XACML w_COMPACT w_BLANK))) (fun _ => True)) (TJ167.setTop (mkF m 167 #[.val (.int p1), .val (.int p2), .val (.int p3), .val (.int p4), .val (.int p5), .val (.int ((p5 &&& (2147483647 : Int32)) % (5 : Int32))), .val (.int (b1_0 p1)), .val (.int (b1_0 p2)), .val (.int (b1_0 p3)), .val (.int (b1_0 p4)), .val (.ref o59), .unset, .unset] [])) := by
            intro  TJ167 lJ167 XJ167 eJ167 NJ167
            show Gl _ _ _ _ _ _ _ (Kv (some (.int (if (1 : Int32) < ((p5 &&& (2147483647 : Int32)) % (5 : Int32)) then (if (b3_0 (b1_0 p2)) = (1 : Int32) then (b0_192x4 p1 p2 p3 p4 p5 w_XACML w_COMPACT w_BLANK) else (b0_247x4 p1 p2 p3 w_XACML w_COMPACT w_BLANK (b4_0 (b1_0 p2) w_XACML w_COMPACT))) else (b0_192x4 p1 p2 p3 p4 p5 w_XACML w_COMPACT w_BLANK)))) _) _
            refine go (fun t k => XS.iload XJ167.here hx rfl (hb hby at_167) rfl  k) ?_
            show Gl _ _ _ _ _ _ _ _ (TJ167.setTop (mkF m 169 #[.val (.int p1), .val (.int p2), .val (.int p3), .val (.int p4), .val (.int p5), .val (.int ((p5 &&& (2147483647 : Int32)) % (5 : Int32))), .val (.int (b1_0 p1)), .val (.int (b1_0 p2)), .val (.int (b1_0 p3)), .val (.int (b1_0 p4)), .val (.ref o59), .unset, .unset] [(.int ((p5 &&& (2147483647 : Int32)) % (5 : Int32)))]))
            refine go (fun t k => XS.iconst XJ167.here hx rfl (hb hby at_169) k) ?_
            show Gl _ _ _ _ _ _ _ _ (TJ167.setTop (mkF m 170 #[.val (.int p1), .val (.int p2), .val (.int p3), .val (.int p4), .val (.int p5), .val (.int ((p5 &&& (2147483647 : Int32)) % (5 : Int32))), .val (.int (b1_0 p1)), .val (.int (b1_0 p2)), .val (.int (b1_0 p3)), .val (.int (b1_0 p4)), .val (.ref o59), .unset, .unset] [(.int (1 : Int32)), (.int ((p5 &&& (2147483647 : Int32)) % (5 : Int32)))]))
            have J192 : ∀  (TJ192 : State) (lJ192 : List Loc) (XJ192 : Stand p l e room_1 s m #[(.int p1), (.int p2), (.int p3), (.int p4), (.int p5)] below meth c TJ192 lJ192 5 47) (eJ192 : TJ192.heap = h62) (NJ192 : Fr n0 lJ192), Gl p e below s n0 room_1.cells room_1.slots (Kv (some (.int (b0_192x4 p1 p2 p3 p4 p5 w_XACML w_COMPACT w_BLANK))) (fun _ => True)) (TJ192.setTop (mkF m 192 #[.val (.int p1), .val (.int p2), .val (.int p3), .val (.int p4), .val (.int p5), .val (.int ((p5 &&& (2147483647 : Int32)) % (5 : Int32))), .val (.int (b1_0 p1)), .val (.int (b1_0 p2)), .val (.int (b1_0 p3)), .val (.int (b1_0 p4)), .val (.ref o59), .unset, .unset] [])) := by
              intro  TJ192 lJ192 XJ192 eJ192 NJ192
              show Gl _ _ _ _ _ _ _ (Kv (some (.int (if (2 : Int32) < ((p5 &&& (2147483647 : Int32)) % (5 : Int32)) then (if (b3_0 (b1_0 p3)) = (1 : Int32) then (b0_217x4 p1 p2 p3 p4 p5 w_XACML w_COMPACT w_BLANK) else (b0_247x4 p1 p2 p3 w_XACML w_COMPACT w_BLANK (b4_0 (b1_0 p3) w_XACML w_COMPACT))) else (b0_217x4 p1 p2 p3 p4 p5 w_XACML w_COMPACT w_BLANK)))) _) _
              refine go (fun t k => XS.iload XJ192.here hx rfl (hb hby at_192) rfl  k) ?_
              show Gl _ _ _ _ _ _ _ _ (TJ192.setTop (mkF m 194 #[.val (.int p1), .val (.int p2), .val (.int p3), .val (.int p4), .val (.int p5), .val (.int ((p5 &&& (2147483647 : Int32)) % (5 : Int32))), .val (.int (b1_0 p1)), .val (.int (b1_0 p2)), .val (.int (b1_0 p3)), .val (.int (b1_0 p4)), .val (.ref o59), .unset, .unset] [(.int ((p5 &&& (2147483647 : Int32)) % (5 : Int32)))]))
              refine go (fun t k => XS.iconst XJ192.here hx rfl (hb hby at_194) k) ?_
              show Gl _ _ _ _ _ _ _ _ (TJ192.setTop (mkF m 195 #[.val (.int p1), .val (.int p2), .val (.int p3), .val (.int p4), .val (.int p5), .val (.int ((p5 &&& (2147483647 : Int32)) % (5 : Int32))), .val (.int (b1_0 p1)), .val (.int (b1_0 p2)), .val (.int (b1_0 p3)), .val (.int (b1_0 p4)), .val (.ref o59), .unset, .unset] [(.int (2 : Int32)), (.int ((p5 &&& (2147483647 : Int32)) % (5 : Int32)))]))
              have J217 : ∀  (TJ217 : State) (lJ217 : List Loc) (XJ217 : Stand p l e room_1 s m #[(.int p1), (.int p2), (.int p3), (.int p4), (.int p5)] below meth c TJ217 lJ217 5 47) (eJ217 : TJ217.heap = h62) (NJ217 : Fr n0 lJ217), Gl p e below s n0 room_1.cells room_1.slots (Kv (some (.int (b0_217x4 p1 p2 p3 p4 p5 w_XACML w_COMPACT w_BLANK))) (fun _ => True)) (TJ217.setTop (mkF m 217 #[.val (.int p1), .val (.int p2), .val (.int p3), .val (.int p4), .val (.int p5), .val (.int ((p5 &&& (2147483647 : Int32)) % (5 : Int32))), .val (.int (b1_0 p1)), .val (.int (b1_0 p2)), .val (.int (b1_0 p3)), .val (.int (b1_0 p4)), .val (.ref o59), .unset, .unset] [])) := by
                intro  TJ217 lJ217 XJ217 eJ217 NJ217
                show Gl _ _ _ _ _ _ _ (Kv (some (.int (if (3 : Int32) < ((p5 &&& (2147483647 : Int32)) % (5 : Int32)) then (if (b3_0 (b1_0 p4)) = (1 : Int32) then (b0_242x4 p1 p2 p3 w_XACML w_COMPACT w_BLANK) else (b0_247x4 p1 p2 p3 w_XACML w_COMPACT w_BLANK (b4_0 (b1_0 p4) w_XACML w_COMPACT))) else (b0_242x4 p1 p2 p3 w_XACML w_COMPACT w_BLANK)))) _) _
                refine go (fun t k => XS.iload XJ217.here hx rfl (hb hby at_217) rfl  k) ?_
                show Gl _ _ _ _ _ _ _ _ (TJ217.setTop (mkF m 219 #[.val (.int p1), .val (.int p2), .val (.int p3), .val (.int p4), .val (.int p5), .val (.int ((p5 &&& (2147483647 : Int32)) % (5 : Int32))), .val (.int (b1_0 p1)), .val (.int (b1_0 p2)), .val (.int (b1_0 p3)), .val (.int (b1_0 p4)), .val (.ref o59), .unset, .unset] [(.int ((p5 &&& (2147483647 : Int32)) % (5 : Int32)))]))
                refine go (fun t k => XS.iconst XJ217.here hx rfl (hb hby at_219) k) ?_
                show Gl _ _ _ _ _ _ _ _ (TJ217.setTop (mkF m 220 #[.val (.int p1), .val (.int p2), .val (.int p3), .val (.int p4), .val (.int p5), .val (.int ((p5 &&& (2147483647 : Int32)) % (5 : Int32))), .val (.int (b1_0 p1)), .val (.int (b1_0 p2)), .val (.int (b1_0 p3)), .val (.int (b1_0 p4)), .val (.ref o59), .unset, .unset] [(.int (3 : Int32)), (.int ((p5 &&& (2147483647 : Int32)) % (5 : Int32)))]))
                have J242 : ∀  (TJ242 : State) (lJ242 : List Loc) (XJ242 : Stand p l e room_1 s m #[(.int p1), (.int p2), (.int p3), (.int p4), (.int p5)] below meth c TJ242 lJ242 5 47) (eJ242 : TJ242.heap = h62) (NJ242 : Fr n0 lJ242), Gl p e below s n0 room_1.cells room_1.slots (Kv (some (.int (b0_242x4 p1 p2 p3 w_XACML w_COMPACT w_BLANK))) (fun _ => True)) (TJ242.setTop (mkF m 242 #[.val (.int p1), .val (.int p2), .val (.int p3), .val (.int p4), .val (.int p5), .val (.int ((p5 &&& (2147483647 : Int32)) % (5 : Int32))), .val (.int (b1_0 p1)), .val (.int (b1_0 p2)), .val (.int (b1_0 p3)), .val (.int (b1_0 p4)), .val (.ref o59), .unset, .unset] [])) := by
                  intro  TJ242 lJ242 XJ242 eJ242 NJ242
                  show Gl _ _ _ _ _ _ _ (Kv (some (.int (b0_247x4 p1 p2 p3 w_XACML w_COMPACT w_BLANK w_BLANK))) _) _
                  obtain ⟨T70, X70, e70, st70⟩ := getS2 XJ242 hx hZ hown (host := "") (Or.inl (hw _ (List.mem_of_getElem? (i := 6) rfl))) Via.refl eJ242 (Sta.wr W62 (Sta.wr W61 (Sta.wr W60 ((sta_keep0 (sta_keep0 (sta_keep0 (sta_keep0 S_BLANK K1q) K2q) K3q) K4q).ext E59)))) (g := (mkF m 242 #[.val (.int p1), .val (.int p2), .val (.int p3), .val (.int p4), .val (.int p5), .val (.int ((p5 &&& (2147483647 : Int32)) % (5 : Int32))), .val (.int (b1_0 p1)), .val (.int (b1_0 p2)), .val (.int (b1_0 p3)), .val (.int (b1_0 p4)), .val (.ref o59), .unset, .unset] [])) rfl (hb hby at_242)
                  refine go (fun t k => st70 _ k) ?_
                  show Gl _ _ _ _ _ _ _ _ (T70.setTop (mkF m 245 #[.val (.int p1), .val (.int p2), .val (.int p3), .val (.int p4), .val (.int p5), .val (.int ((p5 &&& (2147483647 : Int32)) % (5 : Int32))), .val (.int (b1_0 p1)), .val (.int (b1_0 p2)), .val (.int (b1_0 p3)), .val (.int (b1_0 p4)), .val (.ref o59), .unset, .unset] [(.ref w_BLANK)]))
                  refine go (fun t k => XS.astore X70.here hx rfl (hb hby at_245) rfl rfl (l' := #[.val (.int p1), .val (.int p2), .val (.int p3), .val (.int p4), .val (.int p5), .val (.int ((p5 &&& (2147483647 : Int32)) % (5 : Int32))), .val (.int (b1_0 p1)), .val (.int (b1_0 p2)), .val (.int (b1_0 p3)), .val (.int (b1_0 p4)), .val (.ref o59), .val (.ref w_BLANK), .unset]) rfl k) ?_
                  show Gl _ _ _ _ _ _ _ _ (T70.setTop (mkF m 247 #[.val (.int p1), .val (.int p2), .val (.int p3), .val (.int p4), .val (.int p5), .val (.int ((p5 &&& (2147483647 : Int32)) % (5 : Int32))), .val (.int (b1_0 p1)), .val (.int (b1_0 p2)), .val (.int (b1_0 p3)), .val (.int (b1_0 p4)), .val (.ref o59), .val (.ref w_BLANK), .unset] []))
                  exact J247 w_BLANK T70 _ X70 e70 NJ242
                refine gI (c := (3 : Int32) < ((p5 &&& (2147483647 : Int32)) % (5 : Int32))) (fun hc220 => ?_) (fun hc220 => ?_)
                · refine go (fun t k => XS.icmpNo XJ217.here hx rfl (hb hby at_220) rfl (tlt hc220).2.2.2 k) ?_
                  show Gl _ _ _ _ _ _ _ _ (TJ217.setTop (mkF m 223 #[.val (.int p1), .val (.int p2), .val (.int p3), .val (.int p4), .val (.int p5), .val (.int ((p5 &&& (2147483647 : Int32)) % (5 : Int32))), .val (.int (b1_0 p1)), .val (.int (b1_0 p2)), .val (.int (b1_0 p3)), .val (.int (b1_0 p4)), .val (.ref o59), .unset, .unset] []))
                  refine go (fun t k => XS.iload XJ217.here hx rfl (hb hby at_223) rfl  k) ?_
                  show Gl _ _ _ _ _ _ _ _ (TJ217.setTop (mkF m 225 #[.val (.int p1), .val (.int p2), .val (.int p3), .val (.int p4), .val (.int p5), .val (.int ((p5 &&& (2147483647 : Int32)) % (5 : Int32))), .val (.int (b1_0 p1)), .val (.int (b1_0 p2)), .val (.int (b1_0 p3)), .val (.int (b1_0 p4)), .val (.ref o59), .unset, .unset] [(.int (b1_0 p4))]))
                  obtain ⟨_, _, ⟨T71, L71, k71, n71⟩, -, X71, ⟨Lc71, hQ71, l71, y71, z71⟩, st71⟩ := Jvm.LawKit.callS XJ217 hx (y := (⟨"com/example/policylint/policylint/PolicySyntaxOfPinLaw", "cls", "(B)I"⟩ : MethodName)) hown (mvT hZ (hw _ (List.mem_of_getElem? (i := 13) rfl))) (mvT hZ (hw _ (List.mem_of_getElem? (i := 14) rfl))) (mvT hZ (hw _ (List.mem_of_getElem? (i := 3) rfl))) (mvT hZ (hw _ (List.mem_of_getElem? (i := 15) rfl))) (by decide) (backOf (W := 0) (rm3 l Z a0 hw [] (b1_0 p4) h62 n0 (Nat.le_trans (Nat.le_trans (Nat.le_trans (Nat.le_trans (Nat.le_trans (Nat.le_trans (Nat.le_trans (Nat.le_trans Z0 K1q.1) K2q.1) K3q.1) K4q.1) E59.1) (Keep.of_wr W60).1) (Keep.of_wr W61).1) (Keep.of_wr W62).1) ) hZ (hw _ (List.mem_of_getElem? (i := 15) rfl)) (hw _ (List.mem_of_getElem? (i := 3) rfl)) (by decide) (by decide)) (g := (mkF m 225 #[.val (.int p1), .val (.int p2), .val (.int p3), .val (.int p4), .val (.int p5), .val (.int ((p5 &&& (2147483647 : Int32)) % (5 : Int32))), .val (.int (b1_0 p1)), .val (.int (b1_0 p2)), .val (.int (b1_0 p3)), .val (.int (b1_0 p4)), .val (.ref o59), .unset, .unset] [(.int (b1_0 p4))])) rfl (by rw [hml]; rfl) (argsL := [(.int (b1_0 p4))]) (rest := []) (lenOf pd_0 rfl) rfl (by show 2 * 0 + _ ≤ _; exact Nat.le_of_eq rfl) (hb hby at_225) (fun _ _ => ⟨rfl, eJ217, (by decide : 5 + 0 ≤ _), (by decide : 47 + 0 ≤ _)⟩)
                  dsimp only [Pt.U, Pt.locs, Pt.cells, Pt.slots] at X71 l71 y71 z71 st71 hQ71
                  subst l71 y71 z71
                  have X71 : Stand p l e room_1 s m #[(.int p1), (.int p2), (.int p3), (.int p4), (.int p5)] below meth c T71 _ 5 47 := X71
                  obtain ⟨⟨rfl, e71'⟩, N71q⟩ := hQ71
                  have e71 : T71.heap = h62 := e71'
                  have N71 := Fr.app NJ217 N71q
                  refine go (fun t k => st71 _ k) ?_
                  show Gl _ _ _ _ _ _ _ _ (T71.setTop (mkF m 228 #[.val (.int p1), .val (.int p2), .val (.int p3), .val (.int p4), .val (.int p5), .val (.int ((p5 &&& (2147483647 : Int32)) % (5 : Int32))), .val (.int (b1_0 p1)), .val (.int (b1_0 p2)), .val (.int (b1_0 p3)), .val (.int (b1_0 p4)), .val (.ref o59), .unset, .unset] [(.int (b3_0 (b1_0 p4)))]))
                  refine go (fun t k => XS.iconst X71.here hx rfl (hb hby at_228) k) ?_
                  show Gl _ _ _ _ _ _ _ _ (T71.setTop (mkF m 229 #[.val (.int p1), .val (.int p2), .val (.int p3), .val (.int p4), .val (.int p5), .val (.int ((p5 &&& (2147483647 : Int32)) % (5 : Int32))), .val (.int (b1_0 p1)), .val (.int (b1_0 p2)), .val (.int (b1_0 p3)), .val (.int (b1_0 p4)), .val (.ref o59), .unset, .unset] [(.int (1 : Int32)), (.int (b3_0 (b1_0 p4)))]))
                  refine gI (c := (b3_0 (b1_0 p4)) = (1 : Int32)) (fun hc229 => ?_) (fun hc229 => ?_)
                  · refine go (fun t k => XS.icmpYes X71.here hx rfl (pc0 := 229) (pc' := 242) rfl (hb hby at_229) rfl (teq hc229).1 (by decide) (by decide) k) ?_
                    show Gl _ _ _ _ _ _ _ _ (T71.setTop (mkF m 242 #[.val (.int p1), .val (.int p2), .val (.int p3), .val (.int p4), .val (.int p5), .val (.int ((p5 &&& (2147483647 : Int32)) % (5 : Int32))), .val (.int (b1_0 p1)), .val (.int (b1_0 p2)), .val (.int (b1_0 p3)), .val (.int (b1_0 p4)), .val (.ref o59), .unset, .unset] []))
                    exact J242  T71 _ X71 e71 N71
                  · refine go (fun t k => XS.icmpNo X71.here hx rfl (hb hby at_229) rfl (feq hc229).1 k) ?_
                    show Gl _ _ _ _ _ _ _ _ (T71.setTop (mkF m 232 #[.val (.int p1), .val (.int p2), .val (.int p3), .val (.int p4), .val (.int p5), .val (.int ((p5 &&& (2147483647 : Int32)) % (5 : Int32))), .val (.int (b1_0 p1)), .val (.int (b1_0 p2)), .val (.int (b1_0 p3)), .val (.int (b1_0 p4)), .val (.ref o59), .unset, .unset] []))
                    refine go (fun t k => XS.iload X71.here hx rfl (hb hby at_232) rfl  k) ?_
                    show Gl _ _ _ _ _ _ _ _ (T71.setTop (mkF m 234 #[.val (.int p1), .val (.int p2), .val (.int p3), .val (.int p4), .val (.int p5), .val (.int ((p5 &&& (2147483647 : Int32)) % (5 : Int32))), .val (.int (b1_0 p1)), .val (.int (b1_0 p2)), .val (.int (b1_0 p3)), .val (.int (b1_0 p4)), .val (.ref o59), .unset, .unset] [(.int (b1_0 p4))]))
                    obtain ⟨_, _, ⟨T72, L72, k72, n72⟩, -, X72, ⟨Lc72, hQ72, l72, y72, z72⟩, st72⟩ := Jvm.LawKit.callS X71 hx (y := (⟨"com/example/policylint/policylint/PolicySyntaxOfPinLaw", "verdict", "(B)Lcom/example/policylint/policylint/PolicySyntax;"⟩ : MethodName)) hown (mvT hZ (hw _ (List.mem_of_getElem? (i := 16) rfl))) (mvT hZ (hw _ (List.mem_of_getElem? (i := 17) rfl))) (mvT hZ (hw _ (List.mem_of_getElem? (i := 3) rfl))) (mvT hZ (hw _ (List.mem_of_getElem? (i := 18) rfl))) (by decide) (backOf (W := 0) (rm4 l Z a0 hw [] (b1_0 p4) w_XACML w_COMPACT h62 n0 (Nat.le_trans (Nat.le_trans (Nat.le_trans (Nat.le_trans (Nat.le_trans (Nat.le_trans (Nat.le_trans (Nat.le_trans Z0 K1q.1) K2q.1) K3q.1) K4q.1) E59.1) (Keep.of_wr W60).1) (Keep.of_wr W61).1) (Keep.of_wr W62).1) (Sta.wr W62 (Sta.wr W61 (Sta.wr W60 ((sta_keep0 (sta_keep0 (sta_keep0 (sta_keep0 S_XACML K1q) K2q) K3q) K4q).ext E59)))) (Sta.wr W62 (Sta.wr W61 (Sta.wr W60 ((sta_keep0 (sta_keep0 (sta_keep0 (sta_keep0 S_COMPACT K1q) K2q) K3q) K4q).ext E59))))) hZ (hw _ (List.mem_of_getElem? (i := 18) rfl)) (hw _ (List.mem_of_getElem? (i := 3) rfl)) (by decide) (by decide)) (g := (mkF m 234 #[.val (.int p1), .val (.int p2), .val (.int p3), .val (.int p4), .val (.int p5), .val (.int ((p5 &&& (2147483647 : Int32)) % (5 : Int32))), .val (.int (b1_0 p1)), .val (.int (b1_0 p2)), .val (.int (b1_0 p3)), .val (.int (b1_0 p4)), .val (.ref o59), .unset, .unset] [(.int (b1_0 p4))])) rfl (by rw [hml]; rfl) (argsL := [(.int (b1_0 p4))]) (rest := []) (lenOf pd_3 rfl) rfl (by show 2 * 0 + _ ≤ _; exact Nat.le_of_eq rfl) (hb hby at_234) (fun _ _ => ⟨rfl, e71, (by decide : 5 + 0 ≤ _), (by decide : 47 + 0 ≤ _)⟩)
                    dsimp only [Pt.U, Pt.locs, Pt.cells, Pt.slots] at X72 l72 y72 z72 st72 hQ72
                    subst l72 y72 z72
                    have X72 : Stand p l e room_1 s m #[(.int p1), (.int p2), (.int p3), (.int p4), (.int p5)] below meth c T72 _ 5 47 := X72
                    obtain ⟨⟨rfl, e72'⟩, N72q⟩ := hQ72
                    have e72 : T72.heap = h62 := e72'
                    have N72 := Fr.app N71 N72q
                    refine go (fun t k => st72 _ k) ?_
                    show Gl _ _ _ _ _ _ _ _ (T72.setTop (mkF m 237 #[.val (.int p1), .val (.int p2), .val (.int p3), .val (.int p4), .val (.int p5), .val (.int ((p5 &&& (2147483647 : Int32)) % (5 : Int32))), .val (.int (b1_0 p1)), .val (.int (b1_0 p2)), .val (.int (b1_0 p3)), .val (.int (b1_0 p4)), .val (.ref o59), .unset, .unset] [(.ref (b4_0 (b1_0 p4) w_XACML w_COMPACT))]))
                    refine go (fun t k => XS.astore X72.here hx rfl (hb hby at_237) rfl rfl (l' := #[.val (.int p1), .val (.int p2), .val (.int p3), .val (.int p4), .val (.int p5), .val (.int ((p5 &&& (2147483647 : Int32)) % (5 : Int32))), .val (.int (b1_0 p1)), .val (.int (b1_0 p2)), .val (.int (b1_0 p3)), .val (.int (b1_0 p4)), .val (.ref o59), .val (.ref (b4_0 (b1_0 p4) w_XACML w_COMPACT)), .unset]) rfl k) ?_
                    show Gl _ _ _ _ _ _ _ _ (T72.setTop (mkF m 239 #[.val (.int p1), .val (.int p2), .val (.int p3), .val (.int p4), .val (.int p5), .val (.int ((p5 &&& (2147483647 : Int32)) % (5 : Int32))), .val (.int (b1_0 p1)), .val (.int (b1_0 p2)), .val (.int (b1_0 p3)), .val (.int (b1_0 p4)), .val (.ref o59), .val (.ref (b4_0 (b1_0 p4) w_XACML w_COMPACT)), .unset] []))
                    refine go (fun t k => XS.goto X72.here hx rfl (pc0 := 239) (pc' := 247) rfl (hb hby at_239) (by decide) (by decide) k) ?_
                    show Gl _ _ _ _ _ _ _ _ (T72.setTop (mkF m 247 #[.val (.int p1), .val (.int p2), .val (.int p3), .val (.int p4), .val (.int p5), .val (.int ((p5 &&& (2147483647 : Int32)) % (5 : Int32))), .val (.int (b1_0 p1)), .val (.int (b1_0 p2)), .val (.int (b1_0 p3)), .val (.int (b1_0 p4)), .val (.ref o59), .val (.ref (b4_0 (b1_0 p4) w_XACML w_COMPACT)), .unset] []))
                    exact J247 (b4_0 (b1_0 p4) w_XACML w_COMPACT) T72 _ X72 e72 N72
                · refine go (fun t k => XS.icmpYes XJ217.here hx rfl (pc0 := 220) (pc' := 242) rfl (hb hby at_220) rfl (flt hc220).2.2.2 (by decide) (by decide) k) ?_
                  show Gl _ _ _ _ _ _ _ _ (TJ217.setTop (mkF m 242 #[.val (.int p1), .val (.int p2), .val (.int p3), .val (.int p4), .val (.int p5), .val (.int ((p5 &&& (2147483647 : Int32)) % (5 : Int32))), .val (.int (b1_0 p1)), .val (.int (b1_0 p2)), .val (.int (b1_0 p3)), .val (.int (b1_0 p4)), .val (.ref o59), .unset, .unset] []))
                  exact J242  TJ217 _ XJ217 eJ217 NJ217
              refine gI (c := (2 : Int32) < ((p5 &&& (2147483647 : Int32)) % (5 : Int32))) (fun hc195 => ?_) (fun hc195 => ?_)
              · refine go (fun t k => XS.icmpNo XJ192.here hx rfl (hb hby at_195) rfl (tlt hc195).2.2.2 k) ?_
                show Gl _ _ _ _ _ _ _ _ (TJ192.setTop (mkF m 198 #[.val (.int p1), .val (.int p2), .val (.int p3), .val (.int p4), .val (.int p5), .val (.int ((p5 &&& (2147483647 : Int32)) % (5 : Int32))), .val (.int (b1_0 p1)), .val (.int (b1_0 p2)), .val (.int (b1_0 p3)), .val (.int (b1_0 p4)), .val (.ref o59), .unset, .unset] []))
                refine go (fun t k => XS.iload XJ192.here hx rfl (hb hby at_198) rfl  k) ?_
                show Gl _ _ _ _ _ _ _ _ (TJ192.setTop (mkF m 200 #[.val (.int p1), .val (.int p2), .val (.int p3), .val (.int p4), .val (.int p5), .val (.int ((p5 &&& (2147483647 : Int32)) % (5 : Int32))), .val (.int (b1_0 p1)), .val (.int (b1_0 p2)), .val (.int (b1_0 p3)), .val (.int (b1_0 p4)), .val (.ref o59), .unset, .unset] [(.int (b1_0 p3))]))
                obtain ⟨_, _, ⟨T73, L73, k73, n73⟩, -, X73, ⟨Lc73, hQ73, l73, y73, z73⟩, st73⟩ := Jvm.LawKit.callS XJ192 hx (y := (⟨"com/example/policylint/policylint/PolicySyntaxOfPinLaw", "cls", "(B)I"⟩ : MethodName)) hown (mvT hZ (hw _ (List.mem_of_getElem? (i := 13) rfl))) (mvT hZ (hw _ (List.mem_of_getElem? (i := 14) rfl))) (mvT hZ (hw _ (List.mem_of_getElem? (i := 3) rfl))) (mvT hZ (hw _ (List.mem_of_getElem? (i := 15) rfl))) (by decide) (backOf (W := 0) (rm3 l Z a0 hw [] (b1_0 p3) h62 n0 (Nat.le_trans (Nat.le_trans (Nat.le_trans (Nat.le_trans (Nat.le_trans (Nat.le_trans (Nat.le_trans (Nat.le_trans Z0 K1q.1) K2q.1) K3q.1) K4q.1) E59.1) (Keep.of_wr W60).1) (Keep.of_wr W61).1) (Keep.of_wr W62).1) ) hZ (hw _ (List.mem_of_getElem? (i := 15) rfl)) (hw _ (List.mem_of_getElem? (i := 3) rfl)) (by decide) (by decide)) (g := (mkF m 200 #[.val (.int p1), .val (.int p2), .val (.int p3), .val (.int p4), .val (.int p5), .val (.int ((p5 &&& (2147483647 : Int32)) % (5 : Int32))), .val (.int (b1_0 p1)), .val (.int (b1_0 p2)), .val (.int (b1_0 p3)), .val (.int (b1_0 p4)), .val (.ref o59), .unset, .unset] [(.int (b1_0 p3))])) rfl (by rw [hml]; rfl) (argsL := [(.int (b1_0 p3))]) (rest := []) (lenOf pd_0 rfl) rfl (by show 2 * 0 + _ ≤ _; exact Nat.le_of_eq rfl) (hb hby at_200) (fun _ _ => ⟨rfl, eJ192, (by decide : 5 + 0 ≤ _), (by decide : 47 + 0 ≤ _)⟩)
                dsimp only [Pt.U, Pt.locs, Pt.cells, Pt.slots] at X73 l73 y73 z73 st73 hQ73
                subst l73 y73 z73
                have X73 : Stand p l e room_1 s m #[(.int p1), (.int p2), (.int p3), (.int p4), (.int p5)] below meth c T73 _ 5 47 := X73
                obtain ⟨⟨rfl, e73'⟩, N73q⟩ := hQ73
                have e73 : T73.heap = h62 := e73'
                have N73 := Fr.app NJ192 N73q
                refine go (fun t k => st73 _ k) ?_
                show Gl _ _ _ _ _ _ _ _ (T73.setTop (mkF m 203 #[.val (.int p1), .val (.int p2), .val (.int p3), .val (.int p4), .val (.int p5), .val (.int ((p5 &&& (2147483647 : Int32)) % (5 : Int32))), .val (.int (b1_0 p1)), .val (.int (b1_0 p2)), .val (.int (b1_0 p3)), .val (.int (b1_0 p4)), .val (.ref o59), .unset, .unset] [(.int (b3_0 (b1_0 p3)))]))
                refine go (fun t k => XS.iconst X73.here hx rfl (hb hby at_203) k) ?_
                show Gl _ _ _ _ _ _ _ _ (T73.setTop (mkF m 204 #[.val (.int p1), .val (.int p2), .val (.int p3), .val (.int p4), .val (.int p5), .val (.int ((p5 &&& (2147483647 : Int32)) % (5 : Int32))), .val (.int (b1_0 p1)), .val (.int (b1_0 p2)), .val (.int (b1_0 p3)), .val (.int (b1_0 p4)), .val (.ref o59), .unset, .unset] [(.int (1 : Int32)), (.int (b3_0 (b1_0 p3)))]))
                refine gI (c := (b3_0 (b1_0 p3)) = (1 : Int32)) (fun hc204 => ?_) (fun hc204 => ?_)
                · refine go (fun t k => XS.icmpYes X73.here hx rfl (pc0 := 204) (pc' := 217) rfl (hb hby at_204) rfl (teq hc204).1 (by decide) (by decide) k) ?_
                  show Gl _ _ _ _ _ _ _ _ (T73.setTop (mkF m 217 #[.val (.int p1), .val (.int p2), .val (.int p3), .val (.int p4), .val (.int p5), .val (.int ((p5 &&& (2147483647 : Int32)) % (5 : Int32))), .val (.int (b1_0 p1)), .val (.int (b1_0 p2)), .val (.int (b1_0 p3)), .val (.int (b1_0 p4)), .val (.ref o59), .unset, .unset] []))
                  exact J217  T73 _ X73 e73 N73
                · refine go (fun t k => XS.icmpNo X73.here hx rfl (hb hby at_204) rfl (feq hc204).1 k) ?_
                  show Gl _ _ _ _ _ _ _ _ (T73.setTop (mkF m 207 #[.val (.int p1), .val (.int p2), .val (.int p3), .val (.int p4), .val (.int p5), .val (.int ((p5 &&& (2147483647 : Int32)) % (5 : Int32))), .val (.int (b1_0 p1)), .val (.int (b1_0 p2)), .val (.int (b1_0 p3)), .val (.int (b1_0 p4)), .val (.ref o59), .unset, .unset] []))
                  refine go (fun t k => XS.iload X73.here hx rfl (hb hby at_207) rfl  k) ?_
                  show Gl _ _ _ _ _ _ _ _ (T73.setTop (mkF m 209 #[.val (.int p1), .val (.int p2), .val (.int p3), .val (.int p4), .val (.int p5), .val (.int ((p5 &&& (2147483647 : Int32)) % (5 : Int32))), .val (.int (b1_0 p1)), .val (.int (b1_0 p2)), .val (.int (b1_0 p3)), .val (.int (b1_0 p4)), .val (.ref o59), .unset, .unset] [(.int (b1_0 p3))]))
                  obtain ⟨_, _, ⟨T74, L74, k74, n74⟩, -, X74, ⟨Lc74, hQ74, l74, y74, z74⟩, st74⟩ := Jvm.LawKit.callS X73 hx (y := (⟨"com/example/policylint/policylint/PolicySyntaxOfPinLaw", "verdict", "(B)Lcom/example/policylint/policylint/PolicySyntax;"⟩ : MethodName)) hown (mvT hZ (hw _ (List.mem_of_getElem? (i := 16) rfl))) (mvT hZ (hw _ (List.mem_of_getElem? (i := 17) rfl))) (mvT hZ (hw _ (List.mem_of_getElem? (i := 3) rfl))) (mvT hZ (hw _ (List.mem_of_getElem? (i := 18) rfl))) (by decide) (backOf (W := 0) (rm4 l Z a0 hw [] (b1_0 p3) w_XACML w_COMPACT h62 n0 (Nat.le_trans (Nat.le_trans (Nat.le_trans (Nat.le_trans (Nat.le_trans (Nat.le_trans (Nat.le_trans (Nat.le_trans Z0 K1q.1) K2q.1) K3q.1) K4q.1) E59.1) (Keep.of_wr W60).1) (Keep.of_wr W61).1) (Keep.of_wr W62).1) (Sta.wr W62 (Sta.wr W61 (Sta.wr W60 ((sta_keep0 (sta_keep0 (sta_keep0 (sta_keep0 S_XACML K1q) K2q) K3q) K4q).ext E59)))) (Sta.wr W62 (Sta.wr W61 (Sta.wr W60 ((sta_keep0 (sta_keep0 (sta_keep0 (sta_keep0 S_COMPACT K1q) K2q) K3q) K4q).ext E59))))) hZ (hw _ (List.mem_of_getElem? (i := 18) rfl)) (hw _ (List.mem_of_getElem? (i := 3) rfl)) (by decide) (by decide)) (g := (mkF m 209 #[.val (.int p1), .val (.int p2), .val (.int p3), .val (.int p4), .val (.int p5), .val (.int ((p5 &&& (2147483647 : Int32)) % (5 : Int32))), .val (.int (b1_0 p1)), .val (.int (b1_0 p2)), .val (.int (b1_0 p3)), .val (.int (b1_0 p4)), .val (.ref o59), .unset, .unset] [(.int (b1_0 p3))])) rfl (by rw [hml]; rfl) (argsL := [(.int (b1_0 p3))]) (rest := []) (lenOf pd_3 rfl) rfl (by show 2 * 0 + _ ≤ _; exact Nat.le_of_eq rfl) (hb hby at_209) (fun _ _ => ⟨rfl, e73, (by decide : 5 + 0 ≤ _), (by decide : 47 + 0 ≤ _)⟩)
                  dsimp only [Pt.U, Pt.locs, Pt.cells, Pt.slots] at X74 l74 y74 z74 st74 hQ74
                  subst l74 y74 z74
                  have X74 : Stand p l e room_1 s m #[(.int p1), (.int p2), (.int p3), (.int p4), (.int p5)] below meth c T74 _ 5 47 := X74
                  obtain ⟨⟨rfl, e74'⟩, N74q⟩ := hQ74
                  have e74 : T74.heap = h62 := e74'
                  have N74 := Fr.app N73 N74q
                  refine go (fun t k => st74 _ k) ?_
                  show Gl _ _ _ _ _ _ _ _ (T74.setTop (mkF m 212 #[.val (.int p1), .val (.int p2), .val (.int p3), .val (.int p4), .val (.int p5), .val (.int ((p5 &&& (2147483647 : Int32)) % (5 : Int32))), .val (.int (b1_0 p1)), .val (.int (b1_0 p2)), .val (.int (b1_0 p3)), .val (.int (b1_0 p4)), .val (.ref o59), .unset, .unset] [(.ref (b4_0 (b1_0 p3) w_XACML w_COMPACT))]))
                  refine go (fun t k => XS.astore X74.here hx rfl (hb hby at_212) rfl rfl (l' := #[.val (.int p1), .val (.int p2), .val (.int p3), .val (.int p4), .val (.int p5), .val (.int ((p5 &&& (2147483647 : Int32)) % (5 : Int32))), .val (.int (b1_0 p1)), .val (.int (b1_0 p2)), .val (.int (b1_0 p3)), .val (.int (b1_0 p4)), .val (.ref o59), .val (.ref (b4_0 (b1_0 p3) w_XACML w_COMPACT)), .unset]) rfl k) ?_
                  show Gl _ _ _ _ _ _ _ _ (T74.setTop (mkF m 214 #[.val (.int p1), .val (.int p2), .val (.int p3), .val (.int p4), .val (.int p5), .val (.int ((p5 &&& (2147483647 : Int32)) % (5 : Int32))), .val (.int (b1_0 p1)), .val (.int (b1_0 p2)), .val (.int (b1_0 p3)), .val (.int (b1_0 p4)), .val (.ref o59), .val (.ref (b4_0 (b1_0 p3) w_XACML w_COMPACT)), .unset] []))
                  refine go (fun t k => XS.goto X74.here hx rfl (pc0 := 214) (pc' := 247) rfl (hb hby at_214) (by decide) (by decide) k) ?_
                  show Gl _ _ _ _ _ _ _ _ (T74.setTop (mkF m 247 #[.val (.int p1), .val (.int p2), .val (.int p3), .val (.int p4), .val (.int p5), .val (.int ((p5 &&& (2147483647 : Int32)) % (5 : Int32))), .val (.int (b1_0 p1)), .val (.int (b1_0 p2)), .val (.int (b1_0 p3)), .val (.int (b1_0 p4)), .val (.ref o59), .val (.ref (b4_0 (b1_0 p3) w_XACML w_COMPACT)), .unset] []))
                  exact J247 (b4_0 (b1_0 p3) w_XACML w_COMPACT) T74 _ X74 e74 N74
              · refine go (fun t k => XS.icmpYes XJ192.here hx rfl (pc0 := 195) (pc' := 217) rfl (hb hby at_195) rfl (flt hc195).2.2.2 (by decide) (by decide) k) ?_
                show Gl _ _ _ _ _ _ _ _ (TJ192.setTop (mkF m 217 #[.val (.int p1), .val (.int p2), .val (.int p3), .val (.int p4), .val (.int p5), .val (.int ((p5 &&& (2147483647 : Int32)) % (5 : Int32))), .val (.int (b1_0 p1)), .val (.int (b1_0 p2)), .val (.int (b1_0 p3)), .val (.int (b1_0 p4)), .val (.ref o59), .unset, .unset] []))
                exact J217  TJ192 _ XJ192 eJ192 NJ192
            refine gI (c := (1 : Int32) < ((p5 &&& (2147483647 : Int32)) % (5 : Int32))) (fun hc170 => ?_) (fun hc170 => ?_)
            · refine go (fun t k => XS.icmpNo XJ167.here hx rfl (hb hby at_170) rfl (tlt hc170).2.2.2 k) ?_
              show Gl _ _ _ _ _ _ _ _ (TJ167.setTop (mkF m 173 #[.val (.int p1), .val (.int p2), .val (.int p3), .val (.int p4), .val (.int p5), .val (.int ((p5 &&& (2147483647 : Int32)) % (5 : Int32))), .val (.int (b1_0 p1)), .val (.int (b1_0 p2)), .val (.int (b1_0 p3)), .val (.int (b1_0 p4)), .val (.ref o59), .unset, .unset] []))
              refine go (fun t k => XS.iload XJ167.here hx rfl (hb hby at_173) rfl  k) ?_
              show Gl _ _ _ _ _ _ _ _ (TJ167.setTop (mkF m 175 #[.val (.int p1), .val (.int p2), .val (.int p3), .val (.int p4), .val (.int p5), .val (.int ((p5 &&& (2147483647 : Int32)) % (5 : Int32))), .val (.int (b1_0 p1)), .val (.int (b1_0 p2)), .val (.int (b1_0 p3)), .val (.int (b1_0 p4)), .val (.ref o59), .unset, .unset] [(.int (b1_0 p2))]))
              obtain ⟨_, _, ⟨T75, L75, k75, n75⟩, -, X75, ⟨Lc75, hQ75, l75, y75, z75⟩, st75⟩ := Jvm.LawKit.callS XJ167 hx (y := (⟨"com/example/policylint/policylint/PolicySyntaxOfPinLaw", "cls", "(B)I"⟩ : MethodName)) hown (mvT hZ (hw _ (List.mem_of_getElem? (i := 13) rfl))) (mvT hZ (hw _ (List.mem_of_getElem? (i := 14) rfl))) (mvT hZ (hw _ (List.mem_of_getElem? (i := 3) rfl))) (mvT hZ (hw _ (List.mem_of_getElem? (i := 15) rfl))) (by decide) (backOf (W := 0) (rm3 l Z a0 hw [] (b1_0 p2) h62 n0 (Nat.le_trans (Nat.le_trans (Nat.le_trans (Nat.le_trans (Nat.le_trans (Nat.le_trans (Nat.le_trans (Nat.le_trans Z0 K1q.1) K2q.1) K3q.1) K4q.1) E59.1) (Keep.of_wr W60).1) (Keep.of_wr W61).1) (Keep.of_wr W62).1) ) hZ (hw _ (List.mem_of_getElem? (i := 15) rfl)) (hw _ (List.mem_of_getElem? (i := 3) rfl)) (by decide) (by decide)) (g := (mkF m 175 #[.val (.int p1), .val (.int p2), .val (.int p3), .val (.int p4), .val (.int p5), .val (.int ((p5 &&& (2147483647 : Int32)) % (5 : Int32))), .val (.int (b1_0 p1)), .val (.int (b1_0 p2)), .val (.int (b1_0 p3)), .val (.int (b1_0 p4)), .val (.ref o59), .unset, .unset] [(.int (b1_0 p2))])) rfl (by rw [hml]; rfl) (argsL := [(.int (b1_0 p2))]) (rest := []) (lenOf pd_0 rfl) rfl (by show 2 * 0 + _ ≤ _; exact Nat.le_of_eq rfl) (hb hby at_175) (fun _ _ => ⟨rfl, eJ167, (by decide : 5 + 0 ≤ _), (by decide : 47 + 0 ≤ _)⟩)
              dsimp only [Pt.U, Pt.locs, Pt.cells, Pt.slots] at X75 l75 y75 z75 st75 hQ75
              subst l75 y75 z75
              have X75 : Stand p l e room_1 s m #[(.int p1), (.int p2), (.int p3), (.int p4), (.int p5)] below meth c T75 _ 5 47 := X75
              obtain ⟨⟨rfl, e75'⟩, N75q⟩ := hQ75
              have e75 : T75.heap = h62 := e75'
              have N75 := Fr.app NJ167 N75q
              refine go (fun t k => st75 _ k) ?_
              show Gl _ _ _ _ _ _ _ _ (T75.setTop (mkF m 178 #[.val (.int p1), .val (.int p2), .val (.int p3), .val (.int p4), .val (.int p5), .val (.int ((p5 &&& (2147483647 : Int32)) % (5 : Int32))), .val (.int (b1_0 p1)), .val (.int (b1_0 p2)), .val (.int (b1_0 p3)), .val (.int (b1_0 p4)), .val (.ref o59), .unset, .unset] [(.int (b3_0 (b1_0 p2)))]))
              refine go (fun t k => XS.iconst X75.here hx rfl (hb hby at_178) k) ?_
              show Gl _ _ _ _ _ _ _ _ (T75.setTop (mkF m 179 #[.val (.int p1), .val (.int p2), .val (.int p3), .val (.int p4), .val (.int p5), .val (.int ((p5 &&& (2147483647 : Int32)) % (5 : Int32))), .val (.int (b1_0 p1)), .val (.int (b1_0 p2)), .val (.int (b1_0 p3)), .val (.int (b1_0 p4)), .val (.ref o59), .unset, .unset] [(.int (1 : Int32)), (.int (b3_0 (b1_0 p2)))]))
              refine gI (c := (b3_0 (b1_0 p2)) = (1 : Int32)) (fun hc179 => ?_) (fun hc179 => ?_)
              · refine go (fun t k => XS.icmpYes X75.here hx rfl (pc0 := 179) (pc' := 192) rfl (hb hby at_179) rfl (teq hc179).1 (by decide) (by decide) k) ?_
                show Gl _ _ _ _ _ _ _ _ (T75.setTop (mkF m 192 #[.val (.int p1), .val (.int p2), .val (.int p3), .val (.int p4), .val (.int p5), .val (.int ((p5 &&& (2147483647 : Int32)) % (5 : Int32))), .val (.int (b1_0 p1)), .val (.int (b1_0 p2)), .val (.int (b1_0 p3)), .val (.int (b1_0 p4)), .val (.ref o59), .unset, .unset] []))
                exact J192  T75 _ X75 e75 N75
              · refine go (fun t k => XS.icmpNo X75.here hx rfl (hb hby at_179) rfl (feq hc179).1 k) ?_
                show Gl _ _ _ _ _ _ _ _ (T75.setTop (mkF m 182 #[.val (.int p1), .val (.int p2), .val (.int p3), .val (.int p4), .val (.int p5), .val (.int ((p5 &&& (2147483647 : Int32)) % (5 : Int32))), .val (.int (b1_0 p1)), .val (.int (b1_0 p2)), .val (.int (b1_0 p3)), .val (.int (b1_0 p4)), .val (.ref o59), .unset, .unset] []))
                refine go (fun t k => XS.iload X75.here hx rfl (hb hby at_182) rfl  k) ?_
                show Gl _ _ _ _ _ _ _ _ (T75.setTop (mkF m 184 #[.val (.int p1), .val (.int p2), .val (.int p3), .val (.int p4), .val (.int p5), .val (.int ((p5 &&& (2147483647 : Int32)) % (5 : Int32))), .val (.int (b1_0 p1)), .val (.int (b1_0 p2)), .val (.int (b1_0 p3)), .val (.int (b1_0 p4)), .val (.ref o59), .unset, .unset] [(.int (b1_0 p2))]))
                obtain ⟨_, _, ⟨T76, L76, k76, n76⟩, -, X76, ⟨Lc76, hQ76, l76, y76, z76⟩, st76⟩ := Jvm.LawKit.callS X75 hx (y := (⟨"com/example/policylint/policylint/PolicySyntaxOfPinLaw", "verdict", "(B)Lcom/example/policylint/policylint/PolicySyntax;"⟩ : MethodName)) hown (mvT hZ (hw _ (List.mem_of_getElem? (i := 16) rfl))) (mvT hZ (hw _ (List.mem_of_getElem? (i := 17) rfl))) (mvT hZ (hw _ (List.mem_of_getElem? (i := 3) rfl))) (mvT hZ (hw _ (List.mem_of_getElem? (i := 18) rfl))) (by decide) (backOf (W := 0) (rm4 l Z a0 hw [] (b1_0 p2) w_XACML w_COMPACT h62 n0 (Nat.le_trans (Nat.le_trans (Nat.le_trans (Nat.le_trans (Nat.le_trans (Nat.le_trans (Nat.le_trans (Nat.le_trans Z0 K1q.1) K2q.1) K3q.1) K4q.1) E59.1) (Keep.of_wr W60).1) (Keep.of_wr W61).1) (Keep.of_wr W62).1) (Sta.wr W62 (Sta.wr W61 (Sta.wr W60 ((sta_keep0 (sta_keep0 (sta_keep0 (sta_keep0 S_XACML K1q) K2q) K3q) K4q).ext E59)))) (Sta.wr W62 (Sta.wr W61 (Sta.wr W60 ((sta_keep0 (sta_keep0 (sta_keep0 (sta_keep0 S_COMPACT K1q) K2q) K3q) K4q).ext E59))))) hZ (hw _ (List.mem_of_getElem? (i := 18) rfl)) (hw _ (List.mem_of_getElem? (i := 3) rfl)) (by decide) (by decide)) (g := (mkF m 184 #[.val (.int p1), .val (.int p2), .val (.int p3), .val (.int p4), .val (.int p5), .val (.int ((p5 &&& (2147483647 : Int32)) % (5 : Int32))), .val (.int (b1_0 p1)), .val (.int (b1_0 p2)), .val (.int (b1_0 p3)), .val (.int (b1_0 p4)), .val (.ref o59), .unset, .unset] [(.int (b1_0 p2))])) rfl (by rw [hml]; rfl) (argsL := [(.int (b1_0 p2))]) (rest := []) (lenOf pd_3 rfl) rfl (by show 2 * 0 + _ ≤ _; exact Nat.le_of_eq rfl) (hb hby at_184) (fun _ _ => ⟨rfl, e75, (by decide : 5 + 0 ≤ _), (by decide : 47 + 0 ≤ _)⟩)
                dsimp only [Pt.U, Pt.locs, Pt.cells, Pt.slots] at X76 l76 y76 z76 st76 hQ76
                subst l76 y76 z76
                have X76 : Stand p l e room_1 s m #[(.int p1), (.int p2), (.int p3), (.int p4), (.int p5)] below meth c T76 _ 5 47 := X76
                obtain ⟨⟨rfl, e76'⟩, N76q⟩ := hQ76
                have e76 : T76.heap = h62 := e76'
                have N76 := Fr.app N75 N76q
                refine go (fun t k => st76 _ k) ?_
                show Gl _ _ _ _ _ _ _ _ (T76.setTop (mkF m 187 #[.val (.int p1), .val (.int p2), .val (.int p3), .val (.int p4), .val (.int p5), .val (.int ((p5 &&& (2147483647 : Int32)) % (5 : Int32))), .val (.int (b1_0 p1)), .val (.int (b1_0 p2)), .val (.int (b1_0 p3)), .val (.int (b1_0 p4)), .val (.ref o59), .unset, .unset] [(.ref (b4_0 (b1_0 p2) w_XACML w_COMPACT))]))
                refine go (fun t k => XS.astore X76.here hx rfl (hb hby at_187) rfl rfl (l' := #[.val (.int p1), .val (.int p2), .val (.int p3), .val (.int p4), .val (.int p5), .val (.int ((p5 &&& (2147483647 : Int32)) % (5 : Int32))), .val (.int (b1_0 p1)), .val (.int (b1_0 p2)), .val (.int (b1_0 p3)), .val (.int (b1_0 p4)), .val (.ref o59), .val (.ref (b4_0 (b1_0 p2) w_XACML w_COMPACT)), .unset]) rfl k) ?_
                show Gl _ _ _ _ _ _ _ _ (T76.setTop (mkF m 189 #[.val (.int p1), .val (.int p2), .val (.int p3), .val (.int p4), .val (.int p5), .val (.int ((p5 &&& (2147483647 : Int32)) % (5 : Int32))), .val (.int (b1_0 p1)), .val (.int (b1_0 p2)), .val (.int (b1_0 p3)), .val (.int (b1_0 p4)), .val (.ref o59), .val (.ref (b4_0 (b1_0 p2) w_XACML w_COMPACT)), .unset] []))
                refine go (fun t k => XS.goto X76.here hx rfl (pc0 := 189) (pc' := 247) rfl (hb hby at_189) (by decide) (by decide) k) ?_
                show Gl _ _ _ _ _ _ _ _ (T76.setTop (mkF m 247 #[.val (.int p1), .val (.int p2), .val (.int p3), .val (.int p4), .val (.int p5), .val (.int ((p5 &&& (2147483647 : Int32)) % (5 : Int32))), .val (.int (b1_0 p1)), .val (.int (b1_0 p2)), .val (.int (b1_0 p3)), .val (.int (b1_0 p4)), .val (.ref o59), .val (.ref (b4_0 (b1_0 p2) w_XACML w_COMPACT)), .unset] []))
                exact J247 (b4_0 (b1_0 p2) w_XACML w_COMPACT) T76 _ X76 e76 N76
            · refine go (fun t k => XS.icmpYes XJ167.here hx rfl (pc0 := 170) (pc' := 192) rfl (hb hby at_170) rfl (flt hc170).2.2.2 (by decide) (by decide) k) ?_
              show Gl _ _ _ _ _ _ _ _ (TJ167.setTop (mkF m 192 #[.val (.int p1), .val (.int p2), .val (.int p3), .val (.int p4), .val (.int p5), .val (.int ((p5 &&& (2147483647 : Int32)) % (5 : Int32))), .val (.int (b1_0 p1)), .val (.int (b1_0 p2)), .val (.int (b1_0 p3)), .val (.int (b1_0 p4)), .val (.ref o59), .unset, .unset] []))
              exact J192  TJ167 _ XJ167 eJ167 NJ167
          refine gI (c := (0 : Int32) < ((p5 &&& (2147483647 : Int32)) % (5 : Int32))) (fun hc145 => ?_) (fun hc145 => ?_)
          · refine go (fun t k => XS.ifNo X62.here hx rfl (hb hby at_145) rfl ((if0 _ _).trans (tlt hc145).2.2.2) k) ?_
            show Gl _ _ _ _ _ _ _ _ (T62.setTop (mkF m 148 #[.val (.int p1), .val (.int p2), .val (.int p3), .val (.int p4), .val (.int p5), .val (.int ((p5 &&& (2147483647 : Int32)) % (5 : Int32))), .val (.int (b1_0 p1)), .val (.int (b1_0 p2)), .val (.int (b1_0 p3)), .val (.int (b1_0 p4)), .val (.ref o59), .unset, .unset] []))
            refine go (fun t k => XS.iload X62.here hx rfl (hb hby at_148) rfl  k) ?_
            show Gl _ _ _ _ _ _ _ _ (T62.setTop (mkF m 150 #[.val (.int p1), .val (.int p2), .val (.int p3), .val (.int p4), .val (.int p5), .val (.int ((p5 &&& (2147483647 : Int32)) % (5 : Int32))), .val (.int (b1_0 p1)), .val (.int (b1_0 p2)), .val (.int (b1_0 p3)), .val (.int (b1_0 p4)), .val (.ref o59), .unset, .unset] [(.int (b1_0 p1))]))
            obtain ⟨_, _, ⟨T77, L77, k77, n77⟩, -, X77, ⟨Lc77, hQ77, l77, y77, z77⟩, st77⟩ := Jvm.LawKit.callS X62 hx (y := (⟨"com/example/policylint/policylint/PolicySyntaxOfPinLaw", "cls", "(B)I"⟩ : MethodName)) hown (mvT hZ (hw _ (List.mem_of_getElem? (i := 13) rfl))) (mvT hZ (hw _ (List.mem_of_getElem? (i := 14) rfl))) (mvT hZ (hw _ (List.mem_of_getElem? (i := 3) rfl))) (mvT hZ (hw _ (List.mem_of_getElem? (i := 15) rfl))) (by decide) (backOf (W := 0) (rm3 l Z a0 hw [] (b1_0 p1) h62 n0 (Nat.le_trans (Nat.le_trans (Nat.le_trans (Nat.le_trans (Nat.le_trans (Nat.le_trans (Nat.le_trans (Nat.le_trans Z0 K1q.1) K2q.1) K3q.1) K4q.1) E59.1) (Keep.of_wr W60).1) (Keep.of_wr W61).1) (Keep.of_wr W62).1) ) hZ (hw _ (List.mem_of_getElem? (i := 15) rfl)) (hw _ (List.mem_of_getElem? (i := 3) rfl)) (by decide) (by decide)) (g := (mkF m 150 #[.val (.int p1), .val (.int p2), .val (.int p3), .val (.int p4), .val (.int p5), .val (.int ((p5 &&& (2147483647 : Int32)) % (5 : Int32))), .val (.int (b1_0 p1)), .val (.int (b1_0 p2)), .val (.int (b1_0 p3)), .val (.int (b1_0 p4)), .val (.ref o59), .unset, .unset] [(.int (b1_0 p1))])) rfl (by rw [hml]; rfl) (argsL := [(.int (b1_0 p1))]) (rest := []) (lenOf pd_0 rfl) rfl (by show 2 * 0 + _ ≤ _; exact Nat.le_of_eq rfl) (hb hby at_150) (fun _ _ => ⟨rfl, e62, (by decide : 5 + 0 ≤ _), (by decide : 47 + 0 ≤ _)⟩)
            dsimp only [Pt.U, Pt.locs, Pt.cells, Pt.slots] at X77 l77 y77 z77 st77 hQ77
            subst l77 y77 z77
            have X77 : Stand p l e room_1 s m #[(.int p1), (.int p2), (.int p3), (.int p4), (.int p5)] below meth c T77 _ 5 47 := X77
            obtain ⟨⟨rfl, e77'⟩, N77q⟩ := hQ77
            have e77 : T77.heap = h62 := e77'
            have N77 := Fr.app N62 N77q
            refine go (fun t k => st77 _ k) ?_
            show Gl _ _ _ _ _ _ _ _ (T77.setTop (mkF m 153 #[.val (.int p1), .val (.int p2), .val (.int p3), .val (.int p4), .val (.int p5), .val (.int ((p5 &&& (2147483647 : Int32)) % (5 : Int32))), .val (.int (b1_0 p1)), .val (.int (b1_0 p2)), .val (.int (b1_0 p3)), .val (.int (b1_0 p4)), .val (.ref o59), .unset, .unset] [(.int (b3_0 (b1_0 p1)))]))
            refine go (fun t k => XS.iconst X77.here hx rfl (hb hby at_153) k) ?_
            show Gl _ _ _ _ _ _ _ _ (T77.setTop (mkF m 154 #[.val (.int p1), .val (.int p2), .val (.int p3), .val (.int p4), .val (.int p5), .val (.int ((p5 &&& (2147483647 : Int32)) % (5 : Int32))), .val (.int (b1_0 p1)), .val (.int (b1_0 p2)), .val (.int (b1_0 p3)), .val (.int (b1_0 p4)), .val (.ref o59), .unset, .unset] [(.int (1 : Int32)), (.int (b3_0 (b1_0 p1)))]))
            refine gI (c := (b3_0 (b1_0 p1)) = (1 : Int32)) (fun hc154 => ?_) (fun hc154 => ?_)
            · refine go (fun t k => XS.icmpYes X77.here hx rfl (pc0 := 154) (pc' := 167) rfl (hb hby at_154) rfl (teq hc154).1 (by decide) (by decide) k) ?_
              show Gl _ _ _ _ _ _ _ _ (T77.setTop (mkF m 167 #[.val (.int p1), .val (.int p2), .val (.int p3), .val (.int p4), .val (.int p5), .val (.int ((p5 &&& (2147483647 : Int32)) % (5 : Int32))), .val (.int (b1_0 p1)), .val (.int (b1_0 p2)), .val (.int (b1_0 p3)), .val (.int (b1_0 p4)), .val (.ref o59), .unset, .unset] []))
              exact J167  T77 _ X77 e77 N77
            · refine go (fun t k => XS.icmpNo X77.here hx rfl (hb hby at_154) rfl (feq hc154).1 k) ?_
              show Gl _ _ _ _ _ _ _ _ (T77.setTop (mkF m 157 #[.val (.int p1), .val (.int p2), .val (.int p3), .val (.int p4), .val (.int p5), .val (.int ((p5 &&& (2147483647 : Int32)) % (5 : Int32))), .val (.int (b1_0 p1)), .val (.int (b1_0 p2)), .val (.int (b1_0 p3)), .val (.int (b1_0 p4)), .val (.ref o59), .unset, .unset] []))
              refine go (fun t k => XS.iload X77.here hx rfl (hb hby at_157) rfl  k) ?_
              show Gl _ _ _ _ _ _ _ _ (T77.setTop (mkF m 159 #[.val (.int p1), .val (.int p2), .val (.int p3), .val (.int p4), .val (.int p5), .val (.int ((p5 &&& (2147483647 : Int32)) % (5 : Int32))), .val (.int (b1_0 p1)), .val (.int (b1_0 p2)), .val (.int (b1_0 p3)), .val (.int (b1_0 p4)), .val (.ref o59), .unset, .unset] [(.int (b1_0 p1))]))
              obtain ⟨_, _, ⟨T78, L78, k78, n78⟩, -, X78, ⟨Lc78, hQ78, l78, y78, z78⟩, st78⟩ := Jvm.LawKit.callS X77 hx (y := (⟨"com/example/policylint/policylint/PolicySyntaxOfPinLaw", "verdict", "(B)Lcom/example/policylint/policylint/PolicySyntax;"⟩ : MethodName)) hown (mvT hZ (hw _ (List.mem_of_getElem? (i := 16) rfl))) (mvT hZ (hw _ (List.mem_of_getElem? (i := 17) rfl))) (mvT hZ (hw _ (List.mem_of_getElem? (i := 3) rfl))) (mvT hZ (hw _ (List.mem_of_getElem? (i := 18) rfl))) (by decide) (backOf (W := 0) (rm4 l Z a0 hw [] (b1_0 p1) w_XACML w_COMPACT h62 n0 (Nat.le_trans (Nat.le_trans (Nat.le_trans (Nat.le_trans (Nat.le_trans (Nat.le_trans (Nat.le_trans (Nat.le_trans Z0 K1q.1) K2q.1) K3q.1) K4q.1) E59.1) (Keep.of_wr W60).1) (Keep.of_wr W61).1) (Keep.of_wr W62).1) (Sta.wr W62 (Sta.wr W61 (Sta.wr W60 ((sta_keep0 (sta_keep0 (sta_keep0 (sta_keep0 S_XACML K1q) K2q) K3q) K4q).ext E59)))) (Sta.wr W62 (Sta.wr W61 (Sta.wr W60 ((sta_keep0 (sta_keep0 (sta_keep0 (sta_keep0 S_COMPACT K1q) K2q) K3q) K4q).ext E59))))) hZ (hw _ (List.mem_of_getElem? (i := 18) rfl)) (hw _ (List.mem_of_getElem? (i := 3) rfl)) (by decide) (by decide)) (g := (mkF m 159 #[.val (.int p1), .val (.int p2), .val (.int p3), .val (.int p4), .val (.int p5), .val (.int ((p5 &&& (2147483647 : Int32)) % (5 : Int32))), .val (.int (b1_0 p1)), .val (.int (b1_0 p2)), .val (.int (b1_0 p3)), .val (.int (b1_0 p4)), .val (.ref o59), .unset, .unset] [(.int (b1_0 p1))])) rfl (by rw [hml]; rfl) (argsL := [(.int (b1_0 p1))]) (rest := []) (lenOf pd_3 rfl) rfl (by show 2 * 0 + _ ≤ _; exact Nat.le_of_eq rfl) (hb hby at_159) (fun _ _ => ⟨rfl, e77, (by decide : 5 + 0 ≤ _), (by decide : 47 + 0 ≤ _)⟩)
              dsimp only [Pt.U, Pt.locs, Pt.cells, Pt.slots] at X78 l78 y78 z78 st78 hQ78
              subst l78 y78 z78
              have X78 : Stand p l e room_1 s m #[(.int p1), (.int p2), (.int p3), (.int p4), (.int p5)] below meth c T78 _ 5 47 := X78
              obtain ⟨⟨rfl, e78'⟩, N78q⟩ := hQ78
              have e78 : T78.heap = h62 := e78'
              have N78 := Fr.app N77 N78q
              refine go (fun t k => st78 _ k) ?_
              show Gl _ _ _ _ _ _ _ _ (T78.setTop (mkF m 162 #[.val (.int p1), .val (.int p2), .val (.int p3), .val (.int p4), .val (.int p5), .val (.int ((p5 &&& (2147483647 : Int32)) % (5 : Int32))), .val (.int (b1_0 p1)), .val (.int (b1_0 p2)), .val (.int (b1_0 p3)), .val (.int (b1_0 p4)), .val (.ref o59), .unset, .unset] [(.ref (b4_0 (b1_0 p1) w_XACML w_COMPACT))]))
              refine go (fun t k => XS.astore X78.here hx rfl (hb hby at_162) rfl rfl (l' := #[.val (.int p1), .val (.int p2), .val (.int p3), .val (.int p4), .val (.int p5), .val (.int ((p5 &&& (2147483647 : Int32)) % (5 : Int32))), .val (.int (b1_0 p1)), .val (.int (b1_0 p2)), .val (.int (b1_0 p3)), .val (.int (b1_0 p4)), .val (.ref o59), .val (.ref (b4_0 (b1_0 p1) w_XACML w_COMPACT)), .unset]) rfl k) ?_
              show Gl _ _ _ _ _ _ _ _ (T78.setTop (mkF m 164 #[.val (.int p1), .val (.int p2), .val (.int p3), .val (.int p4), .val (.int p5), .val (.int ((p5 &&& (2147483647 : Int32)) % (5 : Int32))), .val (.int (b1_0 p1)), .val (.int (b1_0 p2)), .val (.int (b1_0 p3)), .val (.int (b1_0 p4)), .val (.ref o59), .val (.ref (b4_0 (b1_0 p1) w_XACML w_COMPACT)), .unset] []))
              refine go (fun t k => XS.goto X78.here hx rfl (pc0 := 164) (pc' := 247) rfl (hb hby at_164) (by decide) (by decide) k) ?_
              show Gl _ _ _ _ _ _ _ _ (T78.setTop (mkF m 247 #[.val (.int p1), .val (.int p2), .val (.int p3), .val (.int p4), .val (.int p5), .val (.int ((p5 &&& (2147483647 : Int32)) % (5 : Int32))), .val (.int (b1_0 p1)), .val (.int (b1_0 p2)), .val (.int (b1_0 p3)), .val (.int (b1_0 p4)), .val (.ref o59), .val (.ref (b4_0 (b1_0 p1) w_XACML w_COMPACT)), .unset] []))
              exact J247 (b4_0 (b1_0 p1) w_XACML w_COMPACT) T78 _ X78 e78 N78
          · refine go (fun t k => XS.ifYes X62.here hx rfl (pc0 := 145) (pc' := 167) rfl (hb hby at_145) rfl ((if0 _ _).trans (flt hc145).2.2.2) (by decide) (by decide) k) ?_
            show Gl _ _ _ _ _ _ _ _ (T62.setTop (mkF m 167 #[.val (.int p1), .val (.int p2), .val (.int p3), .val (.int p4), .val (.int p5), .val (.int ((p5 &&& (2147483647 : Int32)) % (5 : Int32))), .val (.int (b1_0 p1)), .val (.int (b1_0 p2)), .val (.int (b1_0 p3)), .val (.int (b1_0 p4)), .val (.ref o59), .unset, .unset] []))
            exact J167  T62 _ X62 e62 N62
        · refine go (fun t k => XS.icmpYes X4.here hx rfl (pc0 := 92) (pc' := 118) rfl (hb hby at_92) rfl (feq hc92).2 (by decide) (by decide) k) ?_
          show Gl _ _ _ _ _ _ _ _ (T4.setTop (mkF m 118 #[.val (.int p1), .val (.int p2), .val (.int p3), .val (.int p4), .val (.int p5), .val (.int ((p5 &&& (2147483647 : Int32)) % (5 : Int32))), .val (.int (b1_0 p1)), .val (.int (b1_0 p2)), .val (.int (b1_0 p3)), .val (.int (b1_0 p4)), .unset, .unset, .unset] []))
          refine go (fun t k => XS.iconst X4.here hx rfl (hb hby at_118) k) ?_
          show Gl _ _ _ _ _ _ _ _ (T4.setTop (mkF m 119 #[.val (.int p1), .val (.int p2), .val (.int p3), .val (.int p4), .val (.int p5), .val (.int ((p5 &&& (2147483647 : Int32)) % (5 : Int32))), .val (.int (b1_0 p1)), .val (.int (b1_0 p2)), .val (.int (b1_0 p3)), .val (.int (b1_0 p4)), .unset, .unset, .unset] [(.int (4 : Int32))]))
          obtain ⟨T79, h79, k79, X79, e79, E79, A79, st79⟩ := newP X4 hx hZ (hw _ (List.mem_of_getElem? (i := 5) rfl)) e4 (g := (mkF m 119 #[.val (.int p1), .val (.int p2), .val (.int p3), .val (.int p4), .val (.int p5), .val (.int ((p5 &&& (2147483647 : Int32)) % (5 : Int32))), .val (.int (b1_0 p1)), .val (.int (b1_0 p2)), .val (.int (b1_0 p3)), .val (.int (b1_0 p4)), .unset, .unset, .unset] [(.int (4 : Int32))])) rfl (hb hby at_119) rfl (by decide) (cap := 4) (by decide) (by decide) (by decide) (by decide)
          obtain ⟨o79, gq79⟩ : ∃ z, z = h4.size := ⟨_, rfl⟩
          rw [← gq79] at A79 st79
          have g_o79 : n0 ≤ o79 := Nat.le_trans (Nat.le_trans (Nat.le_trans (Nat.le_trans (Nat.le_trans Z0 K1q.1) K2q.1) K3q.1) K4q.1) (Nat.le_of_eq gq79.symm)
          have V_o79 : Arv Z h79 o79 k79 .byte (4 : Int32) [(.int (0 : Int32)), (.int (0 : Int32)), (.int (0 : Int32)), (.int (0 : Int32))] (.int (0 : Int32)) := (Arv.new A79 (by decide)).pad (pad_rep [] (.int (0 : Int32)) 4)
          have K79 : Keep h0 h79 [] := K4.ext E79
          have sz_o79 : h0.size ≤ o79 := Nat.le_trans K4.1 (Nat.le_of_eq gq79.symm)
          refine go (fun t k => st79 _ k) ?_
          show Gl _ _ _ _ _ _ _ _ (T79.setTop (mkF m 121 #[.val (.int p1), .val (.int p2), .val (.int p3), .val (.int p4), .val (.int p5), .val (.int ((p5 &&& (2147483647 : Int32)) % (5 : Int32))), .val (.int (b1_0 p1)), .val (.int (b1_0 p2)), .val (.int (b1_0 p3)), .val (.int (b1_0 p4)), .unset, .unset, .unset] [(.ref o79)]))
          refine go (fun t k => XS.dup X79.here hx rfl (hb hby at_121) rfl rfl k) ?_
          show Gl _ _ _ _ _ _ _ _ (T79.setTop (mkF m 122 #[.val (.int p1), .val (.int p2), .val (.int p3), .val (.int p4), .val (.int p5), .val (.int ((p5 &&& (2147483647 : Int32)) % (5 : Int32))), .val (.int (b1_0 p1)), .val (.int (b1_0 p2)), .val (.int (b1_0 p3)), .val (.int (b1_0 p4)), .unset, .unset, .unset] [(.ref o79), (.ref o79)]))
          refine go (fun t k => XS.iconst X79.here hx rfl (hb hby at_122) k) ?_
          show Gl _ _ _ _ _ _ _ _ (T79.setTop (mkF m 123 #[.val (.int p1), .val (.int p2), .val (.int p3), .val (.int p4), .val (.int p5), .val (.int ((p5 &&& (2147483647 : Int32)) % (5 : Int32))), .val (.int (b1_0 p1)), .val (.int (b1_0 p2)), .val (.int (b1_0 p3)), .val (.int (b1_0 p4)), .unset, .unset, .unset] [(.int (0 : Int32)), (.ref o79), (.ref o79)]))
          refine go (fun t k => XS.iload X79.here hx rfl (hb hby at_123) rfl  k) ?_
          show Gl _ _ _ _ _ _ _ _ (T79.setTop (mkF m 125 #[.val (.int p1), .val (.int p2), .val (.int p3), .val (.int p4), .val (.int p5), .val (.int ((p5 &&& (2147483647 : Int32)) % (5 : Int32))), .val (.int (b1_0 p1)), .val (.int (b1_0 p2)), .val (.int (b1_0 p3)), .val (.int (b1_0 p4)), .unset, .unset, .unset] [(.int (b1_0 p1)), (.int (0 : Int32)), (.ref o79), (.ref o79)]))
          obtain ⟨cl80, Ar80, vq80, S80, M80, Hh80, G80⟩ := id V_o79
          obtain ⟨T80, h80, X80, e80, W80, st80⟩ := stB X79 hx hZ e79 Ar80 (j := (0 : Int32)) (inb_of S80 ⟨by decide, by decide⟩) (g := (mkF m 125 #[.val (.int p1), .val (.int p2), .val (.int p3), .val (.int p4), .val (.int p5), .val (.int ((p5 &&& (2147483647 : Int32)) % (5 : Int32))), .val (.int (b1_0 p1)), .val (.int (b1_0 p2)), .val (.int (b1_0 p3)), .val (.int (b1_0 p4)), .unset, .unset, .unset] [(.int (b1_0 p1)), (.int (0 : Int32)), (.ref o79), (.ref o79)])) rfl rfl (hb hby at_125)
          have V80 : Arv Z h80 o79 k79 .byte (4 : Int32) [(.int (nar .byte (b1_0 p1))), (.int (0 : Int32)), (.int (0 : Int32)), (.int (0 : Int32))] (.int (0 : Int32)) := Arv.set Ar80 vq80 S80 M80 Hh80 G80 (fits_nar_byte _) W80 0 rfl (Nat.le_of_ble_eq_true rfl)
          have K80 : Keep h0 h80 [] := K79.wr W80 (Or.inr sz_o79)
          have N80 := Fr.snoc X80 N4 g_o79
          refine go (fun t k => st80 _ k) ?_
          show Gl _ _ _ _ _ _ _ _ (T80.setTop (mkF m 126 #[.val (.int p1), .val (.int p2), .val (.int p3), .val (.int p4), .val (.int p5), .val (.int ((p5 &&& (2147483647 : Int32)) % (5 : Int32))), .val (.int (b1_0 p1)), .val (.int (b1_0 p2)), .val (.int (b1_0 p3)), .val (.int (b1_0 p4)), .unset, .unset, .unset] [(.ref o79)]))
          refine go (fun t k => XS.dup X80.here hx rfl (hb hby at_126) rfl rfl k) ?_
          show Gl _ _ _ _ _ _ _ _ (T80.setTop (mkF m 127 #[.val (.int p1), .val (.int p2), .val (.int p3), .val (.int p4), .val (.int p5), .val (.int ((p5 &&& (2147483647 : Int32)) % (5 : Int32))), .val (.int (b1_0 p1)), .val (.int (b1_0 p2)), .val (.int (b1_0 p3)), .val (.int (b1_0 p4)), .unset, .unset, .unset] [(.ref o79), (.ref o79)]))
          refine go (fun t k => XS.iconst X80.here hx rfl (hb hby at_127) k) ?_
          show Gl _ _ _ _ _ _ _ _ (T80.setTop (mkF m 128 #[.val (.int p1), .val (.int p2), .val (.int p3), .val (.int p4), .val (.int p5), .val (.int ((p5 &&& (2147483647 : Int32)) % (5 : Int32))), .val (.int (b1_0 p1)), .val (.int (b1_0 p2)), .val (.int (b1_0 p3)), .val (.int (b1_0 p4)), .unset, .unset, .unset] [(.int (1 : Int32)), (.ref o79), (.ref o79)]))
          refine go (fun t k => XS.iload X80.here hx rfl (hb hby at_128) rfl  k) ?_
          show Gl _ _ _ _ _ _ _ _ (T80.setTop (mkF m 130 #[.val (.int p1), .val (.int p2), .val (.int p3), .val (.int p4), .val (.int p5), .val (.int ((p5 &&& (2147483647 : Int32)) % (5 : Int32))), .val (.int (b1_0 p1)), .val (.int (b1_0 p2)), .val (.int (b1_0 p3)), .val (.int (b1_0 p4)), .unset, .unset, .unset] [(.int (b1_0 p2)), (.int (1 : Int32)), (.ref o79), (.ref o79)]))
          obtain ⟨cl81, Ar81, vq81, S81, M81, Hh81, G81⟩ := id V80
          obtain ⟨T81, h81, X81, e81, W81, st81⟩ := stB X80 hx hZ e80 Ar81 (j := (1 : Int32)) (inb_of S81 ⟨by decide, by decide⟩) (g := (mkF m 130 #[.val (.int p1), .val (.int p2), .val (.int p3), .val (.int p4), .val (.int p5), .val (.int ((p5 &&& (2147483647 : Int32)) % (5 : Int32))), .val (.int (b1_0 p1)), .val (.int (b1_0 p2)), .val (.int (b1_0 p3)), .val (.int (b1_0 p4)), .unset, .unset, .unset] [(.int (b1_0 p2)), (.int (1 : Int32)), (.ref o79), (.ref o79)])) rfl rfl (hb hby at_130)
          have V81 : Arv Z h81 o79 k79 .byte (4 : Int32) [(.int (nar .byte (b1_0 p1))), (.int (nar .byte (b1_0 p2))), (.int (0 : Int32)), (.int (0 : Int32))] (.int (0 : Int32)) := Arv.set Ar81 vq81 S81 M81 Hh81 G81 (fits_nar_byte _) W81 1 rfl (Nat.le_of_ble_eq_true rfl)
          have K81 : Keep h0 h81 [] := K80.wr W81 (Or.inr sz_o79)
          have N81 := Fr.snoc X81 N80 g_o79
          refine go (fun t k => st81 _ k) ?_
          show Gl _ _ _ _ _ _ _ _ (T81.setTop (mkF m 131 #[.val (.int p1), .val (.int p2), .val (.int p3), .val (.int p4), .val (.int p5), .val (.int ((p5 &&& (2147483647 : Int32)) % (5 : Int32))), .val (.int (b1_0 p1)), .val (.int (b1_0 p2)), .val (.int (b1_0 p3)), .val (.int (b1_0 p4)), .unset, .unset, .unset] [(.ref o79)]))
          refine go (fun t k => XS.dup X81.here hx rfl (hb hby at_131) rfl rfl k) ?_
          show Gl _ _ _ _ _ _ _ _ (T81.setTop (mkF m 132 #[.val (.int p1), .val (.int p2), .val (.int p3), .val (.int p4), .val (.int p5), .val (.int ((p5 &&& (2147483647 : Int32)) % (5 : Int32))), .val (.int (b1_0 p1)), .val (.int (b1_0 p2)), .val (.int (b1_0 p3)), .val (.int (b1_0 p4)), .unset, .unset, .unset] [(.ref o79), (.ref o79)]))
          refine go (fun t k => XS.iconst X81.here hx rfl (hb hby at_132) k) ?_
          show Gl _ _ _ _ _ _ _ _ (T81.setTop (mkF m 133 #[.val (.int p1), .val (.int p2), .val (.int p3), .val (.int p4), .val (.int p5), .val (.int ((p5 &&& (2147483647 : Int32)) % (5 : Int32))), .val (.int (b1_0 p1)), .val (.int (b1_0 p2)), .val (.int (b1_0 p3)), .val (.int (b1_0 p4)), .unset, .unset, .unset] [(.int (2 : Int32)), (.ref o79), (.ref o79)]))
          refine go (fun t k => XS.iload X81.here hx rfl (hb hby at_133) rfl  k) ?_
          show Gl _ _ _ _ _ _ _ _ (T81.setTop (mkF m 135 #[.val (.int p1), .val (.int p2), .val (.int p3), .val (.int p4), .val (.int p5), .val (.int ((p5 &&& (2147483647 : Int32)) % (5 : Int32))), .val (.int (b1_0 p1)), .val (.int (b1_0 p2)), .val (.int (b1_0 p3)), .val (.int (b1_0 p4)), .unset, .unset, .unset] [(.int (b1_0 p3)), (.int (2 : Int32)), (.ref o79), (.ref o79)]))
          obtain ⟨cl82, Ar82, vq82, S82, M82, Hh82, G82⟩ := id V81
          obtain ⟨T82, h82, X82, e82, W82, st82⟩ := stB X81 hx hZ e81 Ar82 (j := (2 : Int32)) (inb_of S82 ⟨by decide, by decide⟩) (g := (mkF m 135 #[.val (.int p1), .val (.int p2), .val (.int p3), .val (.int p4), .val (.int p5), .val (.int ((p5 &&& (2147483647 : Int32)) % (5 : Int32))), .val (.int (b1_0 p1)), .val (.int (b1_0 p2)), .val (.int (b1_0 p3)), .val (.int (b1_0 p4)), .unset, .unset, .unset] [(.int (b1_0 p3)), (.int (2 : Int32)), (.ref o79), (.ref o79)])) rfl rfl (hb hby at_135)
          have V82 : Arv Z h82 o79 k79 .byte (4 : Int32) [(.int (nar .byte (b1_0 p1))), (.int (nar .byte (b1_0 p2))), (.int (nar .byte (b1_0 p3))), (.int (0 : Int32))] (.int (0 : Int32)) := Arv.set Ar82 vq82 S82 M82 Hh82 G82 (fits_nar_byte _) W82 2 rfl (Nat.le_of_ble_eq_true rfl)
          have K82 : Keep h0 h82 [] := K81.wr W82 (Or.inr sz_o79)
          have N82 := Fr.snoc X82 N81 g_o79
          refine go (fun t k => st82 _ k) ?_
          show Gl _ _ _ _ _ _ _ _ (T82.setTop (mkF m 136 #[.val (.int p1), .val (.int p2), .val (.int p3), .val (.int p4), .val (.int p5), .val (.int ((p5 &&& (2147483647 : Int32)) % (5 : Int32))), .val (.int (b1_0 p1)), .val (.int (b1_0 p2)), .val (.int (b1_0 p3)), .val (.int (b1_0 p4)), .unset, .unset, .unset] [(.ref o79)]))
          refine go (fun t k => XS.dup X82.here hx rfl (hb hby at_136) rfl rfl k) ?_
          show Gl _ _ _ _ _ _ _ _ (T82.setTop (mkF m 137 #[.val (.int p1), .val (.int p2), .val (.int p3), .val (.int p4), .val (.int p5), .val (.int ((p5 &&& (2147483647 : Int32)) % (5 : Int32))), .val (.int (b1_0 p1)), .val (.int (b1_0 p2)), .val (.int (b1_0 p3)), .val (.int (b1_0 p4)), .unset, .unset, .unset] [(.ref o79), (.ref o79)]))
          refine go (fun t k => XS.iconst X82.here hx rfl (hb hby at_137) k) ?_
          show Gl _ _ _ _ _ _ _ _ (T82.setTop (mkF m 138 #[.val (.int p1), .val (.int p2), .val (.int p3), .val (.int p4), .val (.int p5), .val (.int ((p5 &&& (2147483647 : Int32)) % (5 : Int32))), .val (.int (b1_0 p1)), .val (.int (b1_0 p2)), .val (.int (b1_0 p3)), .val (.int (b1_0 p4)), .unset, .unset, .unset] [(.int (3 : Int32)), (.ref o79), (.ref o79)]))
          refine go (fun t k => XS.iload X82.here hx rfl (hb hby at_138) rfl  k) ?_
          show Gl _ _ _ _ _ _ _ _ (T82.setTop (mkF m 140 #[.val (.int p1), .val (.int p2), .val (.int p3), .val (.int p4), .val (.int p5), .val (.int ((p5 &&& (2147483647 : Int32)) % (5 : Int32))), .val (.int (b1_0 p1)), .val (.int (b1_0 p2)), .val (.int (b1_0 p3)), .val (.int (b1_0 p4)), .unset, .unset, .unset] [(.int (b1_0 p4)), (.int (3 : Int32)), (.ref o79), (.ref o79)]))
          obtain ⟨cl83, Ar83, vq83, S83, M83, Hh83, G83⟩ := id V82
          obtain ⟨T83, h83, X83, e83, W83, st83⟩ := stB X82 hx hZ e82 Ar83 (j := (3 : Int32)) (inb_of S83 ⟨by decide, by decide⟩) (g := (mkF m 140 #[.val (.int p1), .val (.int p2), .val (.int p3), .val (.int p4), .val (.int p5), .val (.int ((p5 &&& (2147483647 : Int32)) % (5 : Int32))), .val (.int (b1_0 p1)), .val (.int (b1_0 p2)), .val (.int (b1_0 p3)), .val (.int (b1_0 p4)), .unset, .unset, .unset] [(.int (b1_0 p4)), (.int (3 : Int32)), (.ref o79), (.ref o79)])) rfl rfl (hb hby at_140)
          have V83 : Arv Z h83 o79 k79 .byte (4 : Int32) [(.int (nar .byte (b1_0 p1))), (.int (nar .byte (b1_0 p2))), (.int (nar .byte (b1_0 p3))), (.int (nar .byte (b1_0 p4)))] (.int (0 : Int32)) := Arv.set Ar83 vq83 S83 M83 Hh83 G83 (fits_nar_byte _) W83 3 rfl (Nat.le_of_ble_eq_true rfl)
          have K83 : Keep h0 h83 [] := K82.wr W83 (Or.inr sz_o79)
          have N83 := Fr.snoc X83 N82 g_o79
          refine go (fun t k => st83 _ k) ?_
          show Gl _ _ _ _ _ _ _ _ (T83.setTop (mkF m 141 #[.val (.int p1), .val (.int p2), .val (.int p3), .val (.int p4), .val (.int p5), .val (.int ((p5 &&& (2147483647 : Int32)) % (5 : Int32))), .val (.int (b1_0 p1)), .val (.int (b1_0 p2)), .val (.int (b1_0 p3)), .val (.int (b1_0 p4)), .unset, .unset, .unset] [(.ref o79)]))
          refine go (fun t k => XS.astore X83.here hx rfl (hb hby at_141) rfl rfl (l' := #[.val (.int p1), .val (.int p2), .val (.int p3), .val (.int p4), .val (.int p5), .val (.int ((p5 &&& (2147483647 : Int32)) % (5 : Int32))), .val (.int (b1_0 p1)), .val (.int (b1_0 p2)), .val (.int (b1_0 p3)), .val (.int (b1_0 p4)), .val (.ref o79), .unset, .unset]) rfl k) ?_
          show Gl _ _ _ _ _ _ _ _ (T83.setTop (mkF m 143 #[.val (.int p1), .val (.int p2), .val (.int p3), .val (.int p4), .val (.int p5), .val (.int ((p5 &&& (2147483647 : Int32)) % (5 : Int32))), .val (.int (b1_0 p1)), .val (.int (b1_0 p2)), .val (.int (b1_0 p3)), .val (.int (b1_0 p4)), .val (.ref o79), .unset, .unset] []))
          refine go (fun t k => XS.iload X83.here hx rfl (hb hby at_143) rfl  k) ?_
          show Gl _ _ _ _ _ _ _ _ (T83.setTop (mkF m 145 #[.val (.int p1), .val (.int p2), .val (.int p3), .val (.int p4), .val (.int p5), .val (.int ((p5 &&& (2147483647 : Int32)) % (5 : Int32))), .val (.int (b1_0 p1)), .val (.int (b1_0 p2)), .val (.int (b1_0 p3)), .val (.int (b1_0 p4)), .val (.ref o79), .unset, .unset] [(.int ((p5 &&& (2147483647 : Int32)) % (5 : Int32)))]))
          have J247 : ∀ (v11_247 : Addr) (TJ247 : State) (lJ247 : List Loc) (XJ247 : Stand p l e room_1 s m #[(.int p1), (.int p2), (.int p3), (.int p4), (.int p5)] below meth c TJ247 lJ247 5 48) (eJ247 : TJ247.heap = h83) (NJ247 : Fr n0 lJ247), Gl p e below s n0 room_1.cells room_1.slots (Kv (some (.int (b0_247x5 p1 p2 p3 p4 w_XACML w_COMPACT w_BLANK v11_247))) (fun _ => True)) (TJ247.setTop (mkF m 247 #[.val (.int p1), .val (.int p2), .val (.int p3), .val (.int p4), .val (.int p5), .val (.int ((p5 &&& (2147483647 : Int32)) % (5 : Int32))), .val (.int (b1_0 p1)), .val (.int (b1_0 p2)), .val (.int (b1_0 p3)), .val (.int (b1_0 p4)), .val (.ref o79), .val (.ref v11_247), .unset] [])) := by
            intro v11_247 TJ247 lJ247 XJ247 eJ247 NJ247
            show Gl _ _ _ _ _ _ _ (Kv (some (.int (if (b2t4_0 w_XACML w_COMPACT w_BLANK (nar .byte (b1_0 p1)) (nar .byte (b1_0 p2)) (nar .byte (b1_0 p3)) (nar .byte (b1_0 p4))) = v11_247 then (b0_266x5 (1 : Int32)) else (b0_266x5 (0 : Int32))))) _) _
            refine go (fun t k => XS.aload XJ247.here hx rfl (hb hby at_247) rfl rfl k) ?_
            show Gl _ _ _ _ _ _ _ _ (TJ247.setTop (mkF m 249 #[.val (.int p1), .val (.int p2), .val (.int p3), .val (.int p4), .val (.int p5), .val (.int ((p5 &&& (2147483647 : Int32)) % (5 : Int32))), .val (.int (b1_0 p1)), .val (.int (b1_0 p2)), .val (.int (b1_0 p3)), .val (.int (b1_0 p4)), .val (.ref o79), .val (.ref v11_247), .unset] [(.ref o79)]))
            obtain ⟨_, _, ⟨T85, L85, k85, n85⟩, -, X85, ⟨Lc85, hQ85, l85, y85, z85⟩, st85⟩ := Jvm.LawKit.callS XJ247 hx (y := (⟨"com/example/policylint/policylint/PolicySyntax", "of", "([B)Lcom/example/policylint/policylint/PolicySyntax;"⟩ : MethodName)) hown (mvT hZ (hw _ (List.mem_of_getElem? (i := 9) rfl))) (mvT hZ (hw _ (List.mem_of_getElem? (i := 10) rfl))) (mvT hZ (hw _ (List.mem_of_getElem? (i := 7) rfl))) (mvT hZ (hw _ (List.mem_of_getElem? (i := 11) rfl))) (by decide) (backOf (W := 0) (rm2t4 l Z a0 hw [] o79 w_XACML w_COMPACT w_BLANK k79 (nar .byte (b1_0 p1)) (nar .byte (b1_0 p2)) (nar .byte (b1_0 p3)) (nar .byte (b1_0 p4)) h83 n0 (Nat.le_trans (Nat.le_trans (Nat.le_trans (Nat.le_trans (Nat.le_trans (Nat.le_trans (Nat.le_trans (Nat.le_trans (Nat.le_trans Z0 K1q.1) K2q.1) K3q.1) K4q.1) E79.1) (Keep.of_wr W80).1) (Keep.of_wr W81).1) (Keep.of_wr W82).1) (Keep.of_wr W83).1) (Sta.wr W83 (Sta.wr W82 (Sta.wr W81 (Sta.wr W80 ((sta_keep0 (sta_keep0 (sta_keep0 (sta_keep0 S_XACML K1q) K2q) K3q) K4q).ext E79))))) (Sta.wr W83 (Sta.wr W82 (Sta.wr W81 (Sta.wr W80 ((sta_keep0 (sta_keep0 (sta_keep0 (sta_keep0 S_COMPACT K1q) K2q) K3q) K4q).ext E79))))) (Sta.wr W83 (Sta.wr W82 (Sta.wr W81 (Sta.wr W80 ((sta_keep0 (sta_keep0 (sta_keep0 (sta_keep0 S_BLANK K1q) K2q) K3q) K4q).ext E79))))) V83) hZ (hw _ (List.mem_of_getElem? (i := 11) rfl)) (hw _ (List.mem_of_getElem? (i := 7) rfl)) (by decide) (by decide)) (g := (mkF m 249 #[.val (.int p1), .val (.int p2), .val (.int p3), .val (.int p4), .val (.int p5), .val (.int ((p5 &&& (2147483647 : Int32)) % (5 : Int32))), .val (.int (b1_0 p1)), .val (.int (b1_0 p2)), .val (.int (b1_0 p3)), .val (.int (b1_0 p4)), .val (.ref o79), .val (.ref v11_247), .unset] [(.ref o79)])) rfl (by rw [hml]; rfl) (argsL := [(.ref o79)]) (rest := []) (lenOf pd_2 rfl) rfl (by show 2 * 0 + _ ≤ _; exact Nat.le_of_eq rfl) (hb hby at_249) (fun _ _ => ⟨rfl, eJ247, (by decide : 5 + 0 ≤ _), (by decide : 48 + 0 ≤ _)⟩)
            dsimp only [Pt.U, Pt.locs, Pt.cells, Pt.slots] at X85 l85 y85 z85 st85 hQ85
            subst l85 y85 z85
            have X85 : Stand p l e room_1 s m #[(.int p1), (.int p2), (.int p3), (.int p4), (.int p5)] below meth c T85 _ 5 48 := X85
            obtain ⟨⟨rfl, e85'⟩, N85q⟩ := hQ85
            have e85 : T85.heap = h83 := e85'
            have N85 := Fr.app NJ247 N85q
            refine go (fun t k => st85 _ k) ?_
            show Gl _ _ _ _ _ _ _ _ (T85.setTop (mkF m 252 #[.val (.int p1), .val (.int p2), .val (.int p3), .val (.int p4), .val (.int p5), .val (.int ((p5 &&& (2147483647 : Int32)) % (5 : Int32))), .val (.int (b1_0 p1)), .val (.int (b1_0 p2)), .val (.int (b1_0 p3)), .val (.int (b1_0 p4)), .val (.ref o79), .val (.ref v11_247), .unset] [(.ref (b2t4_0 w_XACML w_COMPACT w_BLANK (nar .byte (b1_0 p1)) (nar .byte (b1_0 p2)) (nar .byte (b1_0 p3)) (nar .byte (b1_0 p4))))]))
            refine go (fun t k => XS.astore X85.here hx rfl (hb hby at_252) rfl rfl (l' := #[.val (.int p1), .val (.int p2), .val (.int p3), .val (.int p4), .val (.int p5), .val (.int ((p5 &&& (2147483647 : Int32)) % (5 : Int32))), .val (.int (b1_0 p1)), .val (.int (b1_0 p2)), .val (.int (b1_0 p3)), .val (.int (b1_0 p4)), .val (.ref o79), .val (.ref v11_247), .val (.ref (b2t4_0 w_XACML w_COMPACT w_BLANK (nar .byte (b1_0 p1)) (nar .byte (b1_0 p2)) (nar .byte (b1_0 p3)) (nar .byte (b1_0 p4))))]) rfl k) ?_
            show Gl _ _ _ _ _ _ _ _ (T85.setTop (mkF m 254 #[.val (.int p1), .val (.int p2), .val (.int p3), .val (.int p4), .val (.int p5), .val (.int ((p5 &&& (2147483647 : Int32)) % (5 : Int32))), .val (.int (b1_0 p1)), .val (.int (b1_0 p2)), .val (.int (b1_0 p3)), .val (.int (b1_0 p4)), .val (.ref o79), .val (.ref v11_247), .val (.ref (b2t4_0 w_XACML w_COMPACT w_BLANK (nar .byte (b1_0 p1)) (nar .byte (b1_0 p2)) (nar .byte (b1_0 p3)) (nar .byte (b1_0 p4))))] []))
            refine go (fun t k => XS.aload X85.here hx rfl (hb hby at_254) rfl rfl k) ?_
            show Gl _ _ _ _ _ _ _ _ (T85.setTop (mkF m 256 #[.val (.int p1), .val (.int p2), .val (.int p3), .val (.int p4), .val (.int p5), .val (.int ((p5 &&& (2147483647 : Int32)) % (5 : Int32))), .val (.int (b1_0 p1)), .val (.int (b1_0 p2)), .val (.int (b1_0 p3)), .val (.int (b1_0 p4)), .val (.ref o79), .val (.ref v11_247), .val (.ref (b2t4_0 w_XACML w_COMPACT w_BLANK (nar .byte (b1_0 p1)) (nar .byte (b1_0 p2)) (nar .byte (b1_0 p3)) (nar .byte (b1_0 p4))))] [(.ref (b2t4_0 w_XACML w_COMPACT w_BLANK (nar .byte (b1_0 p1)) (nar .byte (b1_0 p2)) (nar .byte (b1_0 p3)) (nar .byte (b1_0 p4))))]))
            refine go (fun t k => XS.aload X85.here hx rfl (hb hby at_256) rfl rfl k) ?_
            show Gl _ _ _ _ _ _ _ _ (T85.setTop (mkF m 258 #[.val (.int p1), .val (.int p2), .val (.int p3), .val (.int p4), .val (.int p5), .val (.int ((p5 &&& (2147483647 : Int32)) % (5 : Int32))), .val (.int (b1_0 p1)), .val (.int (b1_0 p2)), .val (.int (b1_0 p3)), .val (.int (b1_0 p4)), .val (.ref o79), .val (.ref v11_247), .val (.ref (b2t4_0 w_XACML w_COMPACT w_BLANK (nar .byte (b1_0 p1)) (nar .byte (b1_0 p2)) (nar .byte (b1_0 p3)) (nar .byte (b1_0 p4))))] [(.ref v11_247), (.ref (b2t4_0 w_XACML w_COMPACT w_BLANK (nar .byte (b1_0 p1)) (nar .byte (b1_0 p2)) (nar .byte (b1_0 p3)) (nar .byte (b1_0 p4))))]))
            have J266 : ∀ (s0_266 : Int32) (TJ266 : State) (lJ266 : List Loc) (XJ266 : Stand p l e room_1 s m #[(.int p1), (.int p2), (.int p3), (.int p4), (.int p5)] below meth c TJ266 lJ266 5 48) (eJ266 : TJ266.heap = h83) (NJ266 : Fr n0 lJ266), Gl p e below s n0 room_1.cells room_1.slots (Kv (some (.int (b0_266x5 s0_266))) (fun _ => True)) (TJ266.setTop (mkF m 266 #[.val (.int p1), .val (.int p2), .val (.int p3), .val (.int p4), .val (.int p5), .val (.int ((p5 &&& (2147483647 : Int32)) % (5 : Int32))), .val (.int (b1_0 p1)), .val (.int (b1_0 p2)), .val (.int (b1_0 p3)), .val (.int (b1_0 p4)), .val (.ref o79), .val (.ref v11_247), .val (.ref (b2t4_0 w_XACML w_COMPACT w_BLANK (nar .byte (b1_0 p1)) (nar .byte (b1_0 p2)) (nar .byte (b1_0 p3)) (nar .byte (b1_0 p4))))] [(.int s0_266)])) := by
              intro s0_266 TJ266 lJ266 XJ266 eJ266 NJ266
              show Gl _ _ _ _ _ _ _ (Kv (some (.int (nar .boolean s0_266))) _) _
              exact endN XJ266 hx Bd (t := .boolean) (by simp) (hb hby at_266) ⟨rfl, trivial⟩ NJ266 (by decide) (by decide)
            refine gI (c := (b2t4_0 w_XACML w_COMPACT w_BLANK (nar .byte (b1_0 p1)) (nar .byte (b1_0 p2)) (nar .byte (b1_0 p3)) (nar .byte (b1_0 p4))) = v11_247) (fun hc258 => ?_) (fun hc258 => ?_)
            · refine go (fun t k => Jvm.RoadKit.acmp (g := (mkF m 258 #[.val (.int p1), .val (.int p2), .val (.int p3), .val (.int p4), .val (.int p5), .val (.int ((p5 &&& (2147483647 : Int32)) % (5 : Int32))), .val (.int (b1_0 p1)), .val (.int (b1_0 p2)), .val (.int (b1_0 p3)), .val (.int (b1_0 p4)), .val (.ref o79), .val (.ref v11_247), .val (.ref (b2t4_0 w_XACML w_COMPACT w_BLANK (nar .byte (b1_0 p1)) (nar .byte (b1_0 p2)) (nar .byte (b1_0 p3)) (nar .byte (b1_0 p4))))] [(.ref v11_247), (.ref (b2t4_0 w_XACML w_COMPACT w_BLANK (nar .byte (b1_0 p1)) (nar .byte (b1_0 p2)) (nar .byte (b1_0 p3)) (nar .byte (b1_0 p4))))])) X85 hx rfl rfl rfl (pc0 := 258) (pc' := 261) (same := true) rfl (hb hby at_258) rfl (decide_eq_true (congrArg Value.ref hc258)) (by decide) (by decide) k) ?_
              show Gl _ _ _ _ _ _ _ _ (T85.setTop (mkF m 261 #[.val (.int p1), .val (.int p2), .val (.int p3), .val (.int p4), .val (.int p5), .val (.int ((p5 &&& (2147483647 : Int32)) % (5 : Int32))), .val (.int (b1_0 p1)), .val (.int (b1_0 p2)), .val (.int (b1_0 p3)), .val (.int (b1_0 p4)), .val (.ref o79), .val (.ref v11_247), .val (.ref (b2t4_0 w_XACML w_COMPACT w_BLANK (nar .byte (b1_0 p1)) (nar .byte (b1_0 p2)) (nar .byte (b1_0 p3)) (nar .byte (b1_0 p4))))] []))
              refine go (fun t k => XS.iconst X85.here hx rfl (hb hby at_261) k) ?_
              show Gl _ _ _ _ _ _ _ _ (T85.setTop (mkF m 262 #[.val (.int p1), .val (.int p2), .val (.int p3), .val (.int p4), .val (.int p5), .val (.int ((p5 &&& (2147483647 : Int32)) % (5 : Int32))), .val (.int (b1_0 p1)), .val (.int (b1_0 p2)), .val (.int (b1_0 p3)), .val (.int (b1_0 p4)), .val (.ref o79), .val (.ref v11_247), .val (.ref (b2t4_0 w_XACML w_COMPACT w_BLANK (nar .byte (b1_0 p1)) (nar .byte (b1_0 p2)) (nar .byte (b1_0 p3)) (nar .byte (b1_0 p4))))] [(.int (1 : Int32))]))
              refine go (fun t k => XS.goto X85.here hx rfl (pc0 := 262) (pc' := 266) rfl (hb hby at_262) (by decide) (by decide) k) ?_
              show Gl _ _ _ _ _ _ _ _ (T85.setTop (mkF m 266 #[.val (.int p1), .val (.int p2), .val (.int p3), .val (.int p4), .val (.int p5), .val (.int ((p5 &&& (2147483647 : Int32)) % (5 : Int32))), .val (.int (b1_0 p1)), .val (.int (b1_0 p2)), .val (.int (b1_0 p3)), .val (.int (b1_0 p4)), .val (.ref o79), .val (.ref v11_247), .val (.ref (b2t4_0 w_XACML w_COMPACT w_BLANK (nar .byte (b1_0 p1)) (nar .byte (b1_0 p2)) (nar .byte (b1_0 p3)) (nar .byte (b1_0 p4))))] [(.int (1 : Int32))]))
              exact J266 (1 : Int32) T85 _ X85 e85 N85
            · refine go (fun t k => Jvm.RoadKit.acmp (g := (mkF m 258 #[.val (.int p1), .val (.int p2), .val (.int p3), .val (.int p4), .val (.int p5), .val (.int ((p5 &&& (2147483647 : Int32)) % (5 : Int32))), .val (.int (b1_0 p1)), .val (.int (b1_0 p2)), .val (.int (b1_0 p3)), .val (.int (b1_0 p4)), .val (.ref o79), .val (.ref v11_247), .val (.ref (b2t4_0 w_XACML w_COMPACT w_BLANK (nar .byte (b1_0 p1)) (nar .byte (b1_0 p2)) (nar .byte (b1_0 p3)) (nar .byte (b1_0 p4))))] [(.ref v11_247), (.ref (b2t4_0 w_XACML w_COMPACT w_BLANK (nar .byte (b1_0 p1)) (nar .byte (b1_0 p2)) (nar .byte (b1_0 p3)) (nar .byte (b1_0 p4))))])) X85 hx rfl rfl rfl (pc0 := 258) (pc' := 265) (same := false) rfl (hb hby at_258) rfl (decide_eq_false fun q => hc258 (Value.ref.inj q)) (by decide) (by decide) k) ?_
              show Gl _ _ _ _ _ _ _ _ (T85.setTop (mkF m 265 #[.val (.int p1), .val (.int p2), .val (.int p3), .val (.int p4), .val (.int p5), .val (.int ((p5 &&& (2147483647 : Int32)) % (5 : Int32))), .val (.int (b1_0 p1)), .val (.int (b1_0 p2)), .val (.int (b1_0 p3)), .val (.int (b1_0 p4)), .val (.ref o79), .val (.ref v11_247), .val (.ref (b2t4_0 w_XACML w_COMPACT w_BLANK (nar .byte (b1_0 p1)) (nar .byte (b1_0 p2)) (nar .byte (b1_0 p3)) (nar .byte (b1_0 p4))))] []))
              refine go (fun t k => XS.iconst X85.here hx rfl (hb hby at_265) k) ?_
              show Gl _ _ _ _ _ _ _ _ (T85.setTop (mkF m 266 #[.val (.int p1), .val (.int p2), .val (.int p3), .val (.int p4), .val (.int p5), .val (.int ((p5 &&& (2147483647 : Int32)) % (5 : Int32))), .val (.int (b1_0 p1)), .val (.int (b1_0 p2)), .val (.int (b1_0 p3)), .val (.int (b1_0 p4)), .val (.ref o79), .val (.ref v11_247), .val (.ref (b2t4_0 w_XACML w_COMPACT w_BLANK (nar .byte (b1_0 p1)) (nar .byte (b1_0 p2)) (nar .byte (b1_0 p3)) (nar .byte (b1_0 p4))))] [(.int (0 : Int32))]))
              exact J266 (0 : Int32) T85 _ X85 e85 N85
          have J167 : ∀  (TJ167 : State) (lJ167 : List Loc) (XJ167 : Stand p l e room_1 s m #[(.int p1), (.int p2), (.int p3), (.int p4), (.int p5)] below meth c TJ167 lJ167 5 48) (eJ167 : TJ167.heap = h83) (NJ167 : Fr n0 lJ167), Gl p e below s n0 room_1.cells room_1.slots (Kv (some (.int (b0_167x5 p1 p2 p3 p4 p5 w_XACML w_COMPACT w_BLANK))) (fun _ => True)) (TJ167.setTop (mkF m 167 #[.val (.int p1), .val (.int p2), .val (.int p3), .val (.int p4), .val (.int p5), .val (.int ((p5 &&& (2147483647 : Int32)) % (5 : Int32))), .val (.int (b1_0 p1)), .val (.int (b1_0 p2)), .val (.int (b1_0 p3)), .val (.int (b1_0 p4)), .val (.ref o79), .unset, .unset] [])) := by
            intro  TJ167 lJ167 XJ167 eJ167 NJ167
            show Gl _ _ _ _ _ _ _ (Kv (some (.int (if (1 : Int32) < ((p5 &&& (2147483647 : Int32)) % (5 : Int32)) then (if (b3_0 (b1_0 p2)) = (1 : Int32) then (b0_192x5 p1 p2 p3 p4 p5 w_XACML w_COMPACT w_BLANK) else (b0_247x5 p1 p2 p3 p4 w_XACML w_COMPACT w_BLANK (b4_0 (b1_0 p2) w_XACML w_COMPACT))) else (b0_192x5 p1 p2 p3 p4 p5 w_XACML w_COMPACT w_BLANK)))) _) _
            refine go (fun t k => XS.iload XJ167.here hx rfl (hb hby at_167) rfl  k) ?_
            show Gl _ _ _ _ _ _ _ _ (TJ167.setTop (mkF m 169 #[.val (.int p1), .val (.int p2), .val (.int p3), .val (.int p4), .val (.int p5), .val (.int ((p5 &&& (2147483647 : Int32)) % (5 : Int32))), .val (.int (b1_0 p1)), .val (.int (b1_0 p2)), .val (.int (b1_0 p3)), .val (.int (b1_0 p4)), .val (.ref o79), .unset, .unset] [(.int ((p5 &&& (2147483647 : Int32)) % (5 : Int32)))]))
            refine go (fun t k => XS.iconst XJ167.here hx rfl (hb hby at_169) k) ?_
            show Gl _ _ _ _ _ _ _ _ (TJ167.setTop (mkF m 170 #[.val (.int p1), .val (.int p2), .val (.int p3), .val (.int p4), .val (.int p5), .val (.int ((p5 &&& (2147483647 : Int32)) % (5 : Int32))), .val (.int (b1_0 p1)), .val (.int (b1_0 p2)), .val (.int (b1_0 p3)), .val (.int (b1_0 p4)), .val (.ref o79), .unset, .unset] [(.int (1 : Int32)), (.int ((p5 &&& (2147483647 : Int32)) % (5 : Int32)))]))
            have J192 : ∀  (TJ192 : State) (lJ192 : List Loc) (XJ192 : Stand p l e room_1 s m #[(.int p1), (.int p2), (.int p3), (.int p4), (.int p5)] below meth c TJ192 lJ192 5 48) (eJ192 : TJ192.heap = h83) (NJ192 : Fr n0 lJ192), Gl p e below s n0 room_1.cells room_1.slots (Kv (some (.int (b0_192x5 p1 p2 p3 p4 p5 w_XACML w_COMPACT w_BLANK))) (fun _ => True)) (TJ192.setTop (mkF m 192 #[.val (.int p1), .val (.int p2), .val (.int p3), .val (.int p4), .val (.int p5), .val (.int ((p5 &&& (2147483647 : Int32)) % (5 : Int32))), .val (.int (b1_0 p1)), .val (.int (b1_0 p2)), .val (.int (b1_0 p3)), .val (.int (b1_0 p4)), .val (.ref o79), .unset, .unset] [])) := by
              intro  TJ192 lJ192 XJ192 eJ192 NJ192
              show Gl _ _ _ _ _ _ _ (Kv (some (.int (if (2 : Int32) < ((p5 &&& (2147483647 : Int32)) % (5 : Int32)) then (if (b3_0 (b1_0 p3)) = (1 : Int32) then (b0_217x5 p1 p2 p3 p4 p5 w_XACML w_COMPACT w_BLANK) else (b0_247x5 p1 p2 p3 p4 w_XACML w_COMPACT w_BLANK (b4_0 (b1_0 p3) w_XACML w_COMPACT))) else (b0_217x5 p1 p2 p3 p4 p5 w_XACML w_COMPACT w_BLANK)))) _) _
              refine go (fun t k => XS.iload XJ192.here hx rfl (hb hby at_192) rfl  k) ?_
              show Gl _ _ _ _ _ _ _ _ (TJ192.setTop (mkF m 194 #[.val (.int p1), .val (.int p2), .val (.int p3), .val (.int p4), .val (.int p5), .val (.int ((p5 &&& (2147483647 : Int32)) % (5 : Int32))), .val (.int (b1_0 p1)), .val (.int (b1_0 p2)), .val (.int (b1_0 p3)), .val (.int (b1_0 p4)), .val (.ref o79), .unset, .unset] [(.int ((p5 &&& (2147483647 : Int32)) % (5 : Int32)))]))
              refine go (fun t k => XS.iconst XJ192.here hx rfl (hb hby at_194) k) ?_
              show Gl _ _ _ _ _ _ _ _ (TJ192.setTop (mkF m 195 #[.val (.int p1), .val (.int p2), .val (.int p3), .val (.int p4), .val (.int p5), .val (.int ((p5 &&& (2147483647 : Int32)) % (5 : Int32))), .val (.int (b1_0 p1)), .val (.int (b1_0 p2)), .val (.int (b1_0 p3)), .val (.int (b1_0 p4)), .val (.ref o79), .unset, .unset] [(.int (2 : Int32)), (.int ((p5 &&& (2147483647 : Int32)) % (5 : Int32)))]))
              have J217 : ∀  (TJ217 : State) (lJ217 : List Loc) (XJ217 : Stand p l e room_1 s m #[(.int p1), (.int p2), (.int p3), (.int p4), (.int p5)] below meth c TJ217 lJ217 5 48) (eJ217 : TJ217.heap = h83) (NJ217 : Fr n0 lJ217), Gl p e below s n0 room_1.cells room_1.slots (Kv (some (.int (b0_217x5 p1 p2 p3 p4 p5 w_XACML w_COMPACT w_BLANK))) (fun _ => True)) (TJ217.setTop (mkF m 217 #[.val (.int p1), .val (.int p2), .val (.int p3), .val (.int p4), .val (.int p5), .val (.int ((p5 &&& (2147483647 : Int32)) % (5 : Int32))), .val (.int (b1_0 p1)), .val (.int (b1_0 p2)), .val (.int (b1_0 p3)), .val (.int (b1_0 p4)), .val (.ref o79), .unset, .unset] [])) := by
                intro  TJ217 lJ217 XJ217 eJ217 NJ217
                show Gl _ _ _ _ _ _ _ (Kv (some (.int (if (3 : Int32) < ((p5 &&& (2147483647 : Int32)) % (5 : Int32)) then (if (b3_0 (b1_0 p4)) = (1 : Int32) then (b0_242x5 p1 p2 p3 p4 w_XACML w_COMPACT w_BLANK) else (b0_247x5 p1 p2 p3 p4 w_XACML w_COMPACT w_BLANK (b4_0 (b1_0 p4) w_XACML w_COMPACT))) else (b0_242x5 p1 p2 p3 p4 w_XACML w_COMPACT w_BLANK)))) _) _
                refine go (fun t k => XS.iload XJ217.here hx rfl (hb hby at_217) rfl  k) ?_
                show Gl _ _ _ _ _ _ _ _ (TJ217.setTop (mkF m 219 #[.val (.int p1), .val (.int p2), .val (.int p3), .val (.int p4), .val (.int p5), .val (.int ((p5 &&& (2147483647 : Int32)) % (5 : Int32))), .val (.int (b1_0 p1)), .val (.int (b1_0 p2)), .val (.int (b1_0 p3)), .val (.int (b1_0 p4)), .val (.ref o79), .unset, .unset] [(.int ((p5 &&& (2147483647 : Int32)) % (5 : Int32)))]))
                refine go (fun t k => XS.iconst XJ217.here hx rfl (hb hby at_219) k) ?_
                show Gl _ _ _ _ _ _ _ _ (TJ217.setTop (mkF m 220 #[.val (.int p1), .val (.int p2), .val (.int p3), .val (.int p4), .val (.int p5), .val (.int ((p5 &&& (2147483647 : Int32)) % (5 : Int32))), .val (.int (b1_0 p1)), .val (.int (b1_0 p2)), .val (.int (b1_0 p3)), .val (.int (b1_0 p4)), .val (.ref o79), .unset, .unset] [(.int (3 : Int32)), (.int ((p5 &&& (2147483647 : Int32)) % (5 : Int32)))]))
                have J242 : ∀  (TJ242 : State) (lJ242 : List Loc) (XJ242 : Stand p l e room_1 s m #[(.int p1), (.int p2), (.int p3), (.int p4), (.int p5)] below meth c TJ242 lJ242 5 48) (eJ242 : TJ242.heap = h83) (NJ242 : Fr n0 lJ242), Gl p e below s n0 room_1.cells room_1.slots (Kv (some (.int (b0_242x5 p1 p2 p3 p4 w_XACML w_COMPACT w_BLANK))) (fun _ => True)) (TJ242.setTop (mkF m 242 #[.val (.int p1), .val (.int p2), .val (.int p3), .val (.int p4), .val (.int p5), .val (.int ((p5 &&& (2147483647 : Int32)) % (5 : Int32))), .val (.int (b1_0 p1)), .val (.int (b1_0 p2)), .val (.int (b1_0 p3)), .val (.int (b1_0 p4)), .val (.ref o79), .unset, .unset] [])) := by
                  intro  TJ242 lJ242 XJ242 eJ242 NJ242
                  show Gl _ _ _ _ _ _ _ (Kv (some (.int (b0_247x5 p1 p2 p3 p4 w_XACML w_COMPACT w_BLANK w_BLANK))) _) _
                  obtain ⟨T91, X91, e91, st91⟩ := getS2 XJ242 hx hZ hown (host := "") (Or.inl (hw _ (List.mem_of_getElem? (i := 6) rfl))) Via.refl eJ242 (Sta.wr W83 (Sta.wr W82 (Sta.wr W81 (Sta.wr W80 ((sta_keep0 (sta_keep0 (sta_keep0 (sta_keep0 S_BLANK K1q) K2q) K3q) K4q).ext E79))))) (g := (mkF m 242 #[.val (.int p1), .val (.int p2), .val (.int p3), .val (.int p4), .val (.int p5), .val (.int ((p5 &&& (2147483647 : Int32)) % (5 : Int32))), .val (.int (b1_0 p1)), .val (.int (b1_0 p2)), .val (.int (b1_0 p3)), .val (.int (b1_0 p4)), .val (.ref o79), .unset, .unset] [])) rfl (hb hby at_242)
                  refine go (fun t k => st91 _ k) ?_
                  show Gl _ _ _ _ _ _ _ _ (T91.setTop (mkF m 245 #[.val (.int p1), .val (.int p2), .val (.int p3), .val (.int p4), .val (.int p5), .val (.int ((p5 &&& (2147483647 : Int32)) % (5 : Int32))), .val (.int (b1_0 p1)), .val (.int (b1_0 p2)), .val (.int (b1_0 p3)), .val (.int (b1_0 p4)), .val (.ref o79), .unset, .unset] [(.ref w_BLANK)]))
                  refine go (fun t k => XS.astore X91.here hx rfl (hb hby at_245) rfl rfl (l' := #[.val (.int p1), .val (.int p2), .val (.int p3), .val (.int p4), .val (.int p5), .val (.int ((p5 &&& (2147483647 : Int32)) % (5 : Int32))), .val (.int (b1_0 p1)), .val (.int (b1_0 p2)), .val (.int (b1_0 p3)), .val (.int (b1_0 p4)), .val (.ref o79), .val (.ref w_BLANK), .unset]) rfl k) ?_
                  show Gl _ _ _ _ _ _ _ _ (T91.setTop (mkF m 247 #[.val (.int p1), .val (.int p2), .val (.int p3), .val (.int p4), .val (.int p5), .val (.int ((p5 &&& (2147483647 : Int32)) % (5 : Int32))), .val (.int (b1_0 p1)), .val (.int (b1_0 p2)), .val (.int (b1_0 p3)), .val (.int (b1_0 p4)), .val (.ref o79), .val (.ref w_BLANK), .unset] []))
                  exact J247 w_BLANK T91 _ X91 e91 NJ242
                refine gI (c := (3 : Int32) < ((p5 &&& (2147483647 : Int32)) % (5 : Int32))) (fun hc220 => ?_) (fun hc220 => ?_)
                · refine go (fun t k => XS.icmpNo XJ217.here hx rfl (hb hby at_220) rfl (tlt hc220).2.2.2 k) ?_
                  show Gl _ _ _ _ _ _ _ _ (TJ217.setTop (mkF m 223 #[.val (.int p1), .val (.int p2), .val (.int p3), .val (.int p4), .val (.int p5), .val (.int ((p5 &&& (2147483647 : Int32)) % (5 : Int32))), .val (.int (b1_0 p1)), .val (.int (b1_0 p2)), .val (.int (b1_0 p3)), .val (.int (b1_0 p4)), .val (.ref o79), .unset, .unset] []))
                  refine go (fun t k => XS.iload XJ217.here hx rfl (hb hby at_223) rfl  k) ?_
                  show Gl _ _ _ _ _ _ _ _ (TJ217.setTop (mkF m 225 #[.val (.int p1), .val (.int p2), .val (.int p3), .val (.int p4), .val (.int p5), .val (.int ((p5 &&& (2147483647 : Int32)) % (5 : Int32))), .val (.int (b1_0 p1)), .val (.int (b1_0 p2)), .val (.int (b1_0 p3)), .val (.int (b1_0 p4)), .val (.ref o79), .unset, .unset] [(.int (b1_0 p4))]))
                  obtain ⟨_, _, ⟨T92, L92, k92, n92⟩, -, X92, ⟨Lc92, hQ92, l92, y92, z92⟩, st92⟩ := Jvm.LawKit.callS XJ217 hx (y := (⟨"com/example/policylint/policylint/PolicySyntaxOfPinLaw", "cls", "(B)I"⟩ : MethodName)) hown (mvT hZ (hw _ (List.mem_of_getElem? (i := 13) rfl))) (mvT hZ (hw _ (List.mem_of_getElem? (i := 14) rfl))) (mvT hZ (hw _ (List.mem_of_getElem? (i := 3) rfl))) (mvT hZ (hw _ (List.mem_of_getElem? (i := 15) rfl))) (by decide) (backOf (W := 0) (rm3 l Z a0 hw [] (b1_0 p4) h83 n0 (Nat.le_trans (Nat.le_trans (Nat.le_trans (Nat.le_trans (Nat.le_trans (Nat.le_trans (Nat.le_trans (Nat.le_trans (Nat.le_trans Z0 K1q.1) K2q.1) K3q.1) K4q.1) E79.1) (Keep.of_wr W80).1) (Keep.of_wr W81).1) (Keep.of_wr W82).1) (Keep.of_wr W83).1) ) hZ (hw _ (List.mem_of_getElem? (i := 15) rfl)) (hw _ (List.mem_of_getElem? (i := 3) rfl)) (by decide) (by decide)) (g := (mkF m 225 #[.val (.int p1), .val (.int p2), .val (.int p3), .val (.int p4), .val (.int p5), .val (.int ((p5 &&& (2147483647 : Int32)) % (5 : Int32))), .val (.int (b1_0 p1)), .val (.int (b1_0 p2)), .val (.int (b1_0 p3)), .val (.int (b1_0 p4)), .val (.ref o79), .unset, .unset] [(.int (b1_0 p4))])) rfl (by rw [hml]; rfl) (argsL := [(.int (b1_0 p4))]) (rest := []) (lenOf pd_0 rfl) rfl (by show 2 * 0 + _ ≤ _; exact Nat.le_of_eq rfl) (hb hby at_225) (fun _ _ => ⟨rfl, eJ217, (by decide : 5 + 0 ≤ _), (by decide : 48 + 0 ≤ _)⟩)
                  dsimp only [Pt.U, Pt.locs, Pt.cells, Pt.slots] at X92 l92 y92 z92 st92 hQ92
                  subst l92 y92 z92
                  have X92 : Stand p l e room_1 s m #[(.int p1), (.int p2), (.int p3), (.int p4), (.int p5)] below meth c T92 _ 5 48 := X92
                  obtain ⟨⟨rfl, e92'⟩, N92q⟩ := hQ92
                  have e92 : T92.heap = h83 := e92'
                  have N92 := Fr.app NJ217 N92q
                  refine go (fun t k => st92 _ k) ?_
                  show Gl _ _ _ _ _ _ _ _ (T92.setTop (mkF m 228 #[.val (.int p1), .val (.int p2), .val (.int p3), .val (.int p4), .val (.int p5), .val (.int ((p5 &&& (2147483647 : Int32)) % (5 : Int32))), .val (.int (b1_0 p1)), .val (.int (b1_0 p2)), .val (.int (b1_0 p3)), .val (.int (b1_0 p4)), .val (.ref o79), .unset, .unset] [(.int (b3_0 (b1_0 p4)))]))
                  refine go (fun t k => XS.iconst X92.here hx rfl (hb hby at_228) k) ?_
                  show Gl _ _ _ _ _ _ _ _ (T92.setTop (mkF m 229 #[.val (.int p1), .val (.int p2), .val (.int p3), .val (.int p4), .val (.int p5), .val (.int ((p5 &&& (2147483647 : Int32)) % (5 : Int32))), .val (.int (b1_0 p1)), .val (.int (b1_0 p2)), .val (.int (b1_0 p3)), .val (.int (b1_0 p4)), .val (.ref o79), .unset, .unset] [(.int (1 : Int32)), (.int (b3_0 (b1_0 p4)))]))
                  refine gI (c := (b3_0 (b1_0 p4)) = (1 : Int32)) (fun hc229 => ?_) (fun hc229 => ?_)
                  · refine go (fun t k => XS.icmpYes X92.here hx rfl (pc0 := 229) (pc' := 242) rfl (hb hby at_229) rfl (teq hc229).1 (by decide) (by decide) k) ?_
                    show Gl _ _ _ _ _ _ _ _ (T92.setTop (mkF m 242 #[.val (.int p1), .val (.int p2), .val (.int p3), .val (.int p4), .val (.int p5), .val (.int ((p5 &&& (2147483647 : Int32)) % (5 : Int32))), .val (.int (b1_0 p1)), .val (.int (b1_0 p2)), .val (.int (b1_0 p3)), .val (.int (b1_0 p4)), .val (.ref o79), .unset, .unset] []))
                    exact J242  T92 _ X92 e92 N92
                  · refine go (fun t k => XS.icmpNo X92.here hx rfl (hb hby at_229) rfl (feq hc229).1 k) ?_
                    show Gl _ _ _ _ _ _ _ _ (T92.setTop (mkF m 232 #[.val (.int p1), .val (.int p2), .val (.int p3), .val (.int p4), .val (.int p5), .val (.int ((p5 &&& (2147483647 : Int32)) % (5 : Int32))), .val (.int (b1_0 p1)), .val (.int (b1_0 p2)), .val (.int (b1_0 p3)), .val (.int (b1_0 p4)), .val (.ref o79), .unset, .unset] []))
                    refine go (fun t k => XS.iload X92.here hx rfl (hb hby at_232) rfl  k) ?_
                    show Gl _ _ _ _ _ _ _ _ (T92.setTop (mkF m 234 #[.val (.int p1), .val (.int p2), .val (.int p3), .val (.int p4), .val (.int p5), .val (.int ((p5 &&& (2147483647 : Int32)) % (5 : Int32))), .val (.int (b1_0 p1)), .val (.int (b1_0 p2)), .val (.int (b1_0 p3)), .val (.int (b1_0 p4)), .val (.ref o79), .unset, .unset] [(.int (b1_0 p4))]))
                    obtain ⟨_, _, ⟨T93, L93, k93, n93⟩, -, X93, ⟨Lc93, hQ93, l93, y93, z93⟩, st93⟩ := Jvm.LawKit.callS X92 hx (y := (⟨"com/example/policylint/policylint/PolicySyntaxOfPinLaw", "verdict", "(B)Lcom/example/policylint/policylint/PolicySyntax;"⟩ : MethodName)) hown (mvT hZ (hw _ (List.mem_of_getElem? (i := 16) rfl))) (mvT hZ (hw _ (List.mem_of_getElem? (i := 17) rfl))) (mvT hZ (hw _ (List.mem_of_getElem? (i := 3) rfl))) (mvT hZ (hw _ (List.mem_of_getElem? (i := 18) rfl))) (by decide) (backOf (W := 0) (rm4 l Z a0 hw [] (b1_0 p4) w_XACML w_COMPACT h83 n0 (Nat.le_trans (Nat.le_trans (Nat.le_trans (Nat.le_trans (Nat.le_trans (Nat.le_trans (Nat.le_trans (Nat.le_trans (Nat.le_trans Z0 K1q.1) K2q.1) K3q.1) K4q.1) E79.1) (Keep.of_wr W80).1) (Keep.of_wr W81).1) (Keep.of_wr W82).1) (Keep.of_wr W83).1) (Sta.wr W83 (Sta.wr W82 (Sta.wr W81 (Sta.wr W80 ((sta_keep0 (sta_keep0 (sta_keep0 (sta_keep0 S_XACML K1q) K2q) K3q) K4q).ext E79))))) (Sta.wr W83 (Sta.wr W82 (Sta.wr W81 (Sta.wr W80 ((sta_keep0 (sta_keep0 (sta_keep0 (sta_keep0 S_COMPACT K1q) K2q) K3q) K4q).ext E79)))))) hZ (hw _ (List.mem_of_getElem? (i := 18) rfl)) (hw _ (List.mem_of_getElem? (i := 3) rfl)) (by decide) (by decide)) (g := (mkF m 234 #[.val (.int p1), .val (.int p2), .val (.int p3), .val (.int p4), .val (.int p5), .val (.int ((p5 &&& (2147483647 : Int32)) % (5 : Int32))), .val (.int (b1_0 p1)), .val (.int (b1_0 p2)), .val (.int (b1_0 p3)), .val (.int (b1_0 p4)), .val (.ref o79), .unset, .unset] [(.int (b1_0 p4))])) rfl (by rw [hml]; rfl) (argsL := [(.int (b1_0 p4))]) (rest := []) (lenOf pd_3 rfl) rfl (by show 2 * 0 + _ ≤ _; exact Nat.le_of_eq rfl) (hb hby at_234) (fun _ _ => ⟨rfl, e92, (by decide : 5 + 0 ≤ _), (by decide : 48 + 0 ≤ _)⟩)
                    dsimp only [Pt.U, Pt.locs, Pt.cells, Pt.slots] at X93 l93 y93 z93 st93 hQ93
                    subst l93 y93 z93
                    have X93 : Stand p l e room_1 s m #[(.int p1), (.int p2), (.int p3), (.int p4), (.int p5)] below meth c T93 _ 5 48 := X93
                    obtain ⟨⟨rfl, e93'⟩, N93q⟩ := hQ93
                    have e93 : T93.heap = h83 := e93'
                    have N93 := Fr.app N92 N93q
                    refine go (fun t k => st93 _ k) ?_
                    show Gl _ _ _ _ _ _ _ _ (T93.setTop (mkF m 237 #[.val (.int p1), .val (.int p2), .val (.int p3), .val (.int p4), .val (.int p5), .val (.int ((p5 &&& (2147483647 : Int32)) % (5 : Int32))), .val (.int (b1_0 p1)), .val (.int (b1_0 p2)), .val (.int (b1_0 p3)), .val (.int (b1_0 p4)), .val (.ref o79), .unset, .unset] [(.ref (b4_0 (b1_0 p4) w_XACML w_COMPACT))]))
                    refine go (fun t k => XS.astore X93.here hx rfl (hb hby at_237) rfl rfl (l' := #[.val (.int p1), .val (.int p2), .val (.int p3), .val (.int p4), .val (.int p5), .val (.int ((p5 &&& (2147483647 : Int32)) % (5 : Int32))), .val (.int (b1_0 p1)), .val (.int (b1_0 p2)), .val (.int (b1_0 p3)), .val (.int (b1_0 p4)), .val (.ref o79), .val (.ref (b4_0 (b1_0 p4) w_XACML w_COMPACT)), .unset]) rfl k) ?_
                    show Gl _ _ _ _ _ _ _ _ (T93.setTop (mkF m 239 #[.val (.int p1), .val (.int p2), .val (.int p3), .val (.int p4), .val (.int p5), .val (.int ((p5 &&& (2147483647 : Int32)) % (5 : Int32))), .val (.int (b1_0 p1)), .val (.int (b1_0 p2)), .val (.int (b1_0 p3)), .val (.int (b1_0 p4)), .val (.ref o79), .val (.ref (b4_0 (b1_0 p4) w_XACML w_COMPACT)), .unset] []))
                    refine go (fun t k => XS.goto X93.here hx rfl (pc0 := 239) (pc' := 247) rfl (hb hby at_239) (by decide) (by decide) k) ?_
                    show Gl _ _ _ _ _ _ _ _ (T93.setTop (mkF m 247 #[.val (.int p1), .val (.int p2), .val (.int p3), .val (.int p4), .val (.int p5), .val (.int ((p5 &&& (2147483647 : Int32)) % (5 : Int32))), .val (.int (b1_0 p1)), .val (.int (b1_0 p2)), .val (.int (b1_0 p3)), .val (.int (b1_0 p4)), .val (.ref o79), .val (.ref (b4_0 (b1_0 p4) w_XACML w_COMPACT)), .unset] []))
                    exact J247 (b4_0 (b1_0 p4) w_XACML w_COMPACT) T93 _ X93 e93 N93
                · refine go (fun t k => XS.icmpYes XJ217.here hx rfl (pc0 := 220) (pc' := 242) rfl (hb hby at_220) rfl (flt hc220).2.2.2 (by decide) (by decide) k) ?_
                  show Gl _ _ _ _ _ _ _ _ (TJ217.setTop (mkF m 242 #[.val (.int p1), .val (.int p2), .val (.int p3), .val (.int p4), .val (.int p5), .val (.int ((p5 &&& (2147483647 : Int32)) % (5 : Int32))), .val (.int (b1_0 p1)), .val (.int (b1_0 p2)), .val (.int (b1_0 p3)), .val (.int (b1_0 p4)), .val (.ref o79), .unset, .unset] []))
                  exact J242  TJ217 _ XJ217 eJ217 NJ217
              refine gI (c := (2 : Int32) < ((p5 &&& (2147483647 : Int32)) % (5 : Int32))) (fun hc195 => ?_) (fun hc195 => ?_)
              · refine go (fun t k => XS.icmpNo XJ192.here hx rfl (hb hby at_195) rfl (tlt hc195).2.2.2 k) ?_
                show Gl _ _ _ _ _ _ _ _ (TJ192.setTop (mkF m 198 #[.val (.int p1), .val (.int p2), .val (.int p3), .val (.int p4), .val (.int p5), .val (.int ((p5 &&& (2147483647 : Int32)) % (5 : Int32))), .val (.int (b1_0 p1)), .val (.int (b1_0 p2)), .val (.int (b1_0 p3)), .val (.int (b1_0 p4)), .val (.ref o79), .unset, .unset] []))
                refine go (fun t k => XS.iload XJ192.here hx rfl (hb hby at_198) rfl  k) ?_
                show Gl _ _ _ _ _ _ _ _ (TJ192.setTop (mkF m 200 #[.val (.int p1), .val (.int p2), .val (.int p3), .val (.int p4), .val (.int p5), .val (.int ((p5 &&& (2147483647 : Int32)) % (5 : Int32))), .val (.int (b1_0 p1)), .val (.int (b1_0 p2)), .val (.int (b1_0 p3)), .val (.int (b1_0 p4)), .val (.ref o79), .unset, .unset] [(.int (b1_0 p3))]))
                obtain ⟨_, _, ⟨T94, L94, k94, n94⟩, -, X94, ⟨Lc94, hQ94, l94, y94, z94⟩, st94⟩ := Jvm.LawKit.callS XJ192 hx (y := (⟨"com/example/policylint/policylint/PolicySyntaxOfPinLaw", "cls", "(B)I"⟩ : MethodName)) hown (mvT hZ (hw _ (List.mem_of_getElem? (i := 13) rfl))) (mvT hZ (hw _ (List.mem_of_getElem? (i := 14) rfl))) (mvT hZ (hw _ (List.mem_of_getElem? (i := 3) rfl))) (mvT hZ (hw _ (List.mem_of_getElem? (i := 15) rfl))) (by decide) (backOf (W := 0) (rm3 l Z a0 hw [] (b1_0 p3) h83 n0 (Nat.le_trans (Nat.le_trans (Nat.le_trans (Nat.le_trans (Nat.le_trans (Nat.le_trans (Nat.le_trans (Nat.le_trans (Nat.le_trans Z0 K1q.1) K2q.1) K3q.1) K4q.1) E79.1) (Keep.of_wr W80).1) (Keep.of_wr W81).1) (Keep.of_wr W82).1) (Keep.of_wr W83).1) ) hZ (hw _ (List.mem_of_getElem? (i := 15) rfl)) (hw _ (List.mem_of_getElem? (i := 3) rfl)) (by decide) (by decide)) (g := (mkF m 200 #[.val (.int p1), .val (.int p2), .val (.int p3), .val (.int p4), .val (.int p5), .val (.int ((p5 &&& (2147483647 : Int32)) % (5 : Int32))), .val (.int (b1_0 p1)), .val (.int (b1_0 p2)), .val (.int (b1_0 p3)), .val (.int (b1_0 p4)), .val (.ref o79), .unset, .unset] [(.int (b1_0 p3))])) rfl (by rw [hml]; rfl) (argsL := [(.int (b1_0 p3))]) (rest := []) (lenOf pd_0 rfl) rfl (by show 2 * 0 + _ ≤ _; exact Nat.le_of_eq rfl) (hb hby at_200) (fun _ _ => ⟨rfl, eJ192, (by decide : 5 + 0 ≤ _), (by decide : 48 + 0 ≤ _)⟩)
                dsimp only [Pt.U, Pt.locs, Pt.cells, Pt.slots] at X94 l94 y94 z94 st94 hQ94
                subst l94 y94 z94
                have X94 : Stand p l e room_1 s m #[(.int p1), (.int p2), (.int p3), (.int p4), (.int p5)] below meth c T94 _ 5 48 := X94
                obtain ⟨⟨rfl, e94'⟩, N94q⟩ := hQ94
                have e94 : T94.heap = h83 := e94'
                have N94 := Fr.app NJ192 N94q
                refine go (fun t k => st94 _ k) ?_
                show Gl _ _ _ _ _ _ _ _ (T94.setTop (mkF m 203 #[.val (.int p1), .val (.int p2), .val (.int p3), .val (.int p4), .val (.int p5), .val (.int ((p5 &&& (2147483647 : Int32)) % (5 : Int32))), .val (.int (b1_0 p1)), .val (.int (b1_0 p2)), .val (.int (b1_0 p3)), .val (.int (b1_0 p4)), .val (.ref o79), .unset, .unset] [(.int (b3_0 (b1_0 p3)))]))
                refine go (fun t k => XS.iconst X94.here hx rfl (hb hby at_203) k) ?_
                show Gl _ _ _ _ _ _ _ _ (T94.setTop (mkF m 204 #[.val (.int p1), .val (.int p2), .val (.int p3), .val (.int p4), .val (.int p5), .val (.int ((p5 &&& (2147483647 : Int32)) % (5 : Int32))), .val (.int (b1_0 p1)), .val (.int (b1_0 p2)), .val (.int (b1_0 p3)), .val (.int (b1_0 p4)), .val (.ref o79), .unset, .unset] [(.int (1 : Int32)), (.int (b3_0 (b1_0 p3)))]))
                refine gI (c := (b3_0 (b1_0 p3)) = (1 : Int32)) (fun hc204 => ?_) (fun hc204 => ?_)
                · refine go (fun t k => XS.icmpYes X94.here hx rfl (pc0 := 204) (pc' := 217) rfl (hb hby at_204) rfl (teq hc204).1 (by decide) (by decide) k) ?_
                  show Gl _ _ _ _ _ _ _ _ (T94.setTop (mkF m 217 #[.val (.int p1), .val (.int p2), .val (.int p3), .val (.int p4), .val (.int p5), .val (.int ((p5 &&& (2147483647 : Int32)) % (5 : Int32))), .val (.int (b1_0 p1)), .val (.int (b1_0 p2)), .val (.int (b1_0 p3)), .val (.int (b1_0 p4)), .val (.ref o79), .unset, .unset] []))
                  exact J217  T94 _ X94 e94 N94
                · refine go (fun t k => XS.icmpNo X94.here hx rfl (hb hby at_204) rfl (feq hc204).1 k) ?_
                  show Gl _ _ _ _ _ _ _ _ (T94.setTop (mkF m 207 #[.val (.int p1), .val (.int p2), .val (.int p3), .val (.int p4), .val (.int p5), .val (.int ((p5 &&& (2147483647 : Int32)) % (5 : Int32))), .val (.int (b1_0 p1)), .val (.int (b1_0 p2)), .val (.int (b1_0 p3)), .val (.int (b1_0 p4)), .val (.ref o79), .unset, .unset] []))
                  refine go (fun t k => XS.iload X94.here hx rfl (hb hby at_207) rfl  k) ?_
                  show Gl _ _ _ _ _ _ _ _ (T94.setTop (mkF m 209 #[.val (.int p1), .val (.int p2), .val (.int p3), .val (.int p4), .val (.int p5), .val (.int ((p5 &&& (2147483647 : Int32)) % (5 : Int32))), .val (.int (b1_0 p1)), .val (.int (b1_0 p2)), .val (.int (b1_0 p3)), .val (.int (b1_0 p4)), .val (.ref o79), .unset, .unset] [(.int (b1_0 p3))]))
                  obtain ⟨_, _, ⟨T95, L95, k95, n95⟩, -, X95, ⟨Lc95, hQ95, l95, y95, z95⟩, st95⟩ := Jvm.LawKit.callS X94 hx (y := (⟨"com/example/policylint/policylint/PolicySyntaxOfPinLaw", "verdict", "(B)Lcom/example/policylint/policylint/PolicySyntax;"⟩ : MethodName)) hown (mvT hZ (hw _ (List.mem_of_getElem? (i := 16) rfl))) (mvT hZ (hw _ (List.mem_of_getElem? (i := 17) rfl))) (mvT hZ (hw _ (List.mem_of_getElem? (i := 3) rfl))) (mvT hZ (hw _ (List.mem_of_getElem? (i := 18) rfl))) (by decide) (backOf (W := 0) (rm4 l Z a0 hw [] (b1_0 p3) w_XACML w_COMPACT h83 n0 (Nat.le_trans (Nat.le_trans (Nat.le_trans (Nat.le_trans (Nat.le_trans (Nat.le_trans (Nat.le_trans (Nat.le_trans (Nat.le_trans Z0 K1q.1) K2q.1) K3q.1) K4q.1) E79.1) (Keep.of_wr W80).1) (Keep.of_wr W81).1) (Keep.of_wr W82).1) (Keep.of_wr W83).1) (Sta.wr W83 (Sta.wr W82 (Sta.wr W81 (Sta.wr W80 ((sta_keep0 (sta_keep0 (sta_keep0 (sta_keep0 S_XACML K1q) K2q) K3q) K4q).ext E79))))) (Sta.wr W83 (Sta.wr W82 (Sta.wr W81 (Sta.wr W80 ((sta_keep0 (sta_keep0 (sta_keep0 (sta_keep0 S_COMPACT K1q) K2q) K3q) K4q).ext E79)))))) hZ (hw _ (List.mem_of_getElem? (i := 18) rfl)) (hw _ (List.mem_of_getElem? (i := 3) rfl)) (by decide) (by decide)) (g := (mkF m 209 #[.val (.int p1), .val (.int p2), .val (.int p3), .val (.int p4), .val (.int p5), .val (.int ((p5 &&& (2147483647 : Int32)) % (5 : Int32))), .val (.int (b1_0 p1)), .val (.int (b1_0 p2)), .val (.int (b1_0 p3)), .val (.int (b1_0 p4)), .val (.ref o79), .unset, .unset] [(.int (b1_0 p3))])) rfl (by rw [hml]; rfl) (argsL := [(.int (b1_0 p3))]) (rest := []) (lenOf pd_3 rfl) rfl (by show 2 * 0 + _ ≤ _; exact Nat.le_of_eq rfl) (hb hby at_209) (fun _ _ => ⟨rfl, e94, (by decide : 5 + 0 ≤ _), (by decide : 48 + 0 ≤ _)⟩)
                  dsimp only [Pt.U, Pt.locs, Pt.cells, Pt.slots] at X95 l95 y95 z95 st95 hQ95
                  subst l95 y95 z95
                  have X95 : Stand p l e room_1 s m #[(.int p1), (.int p2), (.int p3), (.int p4), (.int p5)] below meth c T95 _ 5 48 := X95
                  obtain ⟨⟨rfl, e95'⟩, N95q⟩ := hQ95
                  have e95 : T95.heap = h83 := e95'
                  have N95 := Fr.app N94 N95q
                  refine go (fun t k => st95 _ k) ?_
                  show Gl _ _ _ _ _ _ _ _ (T95.setTop (mkF m 212 #[.val (.int p1), .val (.int p2), .val (.int p3), .val (.int p4), .val (.int p5), .val (.int ((p5 &&& (2147483647 : Int32)) % (5 : Int32))), .val (.int (b1_0 p1)), .val (.int (b1_0 p2)), .val (.int (b1_0 p3)), .val (.int (b1_0 p4)), .val (.ref o79), .unset, .unset] [(.ref (b4_0 (b1_0 p3) w_XACML w_COMPACT))]))
                  refine go (fun t k => XS.astore X95.here hx rfl (hb hby at_212) rfl rfl (l' := #[.val (.int p1), .val (.int p2), .val (.int p3), .val (.int p4), .val (.int p5), .val (.int ((p5 &&& (2147483647 : Int32)) % (5 : Int32))), .val (.int (b1_0 p1)), .val (.int (b1_0 p2)), .val (.int (b1_0 p3)), .val (.int (b1_0 p4)), .val (.ref o79), .val (.ref (b4_0 (b1_0 p3) w_XACML w_COMPACT)), .unset]) rfl k) ?_
                  show Gl _ _ _ _ _ _ _ _ (T95.setTop (mkF m 214 #[.val (.int p1), .val (.int p2), .val (.int p3), .val (.int p4), .val (.int p5), .val (.int ((p5 &&& (2147483647 : Int32)) % (5 : Int32))), .val (.int (b1_0 p1)), .val (.int (b1_0 p2)), .val (.int (b1_0 p3)), .val (.int (b1_0 p4)), .val (.ref o79), .val (.ref (b4_0 (b1_0 p3) w_XACML w_COMPACT)), .unset] []))
                  refine go (fun t k => XS.goto X95.here hx rfl (pc0 := 214) (pc' := 247) rfl (hb hby at_214) (by decide) (by decide) k) ?_
                  show Gl _ _ _ _ _ _ _ _ (T95.setTop (mkF m 247 #[.val (.int p1), .val (.int p2), .val (.int p3), .val (.int p4), .val (.int p5), .val (.int ((p5 &&& (2147483647 : Int32)) % (5 : Int32))), .val (.int (b1_0 p1)), .val (.int (b1_0 p2)), .val (.int (b1_0 p3)), .val (.int (b1_0 p4)), .val (.ref o79), .val (.ref (b4_0 (b1_0 p3) w_XACML w_COMPACT)), .unset] []))
                  exact J247 (b4_0 (b1_0 p3) w_XACML w_COMPACT) T95 _ X95 e95 N95
              · refine go (fun t k => XS.icmpYes XJ192.here hx rfl (pc0 := 195) (pc' := 217) rfl (hb hby at_195) rfl (flt hc195).2.2.2 (by decide) (by decide) k) ?_
                show Gl _ _ _ _ _ _ _ _ (TJ192.setTop (mkF m 217 #[.val (.int p1), .val (.int p2), .val (.int p3), .val (.int p4), .val (.int p5), .val (.int ((p5 &&& (2147483647 : Int32)) % (5 : Int32))), .val (.int (b1_0 p1)), .val (.int (b1_0 p2)), .val (.int (b1_0 p3)), .val (.int (b1_0 p4)), .val (.ref o79), .unset, .unset] []))
                exact J217  TJ192 _ XJ192 eJ192 NJ192
            refine gI (c := (1 : Int32) < ((p5 &&& (2147483647 : Int32)) % (5 : Int32))) (fun hc170 => ?_) (fun hc170 => ?_)
            · refine go (fun t k => XS.icmpNo XJ167.here hx rfl (hb hby at_170) rfl (tlt hc170).2.2.2 k) ?_
              show Gl _ _ _ _ _ _ _ _ (TJ167.setTop (mkF m 173 #[.val (.int p1), .val (.int p2), .val (.int p3), .val (.int p4), .val (.int p5), .val (.int ((p5 &&& (2147483647 : Int32)) % (5 : Int32))), .val (.int (b1_0 p1)), .val (.int (b1_0 p2)), .val (.int (b1_0 p3)), .val (.int (b1_0 p4)), .val (.ref o79), .unset, .unset] []))
              refine go (fun t k => XS.iload XJ167.here hx rfl (hb hby at_173) rfl  k) ?_
              show Gl _ _ _ _ _ _ _ _ (TJ167.setTop (mkF m 175 #[.val (.int p1), .val (.int p2), .val (.int p3), .val (.int p4), .val (.int p5), .val (.int ((p5 &&& (2147483647 : Int32)) % (5 : Int32))), .val (.int (b1_0 p1)), .val (.int (b1_0 p2)), .val (.int (b1_0 p3)), .val (.int (b1_0 p4)), .val (.ref o79), .unset, .unset] [(.int (b1_0 p2))]))
              obtain ⟨_, _, ⟨T96, L96, k96, n96⟩, -, X96, ⟨Lc96, hQ96, l96, y96, z96⟩, st96⟩ := Jvm.LawKit.callS XJ167 hx (y := (⟨"com/example/policylint/policylint/PolicySyntaxOfPinLaw", "cls", "(B)I"⟩ : MethodName)) hown (mvT hZ (hw _ (List.mem_of_getElem? (i := 13) rfl))) (mvT hZ (hw _ (List.mem_of_getElem? (i := 14) rfl))) (mvT hZ (hw _ (List.mem_of_getElem? (i := 3) rfl))) (mvT hZ (hw _ (List.mem_of_getElem? (i := 15) rfl))) (by decide) (backOf (W := 0) (rm3 l Z a0 hw [] (b1_0 p2) h83 n0 (Nat.le_trans (Nat.le_trans (Nat.le_trans (Nat.le_trans (Nat.le_trans (Nat.le_trans (Nat.le_trans (Nat.le_trans (Nat.le_trans Z0 K1q.1) K2q.1) K3q.1) K4q.1) E79.1) (Keep.of_wr W80).1) (Keep.of_wr W81).1) (Keep.of_wr W82).1) (Keep.of_wr W83).1) ) hZ (hw _ (List.mem_of_getElem? (i := 15) rfl)) (hw _ (List.mem_of_getElem? (i := 3) rfl)) (by decide) (by decide)) (g := (mkF m 175 #[.val (.int p1), .val (.int p2), .val (.int p3), .val (.int p4), .val (.int p5), .val (.int ((p5 &&& (2147483647 : Int32)) % (5 : Int32))), .val (.int (b1_0 p1)), .val (.int (b1_0 p2)), .val (.int (b1_0 p3)), .val (.int (b1_0 p4)), .val (.ref o79), .unset, .unset] [(.int (b1_0 p2))])) rfl (by rw [hml]; rfl) (argsL := [(.int (b1_0 p2))]) (rest := []) (lenOf pd_0 rfl) rfl (by show 2 * 0 + _ ≤ _; exact Nat.le_of_eq rfl) (hb hby at_175) (fun _ _ => ⟨rfl, eJ167, (by decide : 5 + 0 ≤ _), (by decide : 48 + 0 ≤ _)⟩)
              dsimp only [Pt.U, Pt.locs, Pt.cells, Pt.slots] at X96 l96 y96 z96 st96 hQ96
              subst l96 y96 z96
              have X96 : Stand p l e room_1 s m #[(.int p1), (.int p2), (.int p3), (.int p4), (.int p5)] below meth c T96 _ 5 48 := X96
              obtain ⟨⟨rfl, e96'⟩, N96q⟩ := hQ96
              have e96 : T96.heap = h83 := e96'
              have N96 := Fr.app NJ167 N96q
              refine go (fun t k => st96 _ k) ?_
              show Gl _ _ _ _ _ _ _ _ (T96.setTop (mkF m 178 #[.val (.int p1), .val (.int p2), .val (.int p3), .val (.int p4), .val (.int p5), .val (.int ((p5 &&& (2147483647 : Int32)) % (5 : Int32))), .val (.int (b1_0 p1)), .val (.int (b1_0 p2)), .val (.int (b1_0 p3)), .val (.int (b1_0 p4)), .val (.ref o79), .unset, .unset] [(.int (b3_0 (b1_0 p2)))]))
              refine go (fun t k => XS.iconst X96.here hx rfl (hb hby at_178) k) ?_
              show Gl _ _ _ _ _ _ _ _ (T96.setTop (mkF m 179 #[.val (.int p1), .val (.int p2), .val (.int p3), .val (.int p4), .val (.int p5), .val (.int ((p5 &&& (2147483647 : Int32)) % (5 : Int32))), .val (.int (b1_0 p1)), .val (.int (b1_0 p2)), .val (.int (b1_0 p3)), .val (.int (b1_0 p4)), .val (.ref o79), .unset, .unset] [(.int (1 : Int32)), (.int (b3_0 (b1_0 p2)))]))
              refine gI (c := (b3_0 (b1_0 p2)) = (1 : Int32)) (fun hc179 => ?_) (fun hc179 => ?_)
              · refine go (fun t k => XS.icmpYes X96.here hx rfl (pc0 := 179) (pc' := 192) rfl (hb hby at_179) rfl (teq hc179).1 (by decide) (by decide) k) ?_
                show Gl _ _ _ _ _ _ _ _ (T96.setTop (mkF m 192 #[.val (.int p1), .val (.int p2), .val (.int p3), .val (.int p4), .val (.int p5), .val (.int ((p5 &&& (2147483647 : Int32)) % (5 : Int32))), .val (.int (b1_0 p1)), .val (.int (b1_0 p2)), .val (.int (b1_0 p3)), .val (.int (b1_0 p4)), .val (.ref o79), .unset, .unset] []))
                exact J192  T96 _ X96 e96 N96
              · refine go (fun t k => XS.icmpNo X96.here hx rfl (hb hby at_179) rfl (feq hc179).1 k) ?_
                show Gl _ _ _ _ _ _ _ _ (T96.setTop (mkF m 182 #[.val (.int p1), .val (.int p2), .val (.int p3), .val (.int p4), .val (.int p5), .val (.int ((p5 &&& (2147483647 : Int32)) % (5 : Int32))), .val (.int (b1_0 p1)), .val (.int (b1_0 p2)), .val (.int (b1_0 p3)), .val (.int (b1_0 p4)), .val (.ref o79), .unset, .unset] []))
                refine go (fun t k => XS.iload X96.here hx rfl (hb hby at_182) rfl  k) ?_
                show Gl _ _ _ _ _ _ _ _ (T96.setTop (mkF m 184 #[.val (.int p1), .val (.int p2), .val (.int p3), .val (.int p4), .val (.int p5), .val (.int ((p5 &&& (2147483647 : Int32)) % (5 : Int32))), .val (.int (b1_0 p1)), .val (.int (b1_0 p2)), .val (.int (b1_0 p3)), .val (.int (b1_0 p4)), .val (.ref o79), .unset, .unset] [(.int (b1_0 p2))]))
                obtain ⟨_, _, ⟨T97, L97, k97, n97⟩, -, X97, ⟨Lc97, hQ97, l97, y97, z97⟩, st97⟩ := Jvm.LawKit.callS X96 hx (y := (⟨"com/example/policylint/policylint/PolicySyntaxOfPinLaw", "verdict", "(B)Lcom/example/policylint/policylint/PolicySyntax;"⟩ : MethodName)) hown (mvT hZ (hw _ (List.mem_of_getElem? (i := 16) rfl))) (mvT hZ (hw _ (List.mem_of_getElem? (i := 17) rfl))) (mvT hZ (hw _ (List.mem_of_getElem? (i := 3) rfl))) (mvT hZ (hw _ (List.mem_of_getElem? (i := 18) rfl))) (by decide) (backOf (W := 0) (rm4 l Z a0 hw [] (b1_0 p2) w_XACML w_COMPACT h83 n0 (Nat.le_trans (Nat.le_trans (Nat.le_trans (Nat.le_trans (Nat.le_trans (Nat.le_trans (Nat.le_trans (Nat.le_trans (Nat.le_trans Z0 K1q.1) K2q.1) K3q.1) K4q.1) E79.1) (Keep.of_wr W80).1) (Keep.of_wr W81).1) (Keep.of_wr W82).1) (Keep.of_wr W83).1) (Sta.wr W83 (Sta.wr W82 (Sta.wr W81 (Sta.wr W80 ((sta_keep0 (sta_keep0 (sta_keep0 (sta_keep0 S_XACML K1q) K2q) K3q) K4q).ext E79))))) (Sta.wr W83 (Sta.wr W82 (Sta.wr W81 (Sta.wr W80 ((sta_keep0 (sta_keep0 (sta_keep0 (sta_keep0 S_COMPACT K1q) K2q) K3q) K4q).ext E79)))))) hZ (hw _ (List.mem_of_getElem? (i := 18) rfl)) (hw _ (List.mem_of_getElem? (i := 3) rfl)) (by decide) (by decide)) (g := (mkF m 184 #[.val (.int p1), .val (.int p2), .val (.int p3), .val (.int p4), .val (.int p5), .val (.int ((p5 &&& (2147483647 : Int32)) % (5 : Int32))), .val (.int (b1_0 p1)), .val (.int (b1_0 p2)), .val (.int (b1_0 p3)), .val (.int (b1_0 p4)), .val (.ref o79), .unset, .unset] [(.int (b1_0 p2))])) rfl (by rw [hml]; rfl) (argsL := [(.int (b1_0 p2))]) (rest := []) (lenOf pd_3 rfl) rfl (by show 2 * 0 + _ ≤ _; exact Nat.le_of_eq rfl) (hb hby at_184) (fun _ _ => ⟨rfl, e96, (by decide : 5 + 0 ≤ _), (by decide : 48 + 0 ≤ _)⟩)
                dsimp only [Pt.U, Pt.locs, Pt.cells, Pt.slots] at X97 l97 y97 z97 st97 hQ97
                subst l97 y97 z97
                have X97 : Stand p l e room_1 s m #[(.int p1), (.int p2), (.int p3), (.int p4), (.int p5)] below meth c T97 _ 5 48 := X97
                obtain ⟨⟨rfl, e97'⟩, N97q⟩ := hQ97
                have e97 : T97.heap = h83 := e97'
                have N97 := Fr.app N96 N97q
                refine go (fun t k => st97 _ k) ?_
                show Gl _ _ _ _ _ _ _ _ (T97.setTop (mkF m 187 #[.val (.int p1), .val (.int p2), .val (.int p3), .val (.int p4), .val (.int p5), .val (.int ((p5 &&& (2147483647 : Int32)) % (5 : Int32))), .val (.int (b1_0 p1)), .val (.int (b1_0 p2)), .val (.int (b1_0 p3)), .val (.int (b1_0 p4)), .val (.ref o79), .unset, .unset] [(.ref (b4_0 (b1_0 p2) w_XACML w_COMPACT))]))
                refine go (fun t k => XS.astore X97.here hx rfl (hb hby at_187) rfl rfl (l' := #[.val (.int p1), .val (.int p2), .val (.int p3), .val (.int p4), .val (.int p5), .val (.int ((p5 &&& (2147483647 : Int32)) % (5 : Int32))), .val (.int (b1_0 p1)), .val (.int (b1_0 p2)), .val (.int (b1_0 p3)), .val (.int (b1_0 p4)), .val (.ref o79), .val (.ref (b4_0 (b1_0 p2) w_XACML w_COMPACT)), .unset]) rfl k) ?_
                show Gl _ _ _ _ _ _ _ _ (T97.setTop (mkF m 189 #[.val (.int p1), .val (.int p2), .val (.int p3), .val (.int p4), .val (.int p5), .val (.int ((p5 &&& (2147483647 : Int32)) % (5 : Int32))), .val (.int (b1_0 p1)), .val (.int (b1_0 p2)), .val (.int (b1_0 p3)), .val (.int (b1_0 p4)), .val (.ref o79), .val (.ref (b4_0 (b1_0 p2) w_XACML w_COMPACT)), .unset] []))
                refine go (fun t k => XS.goto X97.here hx rfl (pc0 := 189) (pc' := 247) rfl (hb hby at_189) (by decide) (by decide) k) ?_
                show Gl _ _ _ _ _ _ _ _ (T97.setTop (mkF m 247 #[.val (.int p1), .val (.int p2), .val (.int p3), .val (.int p4), .val (.int p5), .val (.int ((p5 &&& (2147483647 : Int32)) % (5 : Int32))), .val (.int (b1_0 p1)), .val (.int (b1_0 p2)), .val (.int (b1_0 p3)), .val (.int (b1_0 p4)), .val (.ref o79), .val (.ref (b4_0 (b1_0 p2) w_XACML w_COMPACT)), .unset] []))
                exact J247 (b4_0 (b1_0 p2) w_XACML w_COMPACT) T97 _ X97 e97 N97
            · refine go (fun t k => XS.icmpYes XJ167.here hx rfl (pc0 := 170) (pc' := 192) rfl (hb hby at_170) rfl (flt hc170).2.2.2 (by decide) (by decide) k) ?_
              show Gl _ _ _ _ _ _ _ _ (TJ167.setTop (mkF m 192 #[.val (.int p1), .val (.int p2), .val (.int p3), .val (.int p4), .val (.int p5), .val (.int ((p5 &&& (2147483647 : Int32)) % (5 : Int32))), .val (.int (b1_0 p1)), .val (.int (b1_0 p2)), .val (.int (b1_0 p3)), .val (.int (b1_0 p4)), .val (.ref o79), .unset, .unset] []))
              exact J192  TJ167 _ XJ167 eJ167 NJ167
          refine gI (c := (0 : Int32) < ((p5 &&& (2147483647 : Int32)) % (5 : Int32))) (fun hc145 => ?_) (fun hc145 => ?_)
          · refine go (fun t k => XS.ifNo X83.here hx rfl (hb hby at_145) rfl ((if0 _ _).trans (tlt hc145).2.2.2) k) ?_
            show Gl _ _ _ _ _ _ _ _ (T83.setTop (mkF m 148 #[.val (.int p1), .val (.int p2), .val (.int p3), .val (.int p4), .val (.int p5), .val (.int ((p5 &&& (2147483647 : Int32)) % (5 : Int32))), .val (.int (b1_0 p1)), .val (.int (b1_0 p2)), .val (.int (b1_0 p3)), .val (.int (b1_0 p4)), .val (.ref o79), .unset, .unset] []))
            refine go (fun t k => XS.iload X83.here hx rfl (hb hby at_148) rfl  k) ?_
            show Gl _ _ _ _ _ _ _ _ (T83.setTop (mkF m 150 #[.val (.int p1), .val (.int p2), .val (.int p3), .val (.int p4), .val (.int p5), .val (.int ((p5 &&& (2147483647 : Int32)) % (5 : Int32))), .val (.int (b1_0 p1)), .val (.int (b1_0 p2)), .val (.int (b1_0 p3)), .val (.int (b1_0 p4)), .val (.ref o79), .unset, .unset] [(.int (b1_0 p1))]))
            obtain ⟨_, _, ⟨T98, L98, k98, n98⟩, -, X98, ⟨Lc98, hQ98, l98, y98, z98⟩, st98⟩ := Jvm.LawKit.callS X83 hx (y := (⟨"com/example/policylint/policylint/PolicySyntaxOfPinLaw", "cls", "(B)I"⟩ : MethodName)) hown (mvT hZ (hw _ (List.mem_of_getElem? (i := 13) rfl))) (mvT hZ (hw _ (List.mem_of_getElem? (i := 14) rfl))) (mvT hZ (hw _ (List.mem_of_getElem? (i := 3) rfl))) (mvT hZ (hw _ (List.mem_of_getElem? (i := 15) rfl))) (by decide) (backOf (W := 0) (rm3 l Z a0 hw [] (b1_0 p1) h83 n0 (Nat.le_trans (Nat.le_trans (Nat.le_trans (Nat.le_trans (Nat.le_trans (Nat.le_trans (Nat.le_trans (Nat.le_trans (Nat.le_trans Z0 K1q.1) K2q.1) K3q.1) K4q.1) E79.1) (Keep.of_wr W80).1) (Keep.of_wr W81).1) (Keep.of_wr W82).1) (Keep.of_wr W83).1) ) hZ (hw _ (List.mem_of_getElem? (i := 15) rfl)) (hw _ (List.mem_of_getElem? (i := 3) rfl)) (by decide) (by decide)) (g := (mkF m 150 #[.val (.int p1), .val (.int p2), .val (.int p3), .val (.int p4), .val (.int p5), .val (.int ((p5 &&& (2147483647 : Int32)) % (5 : Int32))), .val (.int (b1_0 p1)), .val (.int (b1_0 p2)), .val (.int (b1_0 p3)), .val (.int (b1_0 p4)), .val (.ref o79), .unset, .unset] [(.int (b1_0 p1))])) rfl (by rw [hml]; rfl) (argsL := [(.int (b1_0 p1))]) (rest := []) (lenOf pd_0 rfl) rfl (by show 2 * 0 + _ ≤ _; exact Nat.le_of_eq rfl) (hb hby at_150) (fun _ _ => ⟨rfl, e83, (by decide : 5 + 0 ≤ _), (by decide : 48 + 0 ≤ _)⟩)
            dsimp only [Pt.U, Pt.locs, Pt.cells, Pt.slots] at X98 l98 y98 z98 st98 hQ98
            subst l98 y98 z98
            have X98 : Stand p l e room_1 s m #[(.int p1), (.int p2), (.int p3), (.int p4), (.int p5)] below meth c T98 _ 5 48 := X98
            obtain ⟨⟨rfl, e98'⟩, N98q⟩ := hQ98
            have e98 : T98.heap = h83 := e98'
            have N98 := Fr.app N83 N98q
            refine go (fun t k => st98 _ k) ?_
            show Gl _ _ _ _ _ _ _ _ (T98.setTop (mkF m 153 #[.val (.int p1), .val (.int p2), .val (.int p3), .val (.int p4), .val (.int p5), .val (.int ((p5 &&& (2147483647 : Int32)) % (5 : Int32))), .val (.int (b1_0 p1)), .val (.int (b1_0 p2)), .val (.int (b1_0 p3)), .val (.int (b1_0 p4)), .val (.ref o79), .unset, .unset] [(.int (b3_0 (b1_0 p1)))]))
            refine go (fun t k => XS.iconst X98.here hx rfl (hb hby at_153) k) ?_
            show Gl _ _ _ _ _ _ _ _ (T98.setTop (mkF m 154 #[.val (.int p1), .val (.int p2), .val (.int p3), .val (.int p4), .val (.int p5), .val (.int ((p5 &&& (2147483647 : Int32)) % (5 : Int32))), .val (.int (b1_0 p1)), .val (.int (b1_0 p2)), .val (.int (b1_0 p3)), .val (.int (b1_0 p4)), .val (.ref o79), .unset, .unset] [(.int (1 : Int32)), (.int (b3_0 (b1_0 p1)))]))
            refine gI (c := (b3_0 (b1_0 p1)) = (1 : Int32)) (fun hc154 => ?_) (fun hc154 => ?_)
            · refine go (fun t k => XS.icmpYes X98.here hx rfl (pc0 := 154) (pc' := 167) rfl (hb hby at_154) rfl (teq hc154).1 (by decide) (by decide) k) ?_
              show Gl _ _ _ _ _ _ _ _ (T98.setTop (mkF m 167 #[.val (.int p1), .val (.int p2), .val (.int p3), .val (.int p4), .val (.int p5), .val (.int ((p5 &&& (2147483647 : Int32)) % (5 : Int32))), .val (.int (b1_0 p1)), .val (.int (b1_0 p2)), .val (.int (b1_0 p3)), .val (.int (b1_0 p4)), .val (.ref o79), .unset, .unset] []))
              exact J167  T98 _ X98 e98 N98
            · refine go (fun t k => XS.icmpNo X98.here hx rfl (hb hby at_154) rfl (feq hc154).1 k) ?_
              show Gl _ _ _ _ _ _ _ _ (T98.setTop (mkF m 157 #[.val (.int p1), .val (.int p2), .val (.int p3), .val (.int p4), .val (.int p5), .val (.int ((p5 &&& (2147483647 : Int32)) % (5 : Int32))), .val (.int (b1_0 p1)), .val (.int (b1_0 p2)), .val (.int (b1_0 p3)), .val (.int (b1_0 p4)), .val (.ref o79), .unset, .unset] []))
              refine go (fun t k => XS.iload X98.here hx rfl (hb hby at_157) rfl  k) ?_
              show Gl _ _ _ _ _ _ _ _ (T98.setTop (mkF m 159 #[.val (.int p1), .val (.int p2), .val (.int p3), .val (.int p4), .val (.int p5), .val (.int ((p5 &&& (2147483647 : Int32)) % (5 : Int32))), .val (.int (b1_0 p1)), .val (.int (b1_0 p2)), .val (.int (b1_0 p3)), .val (.int (b1_0 p4)), .val (.ref o79), .unset, .unset] [(.int (b1_0 p1))]))
              obtain ⟨_, _, ⟨T99, L99, k99, n99⟩, -, X99, ⟨Lc99, hQ99, l99, y99, z99⟩, st99⟩ := Jvm.LawKit.callS X98 hx (y := (⟨"com/example/policylint/policylint/PolicySyntaxOfPinLaw", "verdict", "(B)Lcom/example/policylint/policylint/PolicySyntax;"⟩ : MethodName)) hown (mvT hZ (hw _ (List.mem_of_getElem? (i := 16) rfl))) (mvT hZ (hw _ (List.mem_of_getElem? (i := 17) rfl))) (mvT hZ (hw _ (List.mem_of_getElem? (i := 3) rfl))) (mvT hZ (hw _ (List.mem_of_getElem? (i := 18) rfl))) (by decide) (backOf (W := 0) (rm4 l Z a0 hw [] (b1_0 p1) w_XACML w_COMPACT h83 n0 (Nat.le_trans (Nat.le_trans (Nat.le_trans (Nat.le_trans (Nat.le_trans (Nat.le_trans (Nat.le_trans (Nat.le_trans (Nat.le_trans Z0 K1q.1) K2q.1) K3q.1) K4q.1) E79.1) (Keep.of_wr W80).1) (Keep.of_wr W81).1) (Keep.of_wr W82).1) (Keep.of_wr W83).1) (Sta.wr W83 (Sta.wr W82 (Sta.wr W81 (Sta.wr W80 ((sta_keep0 (sta_keep0 (sta_keep0 (sta_keep0 S_XACML K1q) K2q) K3q) K4q).ext E79))))) (Sta.wr W83 (Sta.wr W82 (Sta.wr W81 (Sta.wr W80 ((sta_keep0 (sta_keep0 (sta_keep0 (sta_keep0 S_COMPACT K1q) K2q) K3q) K4q).ext E79)))))) hZ (hw _ (List.mem_of_getElem? (i := 18) rfl)) (hw _ (List.mem_of_getElem? (i := 3) rfl)) (by decide) (by decide)) (g := (mkF m 159 #[.val (.int p1), .val (.int p2), .val (.int p3), .val (.int p4), .val (.int p5), .val (.int ((p5 &&& (2147483647 : Int32)) % (5 : Int32))), .val (.int (b1_0 p1)), .val (.int (b1_0 p2)), .val (.int (b1_0 p3)), .val (.int (b1_0 p4)), .val (.ref o79), .unset, .unset] [(.int (b1_0 p1))])) rfl (by rw [hml]; rfl) (argsL := [(.int (b1_0 p1))]) (rest := []) (lenOf pd_3 rfl) rfl (by show 2 * 0 + _ ≤ _; exact Nat.le_of_eq rfl) (hb hby at_159) (fun _ _ => ⟨rfl, e98, (by decide : 5 + 0 ≤ _), (by decide : 48 + 0 ≤ _)⟩)
              dsimp only [Pt.U, Pt.locs, Pt.cells, Pt.slots] at X99 l99 y99 z99 st99 hQ99
              subst l99 y99 z99
              have X99 : Stand p l e room_1 s m #[(.int p1), (.int p2), (.int p3), (.int p4), (.int p5)] below meth c T99 _ 5 48 := X99
              obtain ⟨⟨rfl, e99'⟩, N99q⟩ := hQ99
              have e99 : T99.heap = h83 := e99'
              have N99 := Fr.app N98 N99q
              refine go (fun t k => st99 _ k) ?_
              show Gl _ _ _ _ _ _ _ _ (T99.setTop (mkF m 162 #[.val (.int p1), .val (.int p2), .val (.int p3), .val (.int p4), .val (.int p5), .val (.int ((p5 &&& (2147483647 : Int32)) % (5 : Int32))), .val (.int (b1_0 p1)), .val (.int (b1_0 p2)), .val (.int (b1_0 p3)), .val (.int (b1_0 p4)), .val (.ref o79), .unset, .unset] [(.ref (b4_0 (b1_0 p1) w_XACML w_COMPACT))]))
              refine go (fun t k => XS.astore X99.here hx rfl (hb hby at_162) rfl rfl (l' := #[.val (.int p1), .val (.int p2), .val (.int p3), .val (.int p4), .val (.int p5), .val (.int ((p5 &&& (2147483647 : Int32)) % (5 : Int32))), .val (.int (b1_0 p1)), .val (.int (b1_0 p2)), .val (.int (b1_0 p3)), .val (.int (b1_0 p4)), .val (.ref o79), .val (.ref (b4_0 (b1_0 p1) w_XACML w_COMPACT)), .unset]) rfl k) ?_
              show Gl _ _ _ _ _ _ _ _ (T99.setTop (mkF m 164 #[.val (.int p1), .val (.int p2), .val (.int p3), .val (.int p4), .val (.int p5), .val (.int ((p5 &&& (2147483647 : Int32)) % (5 : Int32))), .val (.int (b1_0 p1)), .val (.int (b1_0 p2)), .val (.int (b1_0 p3)), .val (.int (b1_0 p4)), .val (.ref o79), .val (.ref (b4_0 (b1_0 p1) w_XACML w_COMPACT)), .unset] []))
              refine go (fun t k => XS.goto X99.here hx rfl (pc0 := 164) (pc' := 247) rfl (hb hby at_164) (by decide) (by decide) k) ?_
              show Gl _ _ _ _ _ _ _ _ (T99.setTop (mkF m 247 #[.val (.int p1), .val (.int p2), .val (.int p3), .val (.int p4), .val (.int p5), .val (.int ((p5 &&& (2147483647 : Int32)) % (5 : Int32))), .val (.int (b1_0 p1)), .val (.int (b1_0 p2)), .val (.int (b1_0 p3)), .val (.int (b1_0 p4)), .val (.ref o79), .val (.ref (b4_0 (b1_0 p1) w_XACML w_COMPACT)), .unset] []))
              exact J247 (b4_0 (b1_0 p1) w_XACML w_COMPACT) T99 _ X99 e99 N99
          · refine go (fun t k => XS.ifYes X83.here hx rfl (pc0 := 145) (pc' := 167) rfl (hb hby at_145) rfl ((if0 _ _).trans (flt hc145).2.2.2) (by decide) (by decide) k) ?_
            show Gl _ _ _ _ _ _ _ _ (T83.setTop (mkF m 167 #[.val (.int p1), .val (.int p2), .val (.int p3), .val (.int p4), .val (.int p5), .val (.int ((p5 &&& (2147483647 : Int32)) % (5 : Int32))), .val (.int (b1_0 p1)), .val (.int (b1_0 p2)), .val (.int (b1_0 p3)), .val (.int (b1_0 p4)), .val (.ref o79), .unset, .unset] []))
            exact J167  T83 _ X83 e83 N83
def own_skip (u : Int32) : Bool := decide (u = 32 ∨ u = 9 ∨ u = 13 ∨ u = 10 ∨ u = 0 ∨ u = -17 ∨ u = -69 ∨ u = -65 ∨ u = -2 ∨ u = -1)
theorem own_chain {A : Type} (u : Int32) (t f : A) : (if u = (32 : Int32) then t else (if u = (9 : Int32) then t else (if u = (13 : Int32) then t else (if u = (10 : Int32) then t else (if u = (0 : Int32) then t else (if u = (-17 : Int32) then t else (if u = (-69 : Int32) then t else (if u = (-65 : Int32) then t else (if u = (-2 : Int32) then t else (if u = (-1 : Int32) then t else f)))))))))) = if own_skip u = true then t else f := by
  have e : own_skip u = true ↔ (u = 32 ∨ u = 9 ∨ u = 13 ∨ u = 10 ∨ u = 0 ∨ u = -17 ∨ u = -69 ∨ u = -65 ∨ u = -2 ∨ u = -1) := decide_eq_true_iff
  by_cases h : own_skip u = true
  · rw [if_pos h]
    rcases e.mp h with rfl | rfl | rfl | rfl | rfl | rfl | rfl | rfl | rfl | rfl <;> rfl
  · rw [if_neg h]
    have h' := mt e.mpr h
    simp only [not_or] at h'
    obtain ⟨h1, h2, h3, h4, h5, h6, h7, h8, h9, h10⟩ := h'
    rw [if_neg h1, if_neg h2, if_neg h3, if_neg h4, if_neg h5, if_neg h6, if_neg h7, if_neg h8, if_neg h9, if_neg h10]
def own_of (x c b : Addr) : List Int32 → Addr
  | [] => b
  | u :: us => if u = 60 then x else if own_skip u = true then own_of x c b us else c
def own_E (x c b : Addr) : List Int32 → Addr
  | [] => b
  | u :: us => if b3_0 u = 1 then own_E x c b us else b4_0 u x c
def own_byte (u : Int32) : Prop := -128 ≤ u.toInt ∧ u.toInt ≤ 127 ∧ nar .byte u = u
theorem own_cls (u : Int32) (h : own_byte u) : b3_0 u = if u = 60 then 0 else if own_skip u = true then 1 else 2 := by
  obtain ⟨h1, h2, -⟩ := h
  have e := Jvm.Kit.i32_mask u 255 (k := 8) (by decide) (by decide)
  have k1 : b3_77 = 1 := rfl
  have z : own_skip u = true ↔ (u.toInt = 32 ∨ u.toInt = 9 ∨ u.toInt = 13 ∨ u.toInt = 10 ∨ u.toInt = 0 ∨ u.toInt = -17 ∨ u.toInt = -69 ∨ u.toInt = -65 ∨ u.toInt = -2 ∨ u.toInt = -1) := by
    refine decide_eq_true_iff.trans ?_
    simp only [← Int32.toInt_inj]; exact Iff.rfl
  have z60 : u = 60 ↔ u.toInt = 60 := by rw [← Int32.toInt_inj]; exact Iff.rfl
  unfold b3_0
  simp only [k1, ← Int32.toInt_inj, e, z, Int32.reduceToInt]
  (repeat' split) <;> first | rfl | (exfalso; omega)
theorem own_step (x c : Addr) (u : Int32) (h : own_byte u) (r : Addr) : (if u = 60 then x else if own_skip u = true then r else c) = if b3_0 u = 1 then r else b4_0 u x c := by
  unfold b4_0
  rw [own_cls u h]
  by_cases h1 : u = 60
  · simp [h1]
  · by_cases h2 : own_skip u = true
    · simp [h1, h2]
    · simp [h1, h2]
theorem own_same (x c b : Addr) : ∀ l : List Int32, (∀ u ∈ l, own_byte u) → own_of x c b l = own_E x c b l
  | [], _ => rfl
  | u :: us, h => by
    unfold own_of own_E
    rw [own_same x c b us (fun v hv => h v (List.mem_cons_of_mem _ hv))]
    exact own_step x c u (h u (List.mem_cons_self ..)) _
theorem own_nar (w : Int32) : own_byte (nar .byte w) := by
  have e : (nar .byte w).toInt = w.toInt8.toInt := Int8.toInt_toInt32 w.toInt8
  have h1 := w.toInt8.toInt_lt
  have h2 := w.toInt8.le_toInt
  refine ⟨by rw [e]; omega, by rw [e]; omega, ?_⟩
  show (w.toInt8.toInt32).toInt8.toInt32 = w.toInt8.toInt32
  rw [Int8.toInt8_toInt32]
theorem own_pick (p : Int32) : own_byte (b1_0 p) := by
  unfold b1_0
  split <;> exact own_nar _
theorem own_one : b0_266 1 = 1 := rfl
theorem own_of1 (x c b : Addr) (u0 : Int32) : b2t1_0 x c b u0 = own_of x c b [u0] := by
  have z10 : ¬ ((1 : Int32) = 0) := by decide
  unfold b2t1_0 b2t1_95 b2t1_100
  simp only [own_chain, z10, if_true, if_false, own_of]
theorem own_of2 (x c b : Addr) (u0 u1 : Int32) : b2t2_0 x c b u0 u1 = own_of x c b [u0, u1] := by
  have z10 : ¬ ((1 : Int32) = 0) := by decide
  unfold b2t2_0 b2t2_95 b2t2_100 b2t2_95t1 b2t2_100t1
  simp only [own_chain, z10, if_true, if_false, own_of]
theorem own_of3 (x c b : Addr) (u0 u1 u2 : Int32) : b2t3_0 x c b u0 u1 u2 = own_of x c b [u0, u1, u2] := by
  have z10 : ¬ ((1 : Int32) = 0) := by decide
  unfold b2t3_0 b2t3_95 b2t3_100 b2t3_95t1 b2t3_100t1 b2t3_95t2 b2t3_100t2
  simp only [own_chain, z10, if_true, if_false, own_of]
theorem own_of4 (x c b : Addr) (u0 u1 u2 u3 : Int32) : b2t4_0 x c b u0 u1 u2 u3 = own_of x c b [u0, u1, u2, u3] := by
  have z10 : ¬ ((1 : Int32) = 0) := by decide
  unfold b2t4_0 b2t4_95 b2t4_100 b2t4_95t1 b2t4_100t1 b2t4_95t2 b2t4_100t2 b2t4_95t3 b2t4_100t3
  simp only [own_chain, z10, if_true, if_false, own_of]
theorem own_law0 (p1 p2 p3 p4 p5 : Int32) (x c b : Addr) (hl : (p5 &&& (2147483647 : Int32)) % (5 : Int32) = 0) : b0_0 p1 p2 p3 p4 p5 x c b = 1 := by
  have e : b0_0 p1 p2 p3 p4 p5 x c b = b0_247 b (own_E x c b []) := by
    unfold b0_0 b0_167 b0_192 b0_217 b0_242
    rw [hl]
    simp only [own_E, show ¬ ((0 : Int32) < 0) by decide, show ¬ ((0 : Int32) = 1) by decide, show ¬ ((1 : Int32) < 0) by decide, show ¬ ((0 : Int32) = 2) by decide, show ¬ ((2 : Int32) < 0) by decide, show ¬ ((0 : Int32) = 3) by decide, show ¬ ((3 : Int32) < 0) by decide, show ¬ ((0 : Int32) = 4) by decide, show ¬ ((4 : Int32) < 0) by decide, if_true, if_false]
  rw [e]
  unfold b0_247
  rw [if_pos]
  · rfl
  · rfl
theorem own_law1 (p1 p2 p3 p4 p5 : Int32) (x c b : Addr) (hl : (p5 &&& (2147483647 : Int32)) % (5 : Int32) = 1) : b0_0 p1 p2 p3 p4 p5 x c b = 1 := by
  have e : b0_0 p1 p2 p3 p4 p5 x c b = b0_247x2 p1 x c b (own_E x c b [b1_0 p1]) := by
    unfold b0_0 b0_167x2 b0_192x2 b0_217x2 b0_242x2
    rw [hl]
    simp only [own_E, show ¬ ((1 : Int32) = 0) by decide, show (0 : Int32) < 1 by decide, show ¬ ((1 : Int32) < 1) by decide, show ¬ ((1 : Int32) = 2) by decide, show ¬ ((2 : Int32) < 1) by decide, show ¬ ((1 : Int32) = 3) by decide, show ¬ ((3 : Int32) < 1) by decide, show ¬ ((1 : Int32) = 4) by decide, show ¬ ((4 : Int32) < 1) by decide, if_true, if_false]
    (repeat' split) <;> rfl
  rw [e]
  unfold b0_247x2
  rw [if_pos]
  · rfl
  · rw [(own_pick p1).2.2, own_of1]
    exact own_same x c b _ (by
      intro u hu
      simp only [List.mem_cons, List.not_mem_nil, or_false] at hu
      rcases hu with rfl <;> exact own_pick _)
theorem own_law2 (p1 p2 p3 p4 p5 : Int32) (x c b : Addr) (hl : (p5 &&& (2147483647 : Int32)) % (5 : Int32) = 2) : b0_0 p1 p2 p3 p4 p5 x c b = 1 := by
  have e : b0_0 p1 p2 p3 p4 p5 x c b = b0_247x3 p1 p2 x c b (own_E x c b [b1_0 p1, b1_0 p2]) := by
    unfold b0_0 b0_167x3 b0_192x3 b0_217x3 b0_242x3
    rw [hl]
    simp only [own_E, show ¬ ((2 : Int32) = 0) by decide, show (0 : Int32) < 2 by decide, show ¬ ((2 : Int32) = 1) by decide, show (1 : Int32) < 2 by decide, show ¬ ((2 : Int32) < 2) by decide, show ¬ ((2 : Int32) = 3) by decide, show ¬ ((3 : Int32) < 2) by decide, show ¬ ((2 : Int32) = 4) by decide, show ¬ ((4 : Int32) < 2) by decide, if_true, if_false]
    (repeat' split) <;> rfl
  rw [e]
  unfold b0_247x3
  rw [if_pos]
  · rfl
  · rw [(own_pick p1).2.2, (own_pick p2).2.2, own_of2]
    exact own_same x c b _ (by
      intro u hu
      simp only [List.mem_cons, List.not_mem_nil, or_false] at hu
      rcases hu with rfl | rfl <;> exact own_pick _)
theorem own_law3 (p1 p2 p3 p4 p5 : Int32) (x c b : Addr) (hl : (p5 &&& (2147483647 : Int32)) % (5 : Int32) = 3) : b0_0 p1 p2 p3 p4 p5 x c b = 1 := by
  have e : b0_0 p1 p2 p3 p4 p5 x c b = b0_247x4 p1 p2 p3 x c b (own_E x c b [b1_0 p1, b1_0 p2, b1_0 p3]) := by
    unfold b0_0 b0_167x4 b0_192x4 b0_217x4 b0_242x4
    rw [hl]
    simp only [own_E, show ¬ ((3 : Int32) = 0) by decide, show (0 : Int32) < 3 by decide, show ¬ ((3 : Int32) = 1) by decide, show (1 : Int32) < 3 by decide, show ¬ ((3 : Int32) = 2) by decide, show (2 : Int32) < 3 by decide, show ¬ ((3 : Int32) < 3) by decide, show ¬ ((3 : Int32) = 4) by decide, show ¬ ((4 : Int32) < 3) by decide, if_true, if_false]
    (repeat' split) <;> rfl
  rw [e]
  unfold b0_247x4
  rw [if_pos]
  · rfl
  · rw [(own_pick p1).2.2, (own_pick p2).2.2, (own_pick p3).2.2, own_of3]
    exact own_same x c b _ (by
      intro u hu
      simp only [List.mem_cons, List.not_mem_nil, or_false] at hu
      rcases hu with rfl | rfl | rfl <;> exact own_pick _)
theorem own_law4 (p1 p2 p3 p4 p5 : Int32) (x c b : Addr) (hl : (p5 &&& (2147483647 : Int32)) % (5 : Int32) = 4) : b0_0 p1 p2 p3 p4 p5 x c b = 1 := by
  have e : b0_0 p1 p2 p3 p4 p5 x c b = b0_247x5 p1 p2 p3 p4 x c b (own_E x c b [b1_0 p1, b1_0 p2, b1_0 p3, b1_0 p4]) := by
    unfold b0_0 b0_167x5 b0_192x5 b0_217x5 b0_242x5
    rw [hl]
    simp only [own_E, show ¬ ((4 : Int32) = 0) by decide, show (0 : Int32) < 4 by decide, show ¬ ((4 : Int32) = 1) by decide, show (1 : Int32) < 4 by decide, show ¬ ((4 : Int32) = 2) by decide, show (2 : Int32) < 4 by decide, show ¬ ((4 : Int32) = 3) by decide, show (3 : Int32) < 4 by decide, show ¬ ((4 : Int32) < 4) by decide, if_true, if_false]
    (repeat' split) <;> rfl
  rw [e]
  unfold b0_247x5
  rw [if_pos]
  · rfl
  · rw [(own_pick p1).2.2, (own_pick p2).2.2, (own_pick p3).2.2, (own_pick p4).2.2, own_of4]
    exact own_same x c b _ (by
      intro u hu
      simp only [List.mem_cons, List.not_mem_nil, or_false] at hu
      rcases hu with rfl | rfl | rfl | rfl <;> exact own_pick _)
theorem law_eq (p1 p2 p3 p4 p5 : Int32) (x c b : Addr) : b0_0 p1 p2 p3 p4 p5 x c b = 1 := by
  have e2 := Jvm.Kit.i32_mask p5 2147483647 (k := 31) (by decide) (by decide)
  have e3 : ((p5 &&& 2147483647) % 5).toInt = _ := Jvm.Kit.i32_rem_nonneg (by rw [e2]; omega)
  have h : (p5 &&& 2147483647) % 5 = 0 ∨ (p5 &&& 2147483647) % 5 = 1 ∨ (p5 &&& 2147483647) % 5 = 2 ∨ (p5 &&& 2147483647) % 5 = 3 ∨ (p5 &&& 2147483647) % 5 = 4 := by
    simp only [← Int32.toInt_inj, e3, e2, Int32.reduceToInt]; omega
  rcases h with h | h | h | h | h
  · exact own_law0 p1 p2 p3 p4 p5 x c b h
  · exact own_law1 p1 p2 p3 p4 p5 x c b h
  · exact own_law2 p1 p2 p3 p4 p5 x c b h
  · exact own_law3 p1 p2 p3 p4 p5 x c b h
  · exact own_law4 p1 p2 p3 p4 p5 x c b h
set_option maxRecDepth 65536 in
set_option maxHeartbeats 40000000 in
theorem comes_1 {Post : Tables → Env → Array Value → State → Outcome → State → Prop} (hpost : ∀ tb e args s v u, (limb_1_1.after args s (.returned v) u = true ∧ limb_1_2.after args s (.returned v) u = true ∧ True) → FrameEnd s (.returned v) u (Jvm.fieldLocs frame_1_writes args s ++ Jvm.arrayLocs frame_1_arrays args s ++ Jvm.staticLocs frame_1_statics s) 24 192 → Post tb e args s (.returned v) u) :
    ArmFor flags0 classFile x code maxLocals ret World_1 tables_1 room_1 Calls_1 rest_1 Pre_1 Post := by
  intro l hfl _ _ p e ha hc hk s m args below hf hA hF happ hP
  obtain ⟨hcalls, hrest, hpre⟩ := hP
  obtain ⟨-, -, -, hnamed, -, -, -, hat⟩ := (Spec.applies_iff hf).mp happ
  obtain ⟨hg, hn⟩ := and_e (Cond.before_iff.mp (show (Jvm.Cond.and given_1 narrow_1).before args s = true from hpre))
  obtain ⟨g1, g2⟩ := and_e hg
  obtain ⟨g3, g4⟩ := and_e g2
  obtain ⟨g5, g6⟩ := and_e g4
  obtain ⟨g7, g8⟩ := and_e g6
  obtain ⟨g9, g10⟩ := and_e g8
  obtain ⟨w0, w1, w2, w3, w4, rfl⟩ : ∃ w0 w1 w2 w3 w4 : Value, args = #[w0, w1, w2, w3, w4] := by
    have hs : args.size = 5 := by simpa [Cond.value, given_1] using g1
    obtain ⟨L⟩ := args
    match L, hs with
    | [w0, w1, w2, w3, w4], _ => exact ⟨w0, w1, w2, w3, w4, rfl⟩
  have hw := fun d (hd : d ∈ tables_1) => atoms_spec (ws := Jvm.Cond.code x code maxLocals ret :: tables_1) hat d (List.mem_cons_of_mem _ hd)
  have hfit : Fit s := fun {y c} hc i hi => by
    obtain ⟨ha, rfl⟩ := Array.getElem?_eq_some_iff.mp hc
    have q := List.all_eq_true.mp ((Array.all_eq_true_iff_forall_mem.mp hF) _ (Array.getElem_mem ha)) i (List.mem_range.mpr hi)
    simpa [Array.getElem?_eq_getElem hi] using q
  obtain ⟨i0, ei0⟩ := is_v g3
  obtain rfl : w0 = (.int i0) := Option.some.inj ei0
  obtain ⟨i1, ei1⟩ := is_v g5
  obtain rfl : w1 = (.int i1) := Option.some.inj ei1
  obtain ⟨i2, ei2⟩ := is_v g7
  obtain rfl : w2 = (.int i2) := Option.some.inj ei2
  obtain ⟨i3, ei3⟩ := is_v g9
  obtain rfl : w3 = (.int i3) := Option.some.inj ei3
  obtain ⟨i4, ei4⟩ := is_v g10
  obtain rfl : w4 = (.int i4) := Option.some.inj ei4
  obtain ⟨m0, hn0⟩ := and_e hn
  obtain ⟨m1, hn1⟩ := and_e hn0
  obtain ⟨a_BLANK, ea_BLANK⟩ := exa_v m0
  have S_BLANK : Sta s s.heap "com/example/policylint/policylint/PolicySyntax" "BLANK" "Lcom/example/policylint/policylint/PolicySyntax;" (.ref a_BLANK) := Sta.start ea_BLANK (Or.inr ⟨(hw _ (List.mem_of_getElem? (i := 7) rfl)), (hw _ (List.mem_of_getElem? (i := 8) rfl))⟩)
  obtain ⟨a_XACML, ea_XACML⟩ := exa_v m1
  have S_XACML : Sta s s.heap "com/example/policylint/policylint/PolicySyntax" "XACML" "Lcom/example/policylint/policylint/PolicySyntax;" (.ref a_XACML) := Sta.start ea_XACML (Or.inr ⟨(hw _ (List.mem_of_getElem? (i := 7) rfl)), (hw _ (List.mem_of_getElem? (i := 20) rfl))⟩)
  obtain ⟨a_COMPACT, ea_COMPACT⟩ := exa_v hn1
  have S_COMPACT : Sta s s.heap "com/example/policylint/policylint/PolicySyntax" "COMPACT" "Lcom/example/policylint/policylint/PolicySyntax;" (.ref a_COMPACT) := Sta.start ea_COMPACT (Or.inr ⟨(hw _ (List.mem_of_getElem? (i := 7) rfl)), (hw _ (List.mem_of_getElem? (i := 23) rfl))⟩)
  obtain ⟨n, o, h1, h2, h3, _, L, rfl, ⟨⟨hv, -⟩, N⟩, hq⟩ := rm0 l s _ hw tables_1 i0 i1 i2 i3 i4 a_XACML a_COMPACT a_BLANK s.heap s.heap.size (Nat.le_refl _) S_XACML S_COMPACT S_BLANK p e ha hc hk s m _ below hf ((Spec.applies_iff_loose hf).mp happ).1 ⟨rfl, State.Warmed39.refl s, rfl⟩ trivial
  rw [law_eq] at hv
  subst hv
  refine ⟨n, _, h1, h2, h3, hpost _ _ _ _ _ _ ⟨Cond.after_iff.mpr rfl, Cond.after_iff.mpr (eq_i res_at (Term.int_eval (1)) rfl), trivial⟩ ⟨hq.1, hq.2.1, (hq.2.2.sift fun y hy => Or.inr (N y hy)).mono (by decide) (by decide)⟩⟩
theorem main_1_1 : Claimed_1_1 := comes_1 fun _ _ _ _ _ _ h hF => ⟨h.1, hF⟩
theorem main_1_2 : Claimed_1_2 := comes_1 fun _ _ _ _ _ _ h hF => ⟨h.2.1, hF⟩
end Jvm.Pilot.@@N@@
namespace Jvm.Pilot.@@N@@
open Jvm Jvm.ClassFile Sem Op Lib Jvm.Free Jvm.Stand Jvm.Pilot.@@N@@.Jvm.D
/-! MADE BY PROGRAM (witnessworld.py) out of the Statement's table words and the real class files: 12 classes; the members and pool entries that the words name. The judged class is class 1, her method 4. -/
namespace start1
open Jvm.ClassFile
def u (s : String) : CpInfo := .utf8 (stringToUtf16 s)
/-- a pool by its gaps: so many unusable entries, then the entry; so many at the end -/
def gap : Nat → List CpInfo → List CpInfo
  | 0, r => r
  | n + 1, r => .unusable :: gap n r
def poolList (es : List (Nat × CpInfo)) (last : Nat) : List CpInfo := es.foldr (fun e r => gap e.1 (e.2 :: r)) (gap last [])
def pool (es : List (Nat × CpInfo)) (last : Nat) : Array CpInfo := ⟨poolList es last⟩
def fileOf (pool : Array CpInfo) (this : Nat) (attrs : Array Attribute := #[]) (ms : Array MethodInfo := #[]) (fl : Nat := 33) (sup : Nat := 0) (ifs : Array Nat := #[]) (fds : Array FieldInfo := #[]) : ClassFile where
  minorVersion := 0
  majorVersion := 65
  constantPool := pool
  accessFlags := fl
  thisClass := this
  superClass := sup
  interfaces := ifs
  fields := fds
  methods := ms
  attributes := attrs
def plain (name : String) (sup : Option ClassId) : Class where
  name := name
  kind := .ordinary
  loader := none
  accessFlags := 33
  super := sup
  interfaces := #[]
  cf := none
  fields := #[]
  methods := #[]
  instanceTypes := #[]
  staticTypes := #[]
  resolved := #[]
  callSites := []
  init := .initialized
  statics := none
  mirror := none

def pool0 : Array CpInfo := pool [(5, u "<init>"), (0, u "()V"), (1, .class_ 10), (1, u "java/lang/Object")] 113

def k0m0 : Method := { name := "<init>", desc := "()V", sig := { parameters := [], returnType := none }, accessFlags := 1, code := none }
/-- java/lang/Object -/
def k0 : Class := { plain "java/lang/Object" none with
  accessFlags := 33
  interfaces := #[]
  cf := some (fileOf pool0 8 #[] #[{ accessFlags := 1, nameIndex := 5, descriptorIndex := 6, attributes := #[] }] 33 0 #[] #[])
  fields := #[]
  methods := #[k0m0]
  instanceTypes := #[]
  staticTypes := #[]
  resolved := Array.replicate 124 none
  statics := none }

def pool1 : Array CpInfo := pool [(2, .class_ 4), (1, u "java/lang/Object"), (0, u "<init>"), (0, u "()V"), (0, .methodref 8 9), (0, .class_ 10), (0, .nameAndType 11 12), (0, u "com/example/policylint/policylint/PolicySyntaxOfPinLaw"), (0, u "cls"), (0, u "(B)I"), (0, .fieldref 14 15), (0, .class_ 16), (0, .nameAndType 17 18), (0, u "com/example/policylint/policylint/PolicySyntax"), (0, u "XACML"), (0, u "Lcom/example/policylint/policylint/PolicySyntax;"), (0, .fieldref 14 20), (0, .nameAndType 21 18), (0, u "COMPACT"), (0, .integer 2147483647), (0, .methodref 8 24), (0, .nameAndType 25 26), (0, u "pick"), (0, u "(I)B"), (0, .methodref 8 28), (0, .nameAndType 29 30), (0, u "verdict"), (0, u "(B)Lcom/example/policylint/policylint/PolicySyntax;"), (0, .fieldref 14 32), (0, .nameAndType 33 18), (0, u "BLANK"), (0, .methodref 14 35), (0, .nameAndType 36 37), (0, u "of"), (0, u "([B)Lcom/example/policylint/policylint/PolicySyntax;"), (5, u "law"), (0, u "(IIIII)Z")] 2

def k1m0 : Method := { name := "<init>", desc := "()V", sig := { parameters := [], returnType := none }, accessFlags := 1, code := none }
def k1c1 : Code := { maxStack := 4, maxLocals := 3, code := method_2_code, exceptionTable := #[], attributes := #[] }
def k1m1 : Method := { name := "pick", desc := "(I)B", sig := { parameters := [.int], returnType := some .byte }, accessFlags := 10, code := some k1c1 }
def k1c2 : Code := { maxStack := 2, maxLocals := 2, code := method_3_code, exceptionTable := #[], attributes := #[] }
def k1m2 : Method := { name := "cls", desc := "(B)I", sig := { parameters := [.byte], returnType := some .int }, accessFlags := 10, code := some k1c2 }
def k1c3 : Code := { maxStack := 1, maxLocals := 1, code := method_4_code, exceptionTable := #[], attributes := #[] }
def k1m3 : Method := { name := "verdict", desc := "(B)Lcom/example/policylint/policylint/PolicySyntax;", sig := { parameters := [.byte], returnType := some (.object "com/example/policylint/policylint/PolicySyntax") }, accessFlags := 10, code := some k1c3 }
def k1c4 : Code := { maxStack := 4, maxLocals := 13, code := code, exceptionTable := #[], attributes := #[] }
def k1m4 : Method := { name := "law", desc := "(IIIII)Z", sig := { parameters := [.int, .int, .int, .int, .int], returnType := some .boolean }, accessFlags := 9, code := some k1c4 }
/-- com/example/policylint/policylint/PolicySyntaxOfPinLaw -/
def k1 : Class := { plain "com/example/policylint/policylint/PolicySyntaxOfPinLaw" (some 0) with
  accessFlags := 49
  interfaces := #[]
  cf := some (fileOf pool1 8 #[] #[{ accessFlags := 1, nameIndex := 5, descriptorIndex := 6, attributes := #[] }, { accessFlags := 10, nameIndex := 25, descriptorIndex := 26, attributes := #[] }, { accessFlags := 10, nameIndex := 11, descriptorIndex := 12, attributes := #[] }, { accessFlags := 10, nameIndex := 29, descriptorIndex := 30, attributes := #[] }, { accessFlags := 9, nameIndex := 43, descriptorIndex := 44, attributes := #[] }] 49 2 #[] #[])
  fields := #[]
  methods := #[k1m0, k1m1, k1m2, k1m3, k1m4]
  instanceTypes := #[]
  staticTypes := #[]
  resolved := Array.replicate 47 none
  statics := none }

def pool2 : Array CpInfo := pool [(1, .class_ 2), (0, u "java/lang/constant/Constable"), (0, .class_ 4), (0, u "java/lang/Object")] 6

/-- java/lang/constant/Constable -/
def k2 : Class := { plain "java/lang/constant/Constable" (some 0) with
  accessFlags := 1537
  interfaces := #[]
  cf := some (fileOf pool2 1 #[] #[] 1537 3 #[] #[])
  fields := #[]
  methods := #[]
  instanceTypes := #[]
  staticTypes := #[]
  resolved := Array.replicate 11 none
  statics := none }

def pool3 : Array CpInfo := pool [(1, .class_ 2), (0, u "java/lang/Comparable"), (0, .class_ 4), (0, u "java/lang/Object")] 7

/-- java/lang/Comparable -/
def k3 : Class := { plain "java/lang/Comparable" (some 0) with
  accessFlags := 1537
  interfaces := #[]
  cf := some (fileOf pool3 1 #[] #[] 1537 3 #[] #[])
  fields := #[]
  methods := #[]
  instanceTypes := #[]
  staticTypes := #[]
  resolved := Array.replicate 12 none
  statics := none }

def pool4 : Array CpInfo := pool [(1, .class_ 2), (0, u "java/io/Serializable"), (0, .class_ 4), (0, u "java/lang/Object")] 2

/-- java/io/Serializable -/
def k4 : Class := { plain "java/io/Serializable" (some 0) with
  accessFlags := 1537
  interfaces := #[]
  cf := some (fileOf pool4 1 #[] #[] 1537 3 #[] #[])
  fields := #[]
  methods := #[]
  instanceTypes := #[]
  staticTypes := #[]
  resolved := Array.replicate 7 none
  statics := none }

def pool5 : Array CpInfo := pool [(2, .class_ 4), (1, u "java/lang/Enum"), (0, u "name"), (0, u "Ljava/lang/String;"), (2, u "ordinal"), (0, u "I"), (1, .class_ 14), (1, u "java/lang/Object"), (4, u "hash"), (86, .class_ 108), (1, u "java/lang/Enum$EnumDesc"), (2, .class_ 112), (0, u "java/lang/constant/Constable"), (0, .class_ 114), (0, u "java/lang/Comparable"), (0, .class_ 116), (0, u "java/io/Serializable")] 87

/-- java/lang/Enum -/
def k5 : Class := { plain "java/lang/Enum" (some 0) with
  accessFlags := 1057
  interfaces := #[2, 3, 4]
  cf := some (fileOf pool5 2 #[.nestMembers #[106]] #[] 1057 12 #[111, 113, 115] #[{ accessFlags := 18, nameIndex := 5, descriptorIndex := 6, attributes := #[] }, { accessFlags := 18, nameIndex := 9, descriptorIndex := 10, attributes := #[] }, { accessFlags := 2, nameIndex := 19, descriptorIndex := 10, attributes := #[] }])
  fields := #[{ name := "name", type := (.object "java/lang/String"), accessFlags := 18, slot := 0, constantValue := 0 }, { name := "ordinal", type := .int, accessFlags := 18, slot := 1, constantValue := 0 }, { name := "hash", type := .int, accessFlags := 2, slot := 2, constantValue := 0 }]
  methods := #[]
  instanceTypes := #[(.object "java/lang/String"), .int, .int]
  staticTypes := #[]
  resolved := Array.replicate 204 none
  statics := none }

def pool6 : Array CpInfo := pool [(1, .class_ 2), (0, u "com/example/policylint/policylint/PolicySyntax"), (0, .fieldref 1 4), (0, .nameAndType 5 6), (0, u "XACML"), (0, u "Lcom/example/policylint/policylint/PolicySyntax;"), (0, .fieldref 1 8), (0, .nameAndType 9 6), (0, u "COMPACT"), (0, .fieldref 1 11), (0, .nameAndType 12 6), (0, u "BLANK"), (2, u "$VALUES"), (0, u "[Lcom/example/policylint/policylint/PolicySyntax;"), (6, .class_ 25), (1, u "java/lang/Enum"), (21, u "of"), (0, u "([B)Lcom/example/policylint/policylint/PolicySyntax;")] 7

def k6c0 : Code := { maxStack := 2, maxLocals := 6, code := prog_7_method_4_code, exceptionTable := #[], attributes := #[] }
def k6m0 : Method := { name := "of", desc := "([B)Lcom/example/policylint/policylint/PolicySyntax;", sig := { parameters := [(.array .byte)], returnType := some (.object "com/example/policylint/policylint/PolicySyntax") }, accessFlags := 9, code := some k6c0 }
/-- com/example/policylint/policylint/PolicySyntax -/
def k6 : Class := { plain "com/example/policylint/policylint/PolicySyntax" (some 5) with
  accessFlags := 16433
  interfaces := #[]
  cf := some (fileOf pool6 1 #[] #[{ accessFlags := 9, nameIndex := 47, descriptorIndex := 48, attributes := #[] }] 16433 23 #[] #[{ accessFlags := 16409, nameIndex := 5, descriptorIndex := 6, attributes := #[] }, { accessFlags := 16409, nameIndex := 9, descriptorIndex := 6, attributes := #[] }, { accessFlags := 16409, nameIndex := 12, descriptorIndex := 6, attributes := #[] }, { accessFlags := 4122, nameIndex := 15, descriptorIndex := 16, attributes := #[] }])
  fields := #[{ name := "XACML", type := (.object "com/example/policylint/policylint/PolicySyntax"), accessFlags := 16409, slot := 0, constantValue := 0 }, { name := "COMPACT", type := (.object "com/example/policylint/policylint/PolicySyntax"), accessFlags := 16409, slot := 1, constantValue := 0 }, { name := "BLANK", type := (.object "com/example/policylint/policylint/PolicySyntax"), accessFlags := 16409, slot := 2, constantValue := 0 }, { name := "$VALUES", type := (.array (.object "com/example/policylint/policylint/PolicySyntax")), accessFlags := 4122, slot := 3, constantValue := 0 }]
  methods := #[k6m0]
  instanceTypes := #[(.object "java/lang/String"), .int, .int]
  staticTypes := #[(.object "com/example/policylint/policylint/PolicySyntax"), (.object "com/example/policylint/policylint/PolicySyntax"), (.object "com/example/policylint/policylint/PolicySyntax"), (.array (.object "com/example/policylint/policylint/PolicySyntax"))]
  resolved := Array.replicate 56 none
  statics := some 0 }

def pool7 : Array CpInfo := pool [(1, u "java/lang/Cloneable"), (0, .class_ 1), (0, u "java/lang/Object"), (0, .class_ 3)] 3

/-- java/lang/Cloneable -/
def k7 : Class := { plain "java/lang/Cloneable" (some 0) with
  accessFlags := 1537
  interfaces := #[]
  cf := some (fileOf pool7 2 #[] #[] 1537 4 #[] #[])
  fields := #[]
  methods := #[]
  instanceTypes := #[]
  staticTypes := #[]
  resolved := Array.replicate 8 none
  statics := none }

/-- the primitive byte -/
def k8 : Class := { plain "byte" none with kind := .primitive 'B', accessFlags := 0x411 }
/-- [B -/
def k9 : Class := { plain "[B" (some 0) with kind := .array 8 .byte, interfaces := #[7, 4], accessFlags := 1041 }

/-- the primitive int -/
def k10 : Class := { plain "int" none with kind := .primitive 'I', accessFlags := 0x411 }
/-- [I -/
def k11 : Class := { plain "[I" (some 0) with kind := .array 10 .int, interfaces := #[7, 4], accessFlags := 1041 }

def heap : Heap := #[{ cls := 6, slots := #[.ref 1, .ref 2, .ref 3, .null], vm := .statics 6 },
  { cls := 6, slots := #[.null, .int 0, .int 0], vm := .none },
  { cls := 6, slots := #[.null, .int 1, .int 0], vm := .none },
  { cls := 6, slots := #[.null, .int 2, .int 0], vm := .none }]
def classes : Array Class := #[k0, k1, k2, k3, k4, k5, k6, k7, k8, k9, k10, k11]
def interned : List (Array UInt16 × Addr) := []
def slotsUsed : Nat := 13
def theMethod : MethodId := ⟨1, 4⟩
def args0 : Array Value := #[.int 5, .int 6, .int 7, .int 8, .int 9]
def aboutOver (below : List Frame) : State where
  vm := { classes := classes, interned := interned.toArray }
  heap := heap
  slotsUsed := slotsUsed
  threads := #[{ frames := .invoking theMethod args0 :: below }]
def below0 : List Frame := [.native { method := ⟨0, 0⟩, args := #[] }]
def about1 : State := aboutOver below0
def p0 : Program := .bare "" "" ""
def e0 : Env := launch0.env 0 0 0
theorem w_frames : about1.frames = Frame.invoking theMethod args0 :: below0 := rfl
set_option maxRecDepth 65536 in
theorem w_args : argsFit about1.vm theMethod args0 = true := by decide +kernel
set_option maxRecDepth 65536 in
theorem w_heap : heapFits about1 = true := by decide +kernel
set_option maxRecDepth 65536 in
theorem w_runnable : about1.curStatus? = some .runnable := by decide +kernel
set_option maxRecDepth 65536 in
theorem w_alone : about1.alone = true := by decide +kernel
set_option maxRecDepth 65536 in
theorem w_named : about1.methodNamed? x = some theMethod := by decide +kernel
set_option maxRecDepth 65536 in
theorem w_hears : about1.hears theMethod below0 = true := by decide +kernel
set_option maxRecDepth 65536 in
theorem w_ripe : about1.ripe theMethod args0 below0 = true := by decide +kernel
theorem w_running : about1.status = .running := rfl
set_option maxRecDepth 65536 in
theorem w_room : about1.hasRoom e0.platform room_1 = true :=
  launch0.hasRoom_least _ room_1 (by decide +kernel) (by decide +kernel) (by decide +kernel) (by decide +kernel) (by decide +kernel) (by decide +kernel)
theorem allAtoms_all (ts : List Jvm.Cond) (a : Array Jvm.Value) (st : Jvm.State) : (allAtoms ts).before a st = ts.all (fun c => c.before a st) := by
  induction ts with
  | nil => rfl
  | cons c t ih =>
    show (Jvm.Cond.and c (allAtoms t)).before a st = _
    rw [Jvm.Cond.before_and, ih, List.all_cons]
def words1 : List Jvm.Cond := Jvm.Cond.code x code maxLocals ret :: tables_1
/-- a 'code' word, met by the world's own term for the bytes: nothing is compared byte by byte -/
theorem code_word {y : MethodName} {bytes : ByteArray} {mx : Nat} {rt : Option FieldType} {a : Array Value} {s : State} {m : MethodId} {meth : Method} {c : Code} (h1 : s.methodNamed? y = some m) (h2 : s.vm.method? m = some meth) (h3 : meth.code = some c) (h4 : c.code = bytes)
    (h5 : (c.maxLocals == mx && c.exceptionTable.isEmpty && decide (c.maxStack ≤ mostOperands) && decide (meth.sig.returnType = rt) && !meth.locks && decide (parseMethodDescriptor y.desc = some meth.sig)) = true) : (Jvm.Cond.code y bytes mx rt).before a s = true := by
  simp only [Bool.and_eq_true, beq_iff_eq, Bool.not_eq_true', decide_eq_true_eq] at h5
  obtain ⟨⟨⟨⟨⟨g1, g2⟩, g3⟩, g4⟩, g5⟩, g6⟩ := h5
  simp [Cond.before, Cond.holds, Cond.value, h1, h2, h3, h4, g1, g2, g3, g4, g5, g6]
def isCode : Jvm.Cond → Bool
  | .code _ _ _ _ => true
  | _ => false
theorem all_split {L : List Jvm.Cond} {P : Jvm.Cond → Bool} (h1 : L.all (fun c => isCode c || P c) = true) (h2 : ∀ c ∈ L.filter isCode, P c = true) : L.all P = true := by
  refine List.all_eq_true.mpr fun c hc => ?_
  have h := List.all_eq_true.mp h1 c hc
  rcases Bool.eq_false_or_eq_true (isCode c) with hi | hi
  · exact h2 c (List.mem_filter.mpr ⟨hc, hi⟩)
  · simpa [hi] using h
set_option maxRecDepth 65536 in
theorem w_c0 : (Jvm.Cond.code x code maxLocals ret).before args0 about1 = true := code_word (m := ⟨1, 4⟩) (meth := k1m4) (c := k1c4) (by decide +kernel) rfl rfl rfl (by decide +kernel)
set_option maxRecDepth 65536 in
theorem w_c1 : (Jvm.Cond.code ({ cls := "com/example/policylint/policylint/PolicySyntaxOfPinLaw", name := "pick", desc := "(I)B" } : Jvm.MethodName) method_2_code (3 : Nat) (Option.some Jvm.ClassFile.FieldType.byte)).before args0 about1 = true := code_word (m := ⟨1, 1⟩) (meth := k1m1) (c := k1c1) (by decide +kernel) rfl rfl rfl (by decide +kernel)
set_option maxRecDepth 65536 in
theorem w_c2 : (Jvm.Cond.code ({ cls := "com/example/policylint/policylint/PolicySyntax", name := "of", desc := "([B)Lcom/example/policylint/policylint/PolicySyntax;" } : Jvm.MethodName) prog_7_method_4_code (6 : Nat) (Option.some (Jvm.ClassFile.FieldType.object "com/example/policylint/policylint/PolicySyntax"))).before args0 about1 = true := code_word (m := ⟨6, 0⟩) (meth := k6m0) (c := k6c0) (by decide +kernel) rfl rfl rfl (by decide +kernel)
set_option maxRecDepth 65536 in
theorem w_c3 : (Jvm.Cond.code ({ cls := "com/example/policylint/policylint/PolicySyntaxOfPinLaw", name := "cls", desc := "(B)I" } : Jvm.MethodName) method_3_code (2 : Nat) (Option.some Jvm.ClassFile.FieldType.int)).before args0 about1 = true := code_word (m := ⟨1, 2⟩) (meth := k1m2) (c := k1c2) (by decide +kernel) rfl rfl rfl (by decide +kernel)
set_option maxRecDepth 65536 in
theorem w_c4 : (Jvm.Cond.code ({ cls := "com/example/policylint/policylint/PolicySyntaxOfPinLaw", name := "verdict", desc := "(B)Lcom/example/policylint/policylint/PolicySyntax;" } : Jvm.MethodName) method_4_code (1 : Nat) (Option.some (Jvm.ClassFile.FieldType.object "com/example/policylint/policylint/PolicySyntax"))).before args0 about1 = true := code_word (m := ⟨1, 3⟩) (meth := k1m3) (c := k1c3) (by decide +kernel) rfl rfl rfl (by decide +kernel)
def codes1 : List Jvm.Cond := [Jvm.Cond.code x code maxLocals ret, Jvm.Cond.code ({ cls := "com/example/policylint/policylint/PolicySyntaxOfPinLaw", name := "pick", desc := "(I)B" } : Jvm.MethodName) method_2_code (3 : Nat) (Option.some Jvm.ClassFile.FieldType.byte), Jvm.Cond.code ({ cls := "com/example/policylint/policylint/PolicySyntax", name := "of", desc := "([B)Lcom/example/policylint/policylint/PolicySyntax;" } : Jvm.MethodName) prog_7_method_4_code (6 : Nat) (Option.some (Jvm.ClassFile.FieldType.object "com/example/policylint/policylint/PolicySyntax")), Jvm.Cond.code ({ cls := "com/example/policylint/policylint/PolicySyntaxOfPinLaw", name := "cls", desc := "(B)I" } : Jvm.MethodName) method_3_code (2 : Nat) (Option.some Jvm.ClassFile.FieldType.int), Jvm.Cond.code ({ cls := "com/example/policylint/policylint/PolicySyntaxOfPinLaw", name := "verdict", desc := "(B)Lcom/example/policylint/policylint/PolicySyntax;" } : Jvm.MethodName) method_4_code (1 : Nat) (Option.some (Jvm.ClassFile.FieldType.object "com/example/policylint/policylint/PolicySyntax"))]
set_option maxRecDepth 65536 in
theorem codes_eq : words1.filter isCode = codes1 := rfl
theorem w_codes : ∀ c ∈ words1.filter isCode, c.before args0 about1 = true := by
  rw [codes_eq]
  intro c hc
  simp only [codes1, List.mem_cons, List.not_mem_nil, or_false] at hc
  rcases hc with rfl | rfl | rfl | rfl | rfl
  · exact w_c0
  · exact w_c1
  · exact w_c2
  · exact w_c3
  · exact w_c4
set_option maxRecDepth 65536 in
theorem w_t1 : (words1.take 24).all (fun c => isCode c || c.before args0 about1) = true := by decide +kernel
set_option maxRecDepth 65536 in
theorem w_t2 : (words1.drop 24).all (fun c => isCode c || c.before args0 about1) = true := by decide +kernel
theorem w_tables : (allAtoms (Jvm.Cond.code x code maxLocals ret :: tables_1)).before args0 about1 = true := by
  rw [allAtoms_all]
  show words1.all (fun c => c.before args0 about1) = true
  refine all_split ?_ w_codes
  rw [← List.take_append_drop 24 words1, List.all_append, w_t1, w_t2]
  rfl
set_option maxRecDepth 65536 in
theorem w_case : (Jvm.Cond.and given_1 narrow_1).before args0 about1 = true := by decide +kernel
theorem w_applies : (headSpec (Jvm.Cond.code x code maxLocals ret :: tables_1) room_1).applies x e0.platform about1 = true :=
  (Spec.applies_iff w_frames).mpr ⟨w_running, w_runnable, w_alone, w_named, w_hears, w_ripe, w_room, w_tables⟩
theorem atStart : AtStart classFile x code maxLocals ret World_1 tables_1 room_1 Calls_1 rest_1 Pre_1 launch0 p0 e0 about1 theMethod args0 below0 :=
  ⟨lists_1, trivial, launch0.admits_env _ _ _, launch0.least_env, fairChoices_fair.cas, fairChoices_fair.clock, w_frames, w_args, w_heap, w_applies, trivial, trivial, w_case⟩
end start1
theorem witness_1 : WitnessClaimed_1 := ⟨start1.p0, start1.e0, start1.about1, start1.theMethod, start1.args0, start1.below0, start1.atStart⟩
end Jvm.Pilot.@@N@@
