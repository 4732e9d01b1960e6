import JvmDerived
import JvmDerived.Pilot.@@N@@Statement
import JvmDerived.Pilot.@@N@@Code
set_option linter.unusedVariables false
set_option linter.unusedSimpArgs false
namespace Jvm.RoadKit
open Sem ClassFile Op Lib Jvm.Stand Jvm.Free Jvm.LawKit
section Own
variable {p : Program} {l : Launch} {e : Env} {R : Room} {s : State} {m : MethodId} {args : Array Value} {below : List Frame} {meth : Method} {c : Code} {T A B : State} {locs : List Loc} {cells slots K N : Nat} {P : State → Outcome → Prop} {Q : Option Value → Heap → List Loc → Prop}
/-- the run that stands at A comes to an end of which P holds -/
def Go (p : Program) (e : Env) (below : List Frame) (P : State → Outcome → Prop) (A : State) : Prop := ∃ s₂ o, Steps p.tables e below A s₂ ∧ s₂.status = .running ∧ Ended s₂ below o ∧ P s₂ o
def PostW (s : State) (K N : Nat) (Q : Option Value → Heap → List Loc → Prop) : State → Outcome → Prop := fun s₂ o => ∃ v L, o = .returned v ∧ Q v s₂.heap L ∧ FrameEnd s o s₂ L K N
theorem Go.by (h : ∀ t, Steps p.tables e below B t → Steps p.tables e below A t) (k : Go p e below P B) : Go p e below P A := by
  obtain ⟨s₂, o, h1, h2⟩ := k
  exact ⟨s₂, o, h _ h1, h2⟩
theorem Go.to (h : Steps p.tables e below A B) (k : Go p e below P B) : Go p e below P A := Go.by (fun _ q => h.trans q) k
theorem Go.cast {g g' : JFrame} (q : g = g') (k : Go p e below P (T.setTop g')) : Go p e below P (T.setTop g) := q ▸ k
theorem Go.ret (X : Stand p l e R s m args below meth c T locs cells slots) (hx : p.tables.exec = Jvm.exec) (hlk : meth.locks = false) {pc : Nat} {Ls : Array Slot} {w : Value} {t : FieldType} {i : Instr} {rest : List Value} (hret : meth.sig.returnType = some t) (hn : narrow t w = w)
    (hi : (i = .ireturn ∧ (t = .int ∨ t = .boolean ∨ t = .byte ∨ t = .char ∨ t = .short) ∧ ∃ z, w = .int z) ∨ (i = .lreturn ∧ t = .long ∧ ∃ z, w = .long z) ∨ (i = .dreturn ∧ t = .double ∧ ∃ z, w = .double z) ∨ (i = .freturn ∧ t = .float ∧ ∃ z, w = .float z) ∨ (i = .areturn ∧ t.isReference = true ∧ w.isRef = true))
    (hd : decode c.code pc = .ok (i, 1)) (hc : cells ≤ K) (hs : slots ≤ N) (hQ : Q (some w) T.heap locs) : Go p e below (PostW s K N Q) (T.setTop (mkF m pc Ls (w :: rest))) := by
  obtain ⟨fs, hr, hrun, hended, hW, hsame⟩ := X.leave (v := some w) (fun h => by rw [hret] at h; cases h) hlk
  exact ⟨_, _, retOut X hx hret hn hi hd hr, hrun, hended, _, _, rfl, hQ, ⟨_, rfl⟩, hW, hsame.mono hc hs⟩
theorem Go.retZ (X : Stand p l e R s m args below meth c T locs cells slots) (hx : p.tables.exec = Jvm.exec) (hlk : meth.locks = false) {pc : Nat} {Ls : Array Slot} {z : Int32} {t : FieldType} {rest : List Value} (hret : meth.sig.returnType = some t) (ht : t = .boolean ∨ t = .byte ∨ t = .char ∨ t = .short)
    (hd : decode c.code pc = .ok (.ireturn, 1)) (hc : cells ≤ K) (hs : slots ≤ N) (hQ : Q (some (.int (nar t z))) T.heap locs) : Go p e below (PostW s K N Q) (T.setTop (mkF m pc Ls (.int z :: rest))) := by
  obtain ⟨fs, hr, hrun, hended, hW, hsame⟩ := X.leave (v := some (.int (nar t z))) (fun h => by rw [hret] at h; cases h) hlk
  exact ⟨_, _, retN X hx hret ht hd hr, hrun, hended, _, _, rfl, hQ, ⟨_, rfl⟩, hW, hsame.mono hc hs⟩
theorem own_cat {w : Value} (h : w.isRef = true) : w.category = 1 := by cases w <;> first | rfl | (simp [Value.isRef] at h)
theorem own_narR {w : Value} {t : FieldType} (h : w.isRef = true) (ht : t.isReference = true) : narrow t w = w := by cases t <;> first | (cases ht; done) | (cases w <;> first | rfl | (simp [Value.isRef] at h))
theorem own_fitR {w : Value} {t : FieldType} (h : w.isRef = true) (ht : t.isReference = true) : fits t w = true := by cases t <;> first | (cases ht; done) | (cases w <;> first | rfl | (simp [Value.isRef] at h))
theorem Go.retV (X : Stand p l e R s m args below meth c T locs cells slots) (hx : p.tables.exec = Jvm.exec) (hlk : meth.locks = false) {pc : Nat} {Ls : Array Slot} (hret : meth.sig.returnType = none)
    (hd : decode c.code pc = .ok (.return_, 1)) (hc : cells ≤ K) (hs : slots ≤ N) (hQ : Q none T.heap locs) : Go p e below (PostW s K N Q) (T.setTop (mkF m pc Ls [])) := by
  obtain ⟨fs, hr, hrun, hended, hW, hsame⟩ := X.leave (v := none) (fun _ => rfl) hlk
  exact ⟨_, _, X.returnOut hx hret hd hr, hrun, hended, _, _, rfl, hQ, ⟨_, rfl⟩, hW, hsame.mono hc hs⟩
theorem wd {L : List Cond} {a0 : Array Value} {Z : State} (hw : ∀ d ∈ L, d.before a0 Z = true) (i : Nat) {d : Cond} (h : L[i]? = some d) : d.before a0 Z = true := hw d (List.mem_of_getElem? h)
/-- a callee's contract, as the walks here say it -/
abbrev Met (l : Launch) (Z : State) (y : MethodName) (bytes : ByteArray) (maxL : Nat) (ret : Option FieldType) (ws : List Cond) (rm : Room) (as' : Array Value) (h0 : Heap) (Q : Option Value → Heap → List Loc → Prop) : Prop :=
  MetFree l y (head1 (Cond.code y bytes maxL ret :: ws) rm) (fun a U => a = as' ∧ Z.Warmed39 U.vm ∧ U.heap = h0) (fun _ _ _ _ _ => True) (fun _ U o U' => ∃ v L, o = .returned v ∧ Q v U'.heap L ∧ FrameEnd U o U' L rm.cells rm.slots)
theorem Met.enter {Z : State} {y : MethodName} {bytes : ByteArray} {maxL : Nat} {ret : Option FieldType} {ws : List Cond} {rm : Room} {as' : Array Value} {h0 : Heap} {f0 : MethodId → JFrame} (hpl : plainFor y = true) (hf0 : ∀ m, entryFrame m as' maxL = f0 m)
    (body : ∀ (p : Program) (e : Env) (s : State) (m : MethodId) (below : List Frame) (meth : Method) (c : Code) (s₁ : State), p.tables.exec = Jvm.exec → c.code = bytes → c.maxLocals = maxL → s.vm.findClass y.cls = some m.cls → meth.name = y.name → meth.sig.returnType = ret → meth.locks = false → Z.Warmed39 s.vm → Stand p l e rm s m as' below meth c s₁ [] 0 0 → s₁.heap = h0 → Go p e below (PostW s rm.cells rm.slots Q) (s₁.setTop (f0 m))) : Met l Z y bytes maxL ret ws rm as' h0 Q := by
  refine MetFree.of_bodySF hpl hisR ?_
  intro p e s m args below meth c s₁ Bd hml0 hP hK
  obtain ⟨rfl, hZ, hh⟩ := hP
  have q := body p e s m below meth c s₁ Bd.exec Bd.bytes hml0 (findClass_of_methodNamed Bd.named) (name_of_methodNamed Bd.named Bd.method).1 Bd.returns Bd.notSynchronized hZ (Stand.of_body Bd) (by rw [← hh, Bd.state]; rfl)
  rw [← hf0] at q
  exact q
end Own
end Jvm.RoadKit
namespace Jvm.RoadKit
open Sem ClassFile Op Lib Bundle Jvm.Stand Jvm.Free Jvm.LawKit Jvm.Free.SB Jvm.Free.SBG
section OwnS
variable {p : Program} {l : Launch} {e : Env} {R : Room} {s : State} {m : MethodId} {args : Array Value} {below : List Frame} {meth : Method} {c : Code} {T A B : State} {locs : List Loc} {cells slots K N : Nat} {Q : Option Value → Heap → List Loc → Prop} {Z : State} {a0 : Array Value} {EL : List (String × Nat)} {vm0 : Vm} {k0 : Nat}
def PostS (Z : State) (EL : List (String × Nat)) (s : State) (K N : Nat) (Q : Option Value → Heap → List Loc → Prop) : State → Outcome → Prop := fun s₂ o => ∃ v L, o = .returned v ∧ Q v s₂.heap L ∧ CHr Z EL s.vm s.heap s₂.vm s₂.heap ∧ ReturnedEndW s o s₂ L K N
theorem own_monoW {t : State} {o : Outcome} {L : List Loc} {k n : Nat} (h : ReturnedEndW s o t L k n) (hk : k ≤ K) (hn : n ≤ N) : ReturnedEndW s o t L K N := ⟨h.1, h.2.1, h.2.2.1, h.2.2.2.mono hk hn⟩
theorem Go.retS (X : Stand p l e R (s.setVm vm0) m args below meth c T locs cells slots) (hx : p.tables.exec = Jvm.exec) (hlk : meth.locks = false) (hS : s.Since vm0 k0) (hk : k0 ≤ T.heap.size) (hZ : Z.Warmed39 vm0) (hEL : EW Z a0 EL) (C : CHr Z EL s.vm s.heap vm0 T.heap) {pc : Nat} {Ls : Array Slot} {w : Value} {t : FieldType} {i : Instr} {rest : List Value} (hret : meth.sig.returnType = some t) (hn : narrow t w = w)
    (hi : (i = .ireturn ∧ (t = .int ∨ t = .boolean ∨ t = .byte ∨ t = .char ∨ t = .short) ∧ ∃ z, w = .int z) ∨ (i = .lreturn ∧ t = .long ∧ ∃ z, w = .long z) ∨ (i = .dreturn ∧ t = .double ∧ ∃ z, w = .double z) ∨ (i = .freturn ∧ t = .float ∧ ∃ z, w = .float z) ∨ (i = .areturn ∧ t.isReference = true ∧ w.isRef = true))
    (hd : decode c.code pc = .ok (i, 1)) (hc : cells ≤ K) (hs : slots ≤ N) (hQ : Q (some w) T.heap locs) : Go p e below (PostS Z EL s K N Q) (T.setTop (mkF m pc Ls (w :: rest))) := by
  obtain ⟨fs, hr, hrun, hended, hW⟩ := X.leaveW hS hk (v := some w) (fun h => by rw [hret] at h; cases h) hlk
  exact ⟨_, _, retOut X hx hret hn hi hd hr, hrun, hended, _, _, rfl, hQ, (show CHr Z EL s.vm s.heap T.vm T.heap from C.trans (CHv.at X hZ hEL C.1)), own_monoW hW hc hs⟩
theorem Go.retZS (X : Stand p l e R (s.setVm vm0) m args below meth c T locs cells slots) (hx : p.tables.exec = Jvm.exec) (hlk : meth.locks = false) (hS : s.Since vm0 k0) (hk : k0 ≤ T.heap.size) (hZ : Z.Warmed39 vm0) (hEL : EW Z a0 EL) (C : CHr Z EL s.vm s.heap vm0 T.heap) {pc : Nat} {Ls : Array Slot} {z : Int32} {t : FieldType} {rest : List Value} (hret : meth.sig.returnType = some t) (ht : t = .boolean ∨ t = .byte ∨ t = .char ∨ t = .short)
    (hd : decode c.code pc = .ok (.ireturn, 1)) (hc : cells ≤ K) (hs : slots ≤ N) (hQ : Q (some (.int (nar t z))) T.heap locs) : Go p e below (PostS Z EL s K N Q) (T.setTop (mkF m pc Ls (.int z :: rest))) := by
  obtain ⟨fs, hr, hrun, hended, hW⟩ := X.leaveW hS hk (v := some (.int (nar t z))) (fun h => by rw [hret] at h; cases h) hlk
  exact ⟨_, _, retN X hx hret ht hd hr, hrun, hended, _, _, rfl, hQ, (show CHr Z EL s.vm s.heap T.vm T.heap from C.trans (CHv.at X hZ hEL C.1)), own_monoW hW hc hs⟩
theorem Go.retVS (X : Stand p l e R (s.setVm vm0) m args below meth c T locs cells slots) (hx : p.tables.exec = Jvm.exec) (hlk : meth.locks = false) (hS : s.Since vm0 k0) (hk : k0 ≤ T.heap.size) (hZ : Z.Warmed39 vm0) (hEL : EW Z a0 EL) (C : CHr Z EL s.vm s.heap vm0 T.heap) {pc : Nat} {Ls : Array Slot} (hret : meth.sig.returnType = none)
    (hd : decode c.code pc = .ok (.return_, 1)) (hc : cells ≤ K) (hs : slots ≤ N) (hQ : Q none T.heap locs) : Go p e below (PostS Z EL s K N Q) (T.setTop (mkF m pc Ls [])) := by
  obtain ⟨fs, hr, hrun, hended, hW⟩ := X.leaveW hS hk (v := none) (fun _ => rfl) hlk
  exact ⟨_, _, X.returnOut hx hret hd hr, hrun, hended, _, _, rfl, hQ, (show CHr Z EL s.vm s.heap T.vm T.heap from C.trans (CHv.at X hZ hEL C.1)), own_monoW hW hc hs⟩
abbrev MetS (l : Launch) (Z : State) (EL : List (String × Nat)) (y : MethodName) (bytes : ByteArray) (maxL : Nat) (ret : Option FieldType) (ws : List Cond) (rm : Room) (as' : Array Value) (h0 : Heap) (Q : Option Value → Heap → List Loc → Prop) : Prop :=
  MetFree l y (head1 (Cond.code y bytes maxL ret :: ws) rm) (fun a U => a = as' ∧ Z.Warmed39 U.vm ∧ U.heap = h0 ∧ CHv Z EL U.vm h0) (fun _ _ _ _ _ => True) (fun _ U o U' => ∃ v L, o = .returned v ∧ Q v U'.heap L ∧ CHr Z EL U.vm U.heap U'.vm U'.heap ∧ ReturnedEndW U o U' L rm.cells rm.slots)
theorem MetS.enter {y : MethodName} {bytes : ByteArray} {maxL : Nat} {ret : Option FieldType} {ws : List Cond} {rm : Room} {as' : Array Value} {h0 : Heap} {f0 : MethodId → JFrame} (hpl : plainFor y = true) (hf0 : ∀ m, entryFrame m as' maxL = f0 m)
    (body : ∀ (p : Program) (e : Env) (s : State) (m : MethodId) (below : List Frame) (meth : Method) (c : Code) (s₁ : State), p.tables.exec = Jvm.exec → c.code = bytes → c.maxLocals = maxL → s.vm.findClass y.cls = some m.cls → meth.name = y.name → meth.sig.returnType = ret → meth.locks = false → Z.Warmed39 s.vm → Stand p l e rm (s.setVm s.vm) m as' below meth c s₁ [] 0 0 → s₁.heap = h0 → s.Since s.vm h0.size → CHr Z EL s.vm s.heap s.vm h0 → Go p e below (PostS Z EL s rm.cells rm.slots Q) (s₁.setTop (f0 m))) : MetS l Z EL y bytes maxL ret ws rm as' h0 Q := by
  refine MetFree.of_bodySF hpl hisR ?_
  intro p e s m args below meth c s₁ Bd hml0 hP hK
  obtain ⟨rfl, hZ, hh, hC⟩ := hP
  have q := body p e s m below meth c s₁ Bd.exec Bd.bytes hml0 (findClass_of_methodNamed Bd.named) (name_of_methodNamed Bd.named Bd.method).1 Bd.returns Bd.notSynchronized hZ (Stand.of_body Bd) (by rw [← hh, Bd.state]; rfl) ((State.WarmedH.refl s).since _) (by rw [hh]; exact CHr.refl hC)
  rw [← hf0] at q
  exact q
/-- an object whose 'value' is null is no booked String, nor a booked String's array -/
theorem own_safe0 {h : Heap} {x : Addr} {vm : Vm} (hal : Z.vm.Alike vm) (E : Exa Z h x "java/lang/String") (F : Fld Z h x "java/lang/String" "value" "[B" .null) : Safe Z EL vm h x := fun B => by
  obtain ⟨p, -, u, a, -, q, -, S, rfl | rfl⟩ := B
  · obtain ⟨cS, ⟨⟨s1, s2, s3, ⟨cv, kv, iv, s4, s4'⟩, -, s6, -, s8, -⟩, -⟩, -⟩ := S
    obtain ⟨cell, cf, k, i, f, h1, h2, -, -, -, -, h7⟩ := F
    obtain ⟨kv', z4⟩ := ff_back hal s4
    have e1 := h2.symm.trans z4
    simp only [Option.some.injEq, Prod.mk.injEq] at e1
    have e2 : cell = q.sC := Option.some.inj (h1.symm.trans s1)
    rw [e2, e1.2.2.2, s8] at h7
    cases h7
  · obtain ⟨cS, ⟨⟨-, -, -, -, -, -, -, -, -, s10, -⟩, -⟩, -, hB, -⟩ := S
    obtain ⟨cell, k, h1, h2, -⟩ := E
    have e2 : cell = q.SA := Option.some.inj (h1.symm.trans s10)
    have hB' : vm.findClass "[B" = some q.SA.cls := hB
    rw [hal.findClass] at hB'
    rw [e2] at h2
    obtain ⟨k1, q1, q2⟩ := Vm.findClass_spec hB'
    obtain ⟨k2, q3, q4⟩ := Vm.findClass_spec h2
    cases q1.symm.trans q3
    have := q2.symm.trans q4
    revert this
    decide
end OwnS
end Jvm.RoadKit
/- laws to paste: Road.eqW (cut by pick.py; bodies as the Statement names them) -/
namespace Jvm.Pilot.@@N@@
namespace StrChars
open Jvm Sem ClassFile Op Lib Jvm.Stand Jvm.Free.XT Jvm.Free.ALB Jvm.Free.JM Jvm.Free
open Jvm.Lib.Cold (StaticIs)
/-- the byte that i2b leaves of a char -/
def lo8 (x : Int32) : Int32 := x.toInt8.toInt32
theorem fits_lo8 (y : Int32) : fits .byte (.int (lo8 y)) = true := by
  have h1 := y.toInt8.le_toInt
  have h2 := y.toInt8.toInt_lt
  simp only [lo8, fits, Bool.and_eq_true, decide_eq_true_eq, Int32.le_iff_toInt_le, Int8.toInt_toInt32, show (-128 : Int32).toInt = -128 from by decide, show (127 : Int32).toInt = 127 from by decide]
  omega
def U16 : String := "java/lang/StringUTF16"
namespace Cmp5
def yN : MethodName := ⟨"java/lang/StringUTF16", "compress", "([CI[BII)I"⟩
abbrev yB : ByteArray := jdk_52_method_21_code
end Cmp5
namespace Cmp3
def yN : MethodName := ⟨"java/lang/StringUTF16", "compress", "([CII)[B"⟩
abbrev yB : ByteArray := jdk_52_method_16_code
end Cmp3
namespace CodL
def yN : MethodName := ⟨"java/lang/StringUTF16", "coderFromArrayLen", "([BI)B"⟩
abbrev yB : ByteArray := jdk_52_method_15_code
end CodL
namespace New4
def yN : MethodName := ⟨"java/lang/String", "<init>", "([CIILjava/lang/Void;)V"⟩
abbrev yB : ByteArray := jdk_42_method_149_code
end New4
namespace New1
def yN : MethodName := ⟨"java/lang/String", "<init>", "([C)V"⟩
abbrev yB : ByteArray := jdk_42_method_3_code
end New1
/-- the byte, read back as charAt reads it, is the char -/
theorem lo8_mask {x : Int32} (h0 : ¬ x < 0) (h1 : ¬ 255 < x) : lo8 x &&& 255 = x := by
  have t : ∀ k : Fin 256, lo8 (Int32.ofNat k.val) &&& 255 = Int32.ofNat k.val := by decide +kernel
  rw [Int32.lt_iff_toInt_lt] at h0 h1
  have e0 : (0 : Int32).toInt = 0 := rfl
  have e1 : (255 : Int32).toInt = 255 := rfl
  obtain ⟨k, hk⟩ : ∃ k : Nat, x.toInt = k := ⟨x.toInt.toNat, by omega⟩
  have hx : x = Int32.ofNat k := Int32.toInt_inj.mp (by rw [hk, Int32.toInt_ofNat_small (by omega)])
  rw [hx]
  exact t ⟨k, by omega⟩
end StrChars
namespace StrChars.Road
open Jvm Sem ClassFile Op Lib Jvm.Stand Jvm.Free Jvm.Free.XT
open Jvm.Lib.Cold (StaticIs)
abbrev ST : String := "java/lang/String"
/-- every table word that New1's law asks, flat -/
abbrev words : List Jvm.Cond := [.code New1.yN New1.yB 2 none, .initialized ST, .methodLink ST 27 New4.yN, .instanceMethod New4.yN,
  .code New4.yN New4.yB 6 none, .fieldLink ST 38 ST "COMPACT_STRINGS" "Z", .laysFinal ST ST "value" "[B", .fieldLink ST 9 ST "value" "[B", .laysFinal ST ST "coder" "B", .fieldLink ST 15 ST "coder" "B",
  .methodLink ST 1 Lib.objectInit, .instanceMethod Lib.objectInit, .code Lib.objectInit ⟨#[0xb1]⟩ 1 none, .methodLink ST 177 Cmp3.yN, .static Cmp3.yN, .methodLink ST 47 CodL.yN, .static CodL.yN,
  .code Cmp3.yN Cmp3.yB 6 (some (.array .byte)), .initialized U16, .arrayClass .byte, .methodLink U16 115 Cmp5.yN, .static Cmp5.yN, .code Cmp5.yN Cmp5.yB 7 (some .int), .code CodL.yN CodL.yB 2 (some .byte)]
end StrChars.Road
namespace StrChars
open Jvm Sem ClassFile Op Lib Jvm.Stand Jvm.Free.XT Jvm.Free.ALB Jvm.Free.JM Jvm.Free
open Jvm.Lib.Cold (StaticIs)
def hi8 (x : Int32) : Int32 := lo8 (x >>> ((8 : Int32) &&& 31))
/-- what StringUTF16.getChar makes of two bytes -/
def pairCh (u v : Int32) : Int32 := (((u &&& 255) <<< ((0 : Int32) &&& 31)) ||| ((v &&& 255) <<< ((8 : Int32) &&& 31))).toUInt32.toUInt16.toUInt32.toInt32
theorem lo8_and (x : Int32) : (lo8 x &&& 255).toBitVec.toNat = x.toBitVec.toNat % 256 := by
  have h : (lo8 x).toBitVec = (x.toBitVec.signExtend 8).signExtend 32 := by rw [lo8, Int8.toBitVec_toInt32, Int32.toBitVec_toInt8]
  rw [Int32.toBitVec_and, BitVec.toNat_and, h]
  have e : ((x.toBitVec.signExtend 8).signExtend 32).toNat % 256 = x.toBitVec.toNat % 256 := by
    rw [BitVec.toNat_signExtend]
    have hlt := x.toBitVec.isLt
    simp only [BitVec.toNat_setWidth, BitVec.toNat_signExtend]
    split <;> split <;> omega
  rw [← e]
  exact Nat.and_two_pow_sub_one_eq_mod _ 8
theorem pair_says {c : Int32} (h0 : ¬ c < 0) (h1 : ¬ 65535 < c) : pairCh (lo8 c) (hi8 c) = c := by
  rw [Int32.lt_iff_toInt_lt] at h0 h1
  have e0 : (0 : Int32).toInt = 0 := rfl
  have e1 : (65535 : Int32).toInt = 65535 := rfl
  have hc : c.toInt = c.toBitVec.toNat := by
    have := c.toBitVec.isLt
    have e : c.toInt = c.toBitVec.toInt := rfl
    rw [e] at h0 h1
    rw [e]
    rw [BitVec.toInt_eq_toNat_cond] at h0 h1 ⊢
    split at h0 <;> split <;> omega
  have hn : c.toBitVec.toNat < 65536 := by omega
  have a1 := lo8_and c
  have a2 : (hi8 c &&& 255).toBitVec.toNat = c.toBitVec.toNat / 256 := by
    rw [hi8, lo8_and]
    have e : ((8 : Int32) &&& 31) = 8 := by decide
    rw [e, Int32.toBitVec_shiftRight]
    have e2 : ((8 : Int32).toBitVec.smod 32) = 8#32 := by decide
    rw [e2, BitVec.sshiftRight_eq', BitVec.toNat_sshiftRight_of_msb_false (by rw [BitVec.msb_eq_false_iff_two_mul_lt]; omega)]
    show c.toBitVec.toNat >>> 8 % 256 = _
    rw [Nat.shiftRight_eq_div_pow]
    omega
  unfold pairCh
  apply Int32.toBitVec_inj.mp
  apply BitVec.eq_of_toNat_eq
  have f0 : ((0 : Int32) &&& 31) = 0 := by decide
  have f8 : ((8 : Int32) &&& 31) = 8 := by decide
  rw [f0, f8]
  have g : (((lo8 c &&& 255) <<< (0 : Int32)) ||| ((hi8 c &&& 255) <<< (8 : Int32))).toBitVec.toNat = c.toBitVec.toNat := by
    rw [Int32.toBitVec_or, Int32.toBitVec_shiftLeft, Int32.toBitVec_shiftLeft]
    have s0 : ((0 : Int32).toBitVec.smod 32) = 0#32 := by decide
    have s8 : ((8 : Int32).toBitVec.smod 32) = 8#32 := by decide
    rw [s0, s8, BitVec.toNat_or]
    simp only [BitVec.shiftLeft_eq', BitVec.toNat_shiftLeft, a1, a2]
    show (c.toBitVec.toNat % 256) <<< 0 % 2 ^ 32 ||| (c.toBitVec.toNat / 256) <<< 8 % 2 ^ 32 = _
    rw [Nat.shiftLeft_zero, Nat.mod_eq_of_lt (show c.toBitVec.toNat % 256 < 2 ^ 32 by omega), Nat.mod_eq_of_lt (show (c.toBitVec.toNat / 256) <<< 8 < 2 ^ 32 by rw [Nat.shiftLeft_eq]; omega), Nat.or_comm, ← Nat.shiftLeft_add_eq_or_of_lt (by omega), Nat.shiftLeft_eq]
    omega
  show BitVec.toNat (((((lo8 c &&& 255) <<< (0 : Int32)) ||| ((hi8 c &&& 255) <<< (8 : Int32))).toBitVec.setWidth 16).setWidth 32) = _
  rw [BitVec.toNat_setWidth, BitVec.toNat_setWidth, g]
  omega
end StrChars
namespace StrChars
open Jvm Sem ClassFile Op Lib Jvm.Stand Jvm.Free.XT Jvm.Free.ALB Jvm.Free.JM Jvm.Free
open Jvm.Lib.Cold (StaticIs)
/-- the array's cell V codes the n chars f 0 .. f (n - 1) by the coder cd, as the JDK does: coder 1 just where some char is above 255 -/
def Cod (cd : Int32) (n : Nat) (f : Nat → Int32) (V : Cell) : Prop := (cd = 0 ∧ V.slots.size = n ∧ ∀ j, j < n → V.slots[j]? = some (.int (lo8 (f j))) ∧ ¬ 255 < f j) ∨ (cd = 1 ∧ V.slots.size = 2 * n ∧ (∀ j, j < n → V.slots[2 * j]? = some (.int (lo8 (f j))) ∧ V.slots[2 * j + 1]? = some (.int (hi8 (f j)))) ∧ ∃ j, j < n ∧ 255 < f j)
/-- **x is a String of the n chars f 0 .. f (n - 1)**, Latin-1 or UTF-16; its array at t has the cell V -/
def Txt (x t : Addr) (V : Cell) (cd : Int32) (n : Nat) (f : Nat → Int32) (U : State) : Prop := Exact "java/lang/String" x U ∧ Has x "java/lang/String" "value" "[B" (.ref t) U ∧ Has x "java/lang/String" "coder" "B" (.int cd) U ∧ XT.Arr .byte t V U ∧ Cod cd n f V ∧ ∀ j, j < n → ¬ f j < 0 ∧ ¬ 65535 < f j
theorem Txt.mv {x t : Addr} {V : Cell} {cd : Int32} {n : Nat} {f : Nat → Int32} {U U' : State} (h : Txt x t V cd n f U) (hal : U.vm.Alike U'.vm) (hh : U'.heap = U.heap) : Txt x t V cd n f U' := ⟨h.1.mv hal hh, h.2.1.mv hal hh, h.2.2.1.mv hal hh, h.2.2.2.1.mv hal hh, h.2.2.2.2⟩
end StrChars
namespace StrChars.Road
open Jvm Sem ClassFile Op Lib Jvm.Stand Jvm.Free Jvm.Free.XT
open Jvm.Lib.Cold (StaticIs)
theorem consq {a : Array Value} {s : State} {c : Jvm.Cond} {L : List Jvm.Cond} (h0 : c.before a s = true) (h : ∀ w ∈ L, w.before a s = true) : ∀ w ∈ c :: L, w.before a s = true := fun w hw => (List.mem_cons.mp hw).elim (fun e => e ▸ h0) (h w)
/-- the bytes of the chars cs, low before high -/
def wideBytes : List Int32 → List Value
  | [] => []
  | c :: cs => .int (lo8 c) :: .int (hi8 c) :: wideBytes cs
theorem wide_lo (d : Value) : ∀ (cs : List Int32) (j : Nat), j < cs.length → (wideBytes cs).getD (2 * j) d = .int (lo8 (cs.getD j 0))
  | [], j, h => absurd h (Nat.not_lt_zero j)
  | c :: cs, 0, _ => rfl
  | c :: cs, j + 1, h => by
    have q := wide_lo d cs j (by simpa using h)
    rw [show 2 * (j + 1) = 2 * j + 1 + 1 from by omega]
    simpa [wideBytes] using q
theorem wide_hi (d : Value) : ∀ (cs : List Int32) (j : Nat), j < cs.length → (wideBytes cs).getD (2 * j + 1) d = .int (hi8 (cs.getD j 0))
  | [], j, h => absurd h (Nat.not_lt_zero j)
  | c :: cs, 0, _ => rfl
  | c :: cs, j + 1, h => by
    have q := wide_hi d cs j (by simpa using h)
    rw [show 2 * (j + 1) + 1 = 2 * j + 1 + 1 + 1 from by omega]
    simpa [wideBytes] using q
theorem low_at (d : Value) (cs : List Int32) (j : Nat) (h : j < cs.length) : (cs.map fun c => Value.int (lo8 c)).getD j d = .int (lo8 (cs.getD j 0)) := by
  simp [List.getD_eq_getElem?_getD, h]
/-- an array of N2 bytes vs codes the chars cs by the coder cd -/
def CodA (cs : List Int32) (cd N2 : Int32) (vs : List Value) : Prop := (cd = 0 ∧ N2 = Int32.ofNat cs.length ∧ vs = (cs.map fun c => Value.int (lo8 c)) ∧ ∀ c ∈ cs, ¬ 255 < c) ∨ (cd = 1 ∧ N2 = Int32.ofNat (2 * cs.length) ∧ vs = wideBytes cs ∧ ∃ c ∈ cs, 255 < c)
theorem CodA.cod {cs : List Int32} {cd N2 : Int32} {vs : List Value} {V : Cell} (h : CodA cs cd N2 vs) (hn : 2 * cs.length < 2 ^ 31) (hs : V.slots.size = N2.toNatClampNeg) (hv : RoadKit.Has V vs (.int 0)) : Cod cd cs.length (fun j => cs.getD j 0) V := by
  rcases h with ⟨rfl, rfl, rfl, h⟩ | ⟨rfl, rfl, rfl, c, hc, hw⟩
  · rw [n32 (by omega)] at hs
    exact Or.inl ⟨rfl, hs, fun j hj => ⟨by rw [hv j (by omega), low_at _ _ _ hj], by
      have e : cs.getD j 0 = cs[j] := by simp [List.getD_eq_getElem?_getD, hj]
      show ¬ 255 < cs.getD j 0
      rw [e]; exact h _ (List.getElem_mem _)⟩⟩
  · rw [n32 (by omega)] at hs
    obtain ⟨j, hj, rfl⟩ := List.getElem_of_mem hc
    exact Or.inr ⟨rfl, hs, fun j hj => ⟨by rw [hv _ (by omega), wide_lo _ _ _ hj], by rw [hv _ (by omega), wide_hi _ _ _ hj]⟩, j, hj, by
      have e : cs.getD j 0 = cs[j] := by simp [List.getD_eq_getElem?_getD, hj]
      show 255 < cs.getD j 0
      rw [e]; exact hw⟩
/-- an object of exactly java/lang/String, its two fields found: as the laws ask it -/
theorem strObj {Z U : State} {a0 : Array Value} {kI : Nat} (wi : (Jvm.Cond.instantiable ST kI).before a0 Z = true) (al : Z.vm.Alike U.vm) {x : Addr} {v0 c0 : Value} (E : RoadKit.Exa Z U.heap x ST) (V : RoadKit.Fld Z U.heap x ST "value" "[B" v0) (C : RoadKit.Fld Z U.heap x ST "coder" "B" c0) :
    ∃ (D : Cell) (fV fC : Field), Blank ST x D U ∧ Found ST "value" "[B" fV U ∧ Found ST "coder" "B" fC U ∧ D.slots[fV.slot]? = some v0 ∧ D.slots[fC.slot]? = some c0 ∧ RoadKit.slotOf Z ST "value" "[B" = fV.slot ∧ RoadKit.slotOf Z ST "coder" "B" = fC.slot := by
  obtain ⟨D, cfV, kV, iV, fV, hD, gV, stV, knV, obV, asV, slV⟩ := V
  obtain ⟨D', cfC, kC, iC, fC, hD', gC, stC, -, -, asC, slC⟩ := C
  cases hD.symm.trans hD'
  obtain ⟨D2, kD, e1, e2, e3, e4, e5⟩ := E
  cases hD.symm.trans e1
  obtain ⟨c2, k2, i1, i2, i3, -⟩ := Cond.instantiable_spec wi
  cases e2.symm.trans i1
  cases e3.symm.trans i2
  obtain ⟨kU, u1, u2⟩ := al.2.2 _ _ e3
  exact ⟨D, fV, fC, ⟨hD, ⟨knV, fun q hq => by rw [hq] at obV; cases obV⟩, by rw [al.findClass]; exact e2, kU, u1, by rw [u2]; exact i3, by rw [u2]; exact e5 i3⟩, ⟨SBG.found_only al ⟨cfV, kV, iV, gV⟩, stV⟩, ⟨SBG.found_only al ⟨cfC, kC, iC, gC⟩, stC⟩, slV, slC, by simp [RoadKit.slotOf, gV], by simp [RoadKit.slotOf, gC]⟩
theorem sta_is {Z U : State} (al : Z.vm.Alike U.vm) {C n d : String} {v : Value} (S : RoadKit.Sta Z U.heap C n d v) : StaticIs U C n d v := by
  obtain ⟨cfS, iS, kS, fS, st, cS, t1, t2, t3, t4, t5, t6, t7⟩ := S
  exact StaticIs.there (s := { Z with heap := U.heap }) ⟨cfS, iS, kS, fS, st, cS, t1, t2, t3, t4, t5, (fun q => by rw [q] at t6; cases t6), t7⟩ al rfl
end StrChars.Road
namespace StrChars
open Jvm Sem ClassFile Op Lib Jvm.Stand Jvm.Free.XT Jvm.Free.ALB Jvm.Free.JM Jvm.Free
open Jvm.Lib.Cold (StaticIs)
/-- what place i of a byte[]'s cell holds -/
def yv (A : Cell) (i : Nat) : Int32 := match A.slots[i]? with | some (.int x) => x | _ => 0
theorem yv_get {a : Addr} {A : Cell} {U : State} (h : XT.Arr .byte a A U) (ht : Typed .byte A) {i : Nat} (hi : i < A.slots.size) : A.slots[i]? = some (.int (yv A i)) := by
  have e := Array.getElem?_eq_getElem hi
  have f := ht i _ e
  unfold yv; rw [e]
  generalize A.slots[i] = v at f
  cases v <;> simp [fits] at f ⊢
/-- the two arrays are equal, place for place -/
def EqC (A B : Cell) : Prop := A.slots.size = B.slots.size ∧ ∀ i, i < A.slots.size → yv A i = yv B i
/-- a boolean that says whether p -/
def Says01 (q : Prop) (r : Option Value) (s u : State) : Prop := ∃ v : Int32, r = some (.int v) ∧ u.heap = s.heap ∧ ((v = 1 ∧ q) ∨ (v = 0 ∧ ¬ q))
theorem Says01.mv {q : Prop} : ∀ r (U U' V V' : State), U'.heap = U.heap → V.vm.Alike V'.vm → V'.heap = V.heap → Says01 q r U V → Says01 q r U' V' :=
  fun r U U' V V' h1 _ h2 ⟨v, a, b, c⟩ => ⟨v, a, by rw [h1, h2]; exact b, c⟩
namespace LEq
def yN : MethodName := ⟨"java/lang/StringLatin1", "equals", "([B[B)Z"⟩
abbrev yB : ByteArray := jdk_43_method_13_code
theorem d0 : decode yB 0 = .ok (.aload_n 0, 1) := by decide +kernel
theorem d1 : decode yB 1 = .ok (.arraylength, 1) := by decide +kernel
theorem d2 : decode yB 2 = .ok (.aload_n 1, 1) := by decide +kernel
theorem d3 : decode yB 3 = .ok (.arraylength, 1) := by decide +kernel
theorem d4 : decode yB 4 = .ok (.if_icmp (.ne) 30, 3) := by decide +kernel
theorem d7 : decode yB 7 = .ok (.iconst 0, 1) := by decide +kernel
theorem d8 : decode yB 8 = .ok (.istore_n 2, 1) := by decide +kernel
theorem d9 : decode yB 9 = .ok (.iload_n 2, 1) := by decide +kernel
theorem d10 : decode yB 10 = .ok (.aload_n 0, 1) := by decide +kernel
theorem d11 : decode yB 11 = .ok (.arraylength, 1) := by decide +kernel
theorem d12 : decode yB 12 = .ok (.if_icmp (.ge) 20, 3) := by decide +kernel
theorem d15 : decode yB 15 = .ok (.aload_n 0, 1) := by decide +kernel
theorem d16 : decode yB 16 = .ok (.iload_n 2, 1) := by decide +kernel
theorem d17 : decode yB 17 = .ok (.baload, 1) := by decide +kernel
theorem d18 : decode yB 18 = .ok (.aload_n 1, 1) := by decide +kernel
theorem d19 : decode yB 19 = .ok (.iload_n 2, 1) := by decide +kernel
theorem d20 : decode yB 20 = .ok (.baload, 1) := by decide +kernel
theorem d21 : decode yB 21 = .ok (.if_icmp (.eq) 5, 3) := by decide +kernel
theorem d24 : decode yB 24 = .ok (.iconst 0, 1) := by decide +kernel
theorem d25 : decode yB 25 = .ok (.ireturn, 1) := by decide +kernel
theorem d26 : decode yB 26 = .ok (.iinc 2 1, 3) := by decide +kernel
theorem d29 : decode yB 29 = .ok (.goto (-20), 3) := by decide +kernel
theorem d32 : decode yB 32 = .ok (.iconst 1, 1) := by decide +kernel
theorem d33 : decode yB 33 = .ok (.ireturn, 1) := by decide +kernel
theorem d34 : decode yB 34 = .ok (.iconst 0, 1) := by decide +kernel
theorem d35 : decode yB 35 = .ok (.ireturn, 1) := by decide +kernel
def site : List Cond := []
def tab : Cond := tabOf yN yB 3 (some .boolean) site
def P (a : Addr) (A : Cell) (b : Addr) (B : Cell) (args : Array Value) (s : State) : Prop := args = #[.ref a, .ref b] ∧ XT.Arr .byte a A s ∧ Typed .byte A ∧ XT.Arr .byte b B s ∧ Typed .byte B
/-- whether two byte[] are equal, place for place -/
theorem law (l : Launch) (a : Addr) (A : Cell) (b : Addr) (B : Cell) : Law l yN 2 2 0 0 yB 3 (some .boolean) site (P a A b B) (Says01 (EqC A B)) [] 0 0 := by
  refine Law.of_walk (plainFor_of_name (by decide +kernel)) (by decide +kernel) (by decide +kernel) (by decide) (fun _ _ h => by rw [h.1]; rfl) (fun _ U U' hal hh h => ⟨h.1, h.2.1.mv hal hh, h.2.2.1, h.2.2.2.1.mv hal hh, h.2.2.2.2⟩) (fun r U U' V V' h1 hal h2 h => Says01.mv r U U' V V' h1 hal h2 h) ?_
  intro p e s m args below meth c s₁ X0 hexec hbytes hml hret hlk hnm hown hh0 W hP
  obtain ⟨rfl, hA, tA, hB, tB⟩ := hP
  have a31 := hA.2.2.2
  have b31 := hB.2.2.2
  have hA0 := hA.mv X0.warmed.alike hh0
  have hB0 := hB.mv X0.warmed.alike hh0
  have c1 : Steps p.tables e below (s₁.setTop (entryFrame m #[.ref a, .ref b] 3)) (s₁.setTop (mkF m 0 #[.val (.ref a), .val (.ref b), .unset] [])) := entry rfl
  have c2 : Steps p.tables e below (s₁.setTop (entryFrame m #[.ref a, .ref b] 3)) (s₁.setTop (mkF m 4 #[.val (.ref a), .val (.ref b), .unset] [.int (Int32.ofNat B.slots.size), .int (Int32.ofNat A.slots.size)])) := c1.trans (by
    refine XS.aloadN X0.here hexec rfl (hb hbytes d0) rfl rfl ?_
    refine X0.alen hexec hA0 rfl rfl (hb hbytes d1) ?_
    refine XS.aloadN X0.here hexec rfl (hb hbytes d2) rfl rfl ?_
    refine X0.alen hexec hB0 rfl rfl (hb hbytes d3) ?_
    exact Steps.refl _)
  by_cases hs : A.slots.size = B.slots.size
  · have c3 : Steps p.tables e below (s₁.setTop (entryFrame m #[.ref a, .ref b] 3)) (s₁.setTop (mkF m 9 #[.val (.ref a), .val (.ref b), .val (.int 0)] [])) := c2.trans (by
      refine XS.icmpNo X0.here hexec rfl (hb hbytes d4) rfl (ii_ne_f (by rw [hs])) ?_
      refine iconstV X0.here hexec rfl 0 (hb hbytes d7) (by decide) ?_
      refine XS.istoreN X0.here hexec rfl (hb hbytes d8) rfl rfl ?_
      exact Steps.refl _)
    have loop : ∀ (r i : Nat), i + r = A.slots.size → (∀ j, j < i → yv A j = yv B j) → Steps p.tables e below (s₁.setTop (entryFrame m #[.ref a, .ref b] 3)) (s₁.setTop (mkF m 9 #[.val (.ref a), .val (.ref b), .val (.int (Int32.ofNat i))] [])) → ∃ (pc : Nat) (Ls : Array Slot) (v : Int32), (pc = 25 ∨ pc = 33) ∧ ((v = 1 ∧ EqC A B) ∨ (v = 0 ∧ ¬ EqC A B)) ∧ Steps p.tables e below (s₁.setTop (entryFrame m #[.ref a, .ref b] 3)) (s₁.setTop (mkF m pc Ls [.int v])) := by
      intro r
      induction r with
      | zero =>
        intro i hi he cl
        exact ⟨33, _, 1, Or.inr rfl, Or.inl ⟨rfl, hs, fun j hj => he j (by omega)⟩, cl.trans (by
          refine XS.iloadN X0.here hexec rfl (hb hbytes d9) rfl ?_
          refine XS.aloadN X0.here hexec rfl (hb hbytes d10) rfl rfl ?_
          refine X0.alen hexec hA0 rfl rfl (hb hbytes d11) ?_
          refine XS.icmpYes X0.here hexec rfl (pc0 := 12) rfl (hb hbytes d12) rfl (ii_ge_t (nlt32 (by omega) (by omega))) (by decide) rfl ?_
          refine iconstV X0.here hexec rfl 1 (hb hbytes d32) (by decide) ?_
          exact Steps.refl _)⟩
      | succ r ih =>
        intro i hi he cl
        have c4 : Steps p.tables e below (s₁.setTop (entryFrame m #[.ref a, .ref b] 3)) (s₁.setTop (mkF m 21 #[.val (.ref a), .val (.ref b), .val (.int (Int32.ofNat i))] [.int (yv B i), .int (yv A i)])) := cl.trans (by
          refine XS.iloadN X0.here hexec rfl (hb hbytes d9) rfl ?_
          refine XS.aloadN X0.here hexec rfl (hb hbytes d10) rfl rfl ?_
          refine X0.alen hexec hA0 rfl rfl (hb hbytes d11) ?_
          refine XS.icmpNo X0.here hexec rfl (hb hbytes d12) rfl (ii_ge_f (lt32 (by omega) (by omega))) ?_
          refine XS.aloadN X0.here hexec rfl (hb hbytes d15) rfl rfl ?_
          refine XS.iloadN X0.here hexec rfl (hb hbytes d16) rfl ?_
          refine X0.aget hexec hA0 rfl (yv_get hA tA (i := i) (by omega)) rfl rfl (hb hbytes d17) ?_
          refine XS.aloadN X0.here hexec rfl (hb hbytes d18) rfl rfl ?_
          refine XS.iloadN X0.here hexec rfl (hb hbytes d19) rfl ?_
          refine X0.aget hexec hB0 rfl (yv_get hB tB (i := i) (by omega)) rfl rfl (hb hbytes d20) ?_
          exact Steps.refl _)
        by_cases hv : yv A i = yv B i
        · have c5 : Steps p.tables e below (s₁.setTop (entryFrame m #[.ref a, .ref b] 3)) (s₁.setTop (mkF m 9 #[.val (.ref a), .val (.ref b), .val (.int (Int32.ofNat i + 1))] [])) := c4.trans (by
            refine XS.icmpYes X0.here hexec rfl (pc0 := 21) rfl (hb hbytes d21) rfl (ii_eq_t hv) (by decide) rfl ?_
            refine iincV X0.here hexec rfl 1 (hb hbytes d26) (by decide) rfl rfl ?_
            refine XS.goto X0.here hexec rfl (pc0 := 29) rfl (hb hbytes d29) (by decide) rfl ?_
            exact Steps.refl _)
          rw [succ32] at c5
          exact ih (i + 1) (by omega) (fun j hj => by
            by_cases e : j = i
            · rw [e]; exact hv
            · exact he j (by omega)) c5
        · exact ⟨25, _, 0, Or.inl rfl, Or.inr ⟨rfl, fun q => hv (q.2 i (by omega))⟩, c4.trans (by
            refine XS.icmpNo X0.here hexec rfl (hb hbytes d21) rfl (ii_eq_f hv) ?_
            refine iconstV X0.here hexec rfl 0 (hb hbytes d24) (by decide) ?_
            exact Steps.refl _)⟩
    obtain ⟨pc, Ls, v, hpc, hv, cz⟩ := loop A.slots.size 0 (by omega) (fun j hj => absurd hj (Nat.not_lt_zero j)) c3
    have nv : narrow .boolean (.int v) = .int v := by rcases hv with ⟨rfl, -⟩ | ⟨rfl, -⟩ <;> rfl
    rcases hpc with rfl | rfl
    · exact ⟨s₁, some (.int v), _, _, _, X0, rfl, rfl, rfl, (fun h => by cases h), ⟨v, rfl, hh0, hv⟩, fun fs hl => cz.trans (X0.ireturnOut hexec hret nv (Or.inr (Or.inl rfl)) (hb hbytes d25) hl)⟩
    · exact ⟨s₁, some (.int v), _, _, _, X0, rfl, rfl, rfl, (fun h => by cases h), ⟨v, rfl, hh0, hv⟩, fun fs hl => cz.trans (X0.ireturnOut hexec hret nv (Or.inr (Or.inl rfl)) (hb hbytes d33) hl)⟩
  · have c3 : Steps p.tables e below (s₁.setTop (entryFrame m #[.ref a, .ref b] 3)) (s₁.setTop (mkF m 35 #[.val (.ref a), .val (.ref b), .unset] [.int 0])) := c2.trans (by
      refine XS.icmpYes X0.here hexec rfl (pc0 := 4) rfl (hb hbytes d4) rfl (ii_ne_t (ne32 a31 b31 hs)) (by decide) rfl ?_
      refine iconstV X0.here hexec rfl 0 (hb hbytes d34) (by decide) ?_
      exact Steps.refl _)
    exact ⟨s₁, some (.int 0), _, _, _, X0, rfl, rfl, rfl, (fun h => by cases h), ⟨0, rfl, hh0, Or.inr ⟨rfl, fun q => hs q.1⟩⟩, fun fs hl => c3.trans (X0.ireturnOut hexec hret rfl (Or.inr (Or.inl rfl)) (hb hbytes d35) hl)⟩
end LEq
theorem Cod.ty {cd : Int32} {n : Nat} {f : Nat → Int32} {V : Cell} (h : Cod cd n f V) : Typed .byte V := fun i v hv => by
  have hi : i < V.slots.size := (Array.getElem?_eq_some_iff.mp hv).1
  rcases h with ⟨-, k1, k2⟩ | ⟨-, k1, k2, -⟩
  · rw [(k2 i (by omega)).1] at hv; cases hv; exact fits_lo8 _
  · rcases Nat.mod_two_eq_zero_or_one i with e | e
    · obtain ⟨j, rfl⟩ : ∃ j, i = 2 * j := ⟨i / 2, by omega⟩
      rw [(k2 j (by omega)).1] at hv; cases hv; exact fits_lo8 _
    · obtain ⟨j, rfl⟩ : ∃ j, i = 2 * j + 1 := ⟨i / 2, by omega⟩
      rw [(k2 j (by omega)).2] at hv; cases hv; exact fits_lo8 _
/-- the same text -/
def SameT (n : Nat) (f : Nat → Int32) (k : Nat) (g : Nat → Int32) : Prop := n = k ∧ ∀ j, j < n → f j = g j
theorem lo8_inj {x y : Int32} (h0 : ¬ x < 0) (h1 : ¬ 255 < x) (k0 : ¬ y < 0) (k1 : ¬ 255 < y) (h : lo8 x = lo8 y) : x = y := by
  rw [← lo8_mask h0 h1, ← lo8_mask k0 k1, h]
/-- arrays coded by one coder are equal just where the texts are -/
theorem Cod.eqv {cd : Int32} {n k : Nat} {f g : Nat → Int32} {V V' : Cell} (h : Cod cd n f V) (h' : Cod cd k g V') (hf : ∀ j, j < n → ¬ f j < 0 ∧ ¬ 65535 < f j) (hg : ∀ j, j < k → ¬ g j < 0 ∧ ¬ 65535 < g j) : EqC V V' ↔ SameT n f k g := by
  have yvv : ∀ {W : Cell} {i : Nat} {x : Int32}, W.slots[i]? = some (.int x) → yv W i = x := fun q => by unfold yv; rw [q]
  rcases h with ⟨rfl, k1, k2⟩ | ⟨rfl, k1, k2, -⟩
  · rcases h' with ⟨-, m1, m2⟩ | ⟨e, -⟩
    · constructor
      · rintro ⟨e1, e2⟩
        refine ⟨by omega, fun j hj => ?_⟩
        have q := e2 j (by omega)
        rw [yvv (k2 j hj).1, yvv (m2 j (by omega)).1] at q
        exact lo8_inj (hf j hj).1 (k2 j hj).2 (hg j (by omega)).1 (m2 j (by omega)).2 q
      · rintro ⟨rfl, e2⟩
        refine ⟨by omega, fun j hj => ?_⟩
        rw [yvv (k2 j (by omega)).1, yvv (m2 j (by omega)).1, e2 j (by omega)]
    · exact absurd e (by decide)
  · rcases h' with ⟨e, -⟩ | ⟨-, m1, m2, -⟩
    · exact absurd e (by decide)
    · constructor
      · rintro ⟨e1, e2⟩
        refine ⟨by omega, fun j hj => ?_⟩
        have q1 := e2 (2 * j) (by omega)
        have q2 := e2 (2 * j + 1) (by omega)
        rw [yvv (k2 j hj).1, yvv (m2 j (by omega)).1] at q1
        rw [yvv (k2 j hj).2, yvv (m2 j (by omega)).2] at q2
        rw [← pair_says (hf j hj).1 (hf j hj).2, ← pair_says (hg j (by omega)).1 (hg j (by omega)).2, q1, q2]
      · rintro ⟨rfl, e2⟩
        refine ⟨by omega, fun i hi => ?_⟩
        rcases Nat.mod_two_eq_zero_or_one i with e | e
        · obtain ⟨j, rfl⟩ : ∃ j, i = 2 * j := ⟨i / 2, by omega⟩
          rw [yvv (k2 j (by omega)).1, yvv (m2 j (by omega)).1, e2 j (by omega)]
        · obtain ⟨j, rfl⟩ : ∃ j, i = 2 * j + 1 := ⟨i / 2, by omega⟩
          rw [yvv (k2 j (by omega)).2, yvv (m2 j (by omega)).2, e2 j (by omega)]
/-- two codings differ: so do the texts -/
theorem Cod.dif {cd cd' : Int32} {n k : Nat} {f g : Nat → Int32} {V V' : Cell} (h : Cod cd n f V) (h' : Cod cd' k g V') (hne : ¬ cd = cd') : ¬ SameT n f k g := by
  rintro ⟨rfl, e⟩
  rcases h with ⟨rfl, -, k2⟩ | ⟨rfl, -, -, j, hj, hw⟩
  · rcases h' with ⟨rfl, -⟩ | ⟨-, -, -, j, hj, hw⟩
    · exact hne rfl
    · exact (k2 j hj).2 (by rw [e j hj]; exact hw)
  · rcases h' with ⟨-, -, m2⟩ | ⟨rfl, -⟩
    · exact (m2 j hj).2 (by rw [← e j hj]; exact hw)
    · exact hne rfl
/-- an object of exactly C is an instance of C -/
theorem cinst {p : Program} {l : Launch} {e : Env} {R : Room} {s : State} {m : MethodId} {args : Array Value} {below : List Frame} {meth : Method} {c : Code} {T : State} {locs : List Loc} {cells slots : Nat} (X : Stand p l e R s m args below meth c T locs cells slots) (hexec : p.tables.exec = Jvm.exec) {own C : String} {index : Nat} (hown : s.vm.findClass own = some m.cls) (hlink : (Cond.classLink own index C).before args s = true) {a : Addr} (hE : Exact C a T)
    {g : JFrame} (hg : g.method = m) {rest : List Value} (hstack : g.stack = .ref a :: rest) (hdg : decode c.code g.pc = .ok (.instanceof index, 3)) :
    ∃ T', Stand p l e R s m args below meth c T' locs cells slots ∧ T'.heap = T.heap ∧ ∀ target, Steps p.tables e below (T'.setTop { g with pc := g.pc + 3, stack := .int 1 :: rest }) target → Steps p.tables e below (T.setTop g) target := by
  obtain ⟨cB, h1, D, h2, h3, h4⟩ := hE
  have h1' : s.vm.findClass C = some cB := by rw [← X.warmed.alike.findClass]; exact h1
  obtain ⟨vm', X', st⟩ := X.instanceofYes hexec hown hlink h2 h4 h1' (by rw [h3]; exact Jvm.Free.SB.assignable_self _ _) hg hstack hdg
  exact ⟨_, X', rfl, st⟩
theorem cself {p : Program} {l : Launch} {e : Env} {R : Room} {s : State} {m : MethodId} {args : Array Value} {below : List Frame} {meth : Method} {c : Code} {T : State} {locs : List Loc} {cells slots : Nat} (X : Stand p l e R s m args below meth c T locs cells slots) (hexec : p.tables.exec = Jvm.exec) {own C : String} {index : Nat} (hown : s.vm.findClass own = some m.cls) (hlink : (Cond.classLink own index C).before args s = true) {a : Addr} (hE : Exact C a T)
    {g : JFrame} (hg : g.method = m) {rest : List Value} (hstack : g.stack = .ref a :: rest) (hdg : decode c.code g.pc = .ok (.checkcast index, 3)) :
    ∃ T', Stand p l e R s m args below meth c T' locs cells slots ∧ T'.heap = T.heap ∧ ∀ target, Steps p.tables e below (T'.setTop { g with pc := g.pc + 3, stack := .ref a :: rest }) target → Steps p.tables e below (T.setTop g) target := by
  obtain ⟨cB, h1, D, h2, h3, h4⟩ := hE
  have h1' : s.vm.findClass C = some cB := by rw [← X.warmed.alike.findClass]; exact h1
  obtain ⟨vm', X', st⟩ := X.checkcastYes hexec hown hlink h2 h4 h1' (by rw [h3]; exact Jvm.Free.SB.assignable_self _ _) hg hstack hdg
  exact ⟨_, X', rfl, fun t h => st t (by rw [← hstack] at h; exact h)⟩
namespace SEq
def yN : MethodName := ⟨"java/lang/String", "equals", "(Ljava/lang/Object;)Z"⟩
abbrev yB : ByteArray := jdk_42_method_66_code
theorem d0 : decode yB 0 = .ok (.aload_n 0, 1) := by decide +kernel
theorem d1 : decode yB 1 = .ok (.aload_n 1, 1) := by decide +kernel
theorem d2 : decode yB 2 = .ok (.if_acmp (.ne) 5, 3) := by decide +kernel
theorem d5 : decode yB 5 = .ok (.iconst 1, 1) := by decide +kernel
theorem d6 : decode yB 6 = .ok (.ireturn, 1) := by decide +kernel
theorem d7 : decode yB 7 = .ok (.aload_n 1, 1) := by decide +kernel
theorem d8 : decode yB 8 = .ok (.instanceof 10, 3) := by decide +kernel
theorem d11 : decode yB 11 = .ok (.ifCond (.eq) 43, 3) := by decide +kernel
theorem d14 : decode yB 14 = .ok (.aload_n 1, 1) := by decide +kernel
theorem d15 : decode yB 15 = .ok (.checkcast 10, 3) := by decide +kernel
theorem d18 : decode yB 18 = .ok (.astore_n 2, 1) := by decide +kernel
theorem d19 : decode yB 19 = .ok (.getstatic 38, 3) := by decide +kernel
theorem d22 : decode yB 22 = .ok (.ifCond (.eq) 14, 3) := by decide +kernel
theorem d25 : decode yB 25 = .ok (.aload_n 0, 1) := by decide +kernel
theorem d26 : decode yB 26 = .ok (.getfield 15, 3) := by decide +kernel
theorem d29 : decode yB 29 = .ok (.aload_n 2, 1) := by decide +kernel
theorem d30 : decode yB 30 = .ok (.getfield 15, 3) := by decide +kernel
theorem d33 : decode yB 33 = .ok (.if_icmp (.ne) 21, 3) := by decide +kernel
theorem d36 : decode yB 36 = .ok (.aload_n 0, 1) := by decide +kernel
theorem d37 : decode yB 37 = .ok (.getfield 9, 3) := by decide +kernel
theorem d40 : decode yB 40 = .ok (.aload_n 2, 1) := by decide +kernel
theorem d41 : decode yB 41 = .ok (.getfield 9, 3) := by decide +kernel
theorem d44 : decode yB 44 = .ok (.invokestatic 541, 3) := by decide +kernel
theorem d47 : decode yB 47 = .ok (.ifCond (.eq) 7, 3) := by decide +kernel
theorem d50 : decode yB 50 = .ok (.iconst 1, 1) := by decide +kernel
theorem d51 : decode yB 51 = .ok (.goto 4, 3) := by decide +kernel
theorem d54 : decode yB 54 = .ok (.iconst 0, 1) := by decide +kernel
theorem d55 : decode yB 55 = .ok (.ireturn, 1) := by decide +kernel
def site : List Cond := [.classLink "java/lang/String" 10 "java/lang/String", .fieldLink "java/lang/String" 38 "java/lang/String" "COMPACT_STRINGS" "Z", .fieldLink "java/lang/String" 15 "java/lang/String" "coder" "B", .fieldLink "java/lang/String" 9 "java/lang/String" "value" "[B", LEq.tab] ++ staticW "java/lang/String" 541 LEq.yN
def tab : Cond := tabOf yN yB 3 (some .boolean) site
def P (x t : Addr) (V : Cell) (cd : Int32) (n : Nat) (f : Nat → Int32) (y t' : Addr) (V' : Cell) (cd' : Int32) (k : Nat) (g : Nat → Int32) (z : Int32) (args : Array Value) (s : State) : Prop := args = #[.ref x, .ref y] ∧ Txt x t V cd n f s ∧ Txt y t' V' cd' k g s ∧ StaticIs s "java/lang/String" "COMPACT_STRINGS" "Z" (.int z) ∧ ¬ z = 0
/-- equals(Object) of two Strings: whether the texts are the same -/
theorem law (l : Launch) (x t : Addr) (V : Cell) (cd : Int32) (n : Nat) (f : Nat → Int32) (y t' : Addr) (V' : Cell) (cd' : Int32) (k : Nat) (g : Nat → Int32) (z : Int32) : Law l yN 2 1 1 14 yB 3 (some .boolean) site (P x t V cd n f y t' V' cd' k g z) (Says01 (SameT n f k g)) [] 0 0 := by
  refine Law.of_walk (plainFor_of_name (by decide +kernel)) (by decide +kernel) (by decide +kernel) (by decide) (fun _ _ h => by rw [h.1]; rfl) (fun _ U U' hal hh h => ⟨h.1, h.2.1.mv hal hh, h.2.2.1.mv hal hh, h.2.2.2.1.there hal hh, h.2.2.2.2⟩) (fun r U U' V V' h1 hal h2 h => Says01.mv r U U' V V' h1 hal h2 h) ?_
  intro p e s m args below meth c s₁ X0 hexec hbytes hml hret hlk hnm hown hh0 W hP
  obtain ⟨rfl, hx, hy, s1, hz⟩ := hP
  have c1 : Steps p.tables e below (s₁.setTop (entryFrame m #[.ref x, .ref y] 3)) (s₁.setTop (mkF m 2 #[.val (.ref x), .val (.ref y), .unset] [.ref y, .ref x])) := Steps.trans (entry rfl) (by
    show Steps p.tables e below (s₁.setTop (mkF m 0 #[.val (.ref x), .val (.ref y), .unset] [])) _
    refine XS.aloadN X0.here hexec rfl (hb hbytes d0) rfl rfl ?_
    refine XS.aloadN X0.here hexec rfl (hb hbytes d1) rfl rfl ?_
    exact Steps.refl _)
  by_cases hxy : x = y
  · have c2 : Steps p.tables e below (s₁.setTop (entryFrame m #[.ref x, .ref y] 3)) (s₁.setTop (mkF m 6 #[.val (.ref x), .val (.ref y), .unset] [.int 1])) := c1.trans (by
      refine acmpNo X0.here hexec rfl (hb hbytes d2) rfl rfl rfl (by simp [acmp, hxy]) ?_
      refine iconstV X0.here hexec rfl 1 (hb hbytes d5) (by decide) ?_
      exact Steps.refl _)
    subst hxy
    have ec : cd = cd' := by
      obtain ⟨D, fd, a1, a2, a3⟩ := hx.2.2.1
      obtain ⟨D', fd', b1, b2, b3⟩ := hy.2.2.1
      cases a1.symm.trans b1
      obtain ⟨q1, q2, q3, q4⟩ := a2.1
      obtain ⟨r1, r2, r3, r4⟩ := b2.1
      cases q4.symm.trans r4
      cases a3.symm.trans b3; rfl
    have et : t = t' := by
      obtain ⟨D, fd, a1, a2, a3⟩ := hx.2.1
      obtain ⟨D', fd', b1, b2, b3⟩ := hy.2.1
      cases a1.symm.trans b1
      obtain ⟨q1, q2, q3, q4⟩ := a2.1
      obtain ⟨r1, r2, r3, r4⟩ := b2.1
      cases q4.symm.trans r4
      cases a3.symm.trans b3; rfl
    subst ec et
    have ev : V = V' := by cases hx.2.2.2.1.1.symm.trans hy.2.2.2.1.1; rfl
    subst ev
    have hs : SameT n f k g := (Cod.eqv hx.2.2.2.2.1 hy.2.2.2.2.1 hx.2.2.2.2.2 hy.2.2.2.2.2).mp ⟨rfl, fun _ _ => rfl⟩
    exact ⟨s₁, some (.int 1), _, _, _, X0, rfl, rfl, rfl, (fun h => by cases h), ⟨1, rfl, hh0, Or.inl ⟨rfl, hs⟩⟩, fun fs hl => c2.trans (X0.ireturnOut hexec hret rfl (Or.inr (Or.inl rfl)) (hb hbytes d6) hl)⟩
  · have c2 : Steps p.tables e below (s₁.setTop (entryFrame m #[.ref x, .ref y] 3)) (s₁.setTop (mkF m 8 #[.val (.ref x), .val (.ref y), .unset] [.ref y])) := c1.trans (by
      refine acmpYes X0.here hexec rfl (pc0 := 2) rfl (hb hbytes d2) rfl rfl rfl (by simp [acmp, hxy]) (by decide) rfl ?_
      refine XS.aloadN X0.here hexec rfl (hb hbytes d7) rfl rfl ?_
      exact Steps.refl _)
    obtain ⟨T3, X3, q3, st3⟩ := cinst X0 hexec hown (wk W (.classLink "java/lang/String" 10 "java/lang/String")) (hy.mv X0.warmed.alike hh0).1 (g := (mkF m 8 #[.val (.ref x), .val (.ref y), .unset] [.ref y])) rfl (rest := []) rfl (hb hbytes d8)
    have hh3 := q3.trans hh0
    have c4 : Steps p.tables e below (s₁.setTop (entryFrame m #[.ref x, .ref y] 3)) (T3.setTop (mkF m 15 #[.val (.ref x), .val (.ref y), .unset] [.ref y])) := (c2.trans (st3 _ (Steps.refl _))).trans (by
      refine XS.ifNo X3.here hexec rfl (hb hbytes d11) rfl (i0_eq_f (by decide)) ?_
      refine XS.aloadN X3.here hexec rfl (hb hbytes d14) rfl rfl ?_
      exact Steps.refl _)
    obtain ⟨T5, X5, q5, st5⟩ := cself X3 hexec hown (wk W (.classLink "java/lang/String" 10 "java/lang/String")) (hy.mv X3.warmed.alike hh3).1 (g := (mkF m 15 #[.val (.ref x), .val (.ref y), .unset] [.ref y])) rfl (rest := []) rfl (hb hbytes d15)
    have hh5 := q5.trans hh3
    have c6 : Steps p.tables e below (s₁.setTop (entryFrame m #[.ref x, .ref y] 3)) (T5.setTop (mkF m 19 #[.val (.ref x), .val (.ref y), .val (.ref y)] [])) := (c4.trans (st5 _ (Steps.refl _))).trans (by
      refine XS.astoreN X5.here hexec rfl (hb hbytes d18) rfl rfl rfl ?_
      exact Steps.refl _)
    obtain ⟨T7, X7, q7, st7⟩ := X5.sget hexec hown (wk W (.fieldLink "java/lang/String" 38 "java/lang/String" "COMPACT_STRINGS" "Z")) s1 (fun _ _ h => by rw [hh5]; exact h) (g := (mkF m 19 #[.val (.ref x), .val (.ref y), .val (.ref y)] [])) rfl (hb hbytes d19)
    have hh7 := q7.trans hh5
    have c8 : Steps p.tables e below (s₁.setTop (entryFrame m #[.ref x, .ref y] 3)) (T7.setTop (mkF m 26 #[.val (.ref x), .val (.ref y), .val (.ref y)] [.ref x])) := (c6.trans (st7 _ (Steps.refl _))).trans (by
      refine XS.ifNo X7.here hexec rfl (hb hbytes d22) rfl (i0_eq_f hz) ?_
      refine XS.aloadN X7.here hexec rfl (hb hbytes d25) rfl rfl ?_
      exact Steps.refl _)
    obtain ⟨T9, X9, q9, st9⟩ := X7.hget hexec hown (wk W (.fieldLink "java/lang/String" 15 "java/lang/String" "coder" "B")) (hx.mv X7.warmed.alike hh7).2.2.1 (g := (mkF m 26 #[.val (.ref x), .val (.ref y), .val (.ref y)] [.ref x])) rfl (rest := []) rfl (hb hbytes d26)
    have hh9 := q9.trans hh7
    have c10 : Steps p.tables e below (s₁.setTop (entryFrame m #[.ref x, .ref y] 3)) (T9.setTop (mkF m 30 #[.val (.ref x), .val (.ref y), .val (.ref y)] [.ref y, .int cd])) := (c8.trans (st9 _ (Steps.refl _))).trans (by
      refine XS.aloadN X9.here hexec rfl (hb hbytes d29) rfl rfl ?_
      exact Steps.refl _)
    obtain ⟨T11, X11, q11, st11⟩ := X9.hget hexec hown (wk W (.fieldLink "java/lang/String" 15 "java/lang/String" "coder" "B")) (hy.mv X9.warmed.alike hh9).2.2.1 (g := (mkF m 30 #[.val (.ref x), .val (.ref y), .val (.ref y)] [.ref y, .int cd])) rfl (rest := [.int cd]) rfl (hb hbytes d30)
    have hh11 := q11.trans hh9
    have c12 : Steps p.tables e below (s₁.setTop (entryFrame m #[.ref x, .ref y] 3)) (T11.setTop (mkF m 33 #[.val (.ref x), .val (.ref y), .val (.ref y)] [.int cd', .int cd])) := c10.trans (st11 _ (Steps.refl _))
    by_cases hcd : cd = cd'
    · subst hcd
      have c13 : Steps p.tables e below (s₁.setTop (entryFrame m #[.ref x, .ref y] 3)) (T11.setTop (mkF m 37 #[.val (.ref x), .val (.ref y), .val (.ref y)] [.ref x])) := c12.trans (by
        refine XS.icmpNo X11.here hexec rfl (hb hbytes d33) rfl (ii_ne_f rfl) ?_
        refine XS.aloadN X11.here hexec rfl (hb hbytes d36) rfl rfl ?_
        exact Steps.refl _)
      obtain ⟨T14, X14, q14, st14⟩ := X11.hget hexec hown (wk W (.fieldLink "java/lang/String" 9 "java/lang/String" "value" "[B")) (hx.mv X11.warmed.alike hh11).2.1 (g := (mkF m 37 #[.val (.ref x), .val (.ref y), .val (.ref y)] [.ref x])) rfl (rest := []) rfl (hb hbytes d37)
      have hh14 := q14.trans hh11
      have c15 : Steps p.tables e below (s₁.setTop (entryFrame m #[.ref x, .ref y] 3)) (T14.setTop (mkF m 41 #[.val (.ref x), .val (.ref y), .val (.ref y)] [.ref y, .ref t])) := (c13.trans (st14 _ (Steps.refl _))).trans (by
        refine XS.aloadN X14.here hexec rfl (hb hbytes d40) rfl rfl ?_
        exact Steps.refl _)
      obtain ⟨T16, X16, q16, st16⟩ := X14.hget hexec hown (wk W (.fieldLink "java/lang/String" 9 "java/lang/String" "value" "[B")) (hy.mv X14.warmed.alike hh14).2.1 (g := (mkF m 41 #[.val (.ref x), .val (.ref y), .val (.ref y)] [.ref y, .ref t])) rfl (rest := [.ref t]) rfl (hb hbytes d41)
      have hh16 := q16.trans hh14
      have c17 : Steps p.tables e below (s₁.setTop (entryFrame m #[.ref x, .ref y] 3)) (T16.setTop (mkF m 44 #[.val (.ref x), .val (.ref y), .val (.ref y)] [.ref t', .ref t])) := c15.trans (st16 _ (Steps.refl _))
      obtain ⟨v18, T18, X18, E18, g18⟩ := X16.callS hexec (LEq.law l t V t' V') hown (wks W (staticW "java/lang/String" 541 LEq.yN)) (wk W LEq.tab) (W := 0) (Nat.le_of_ble_eq_true rfl) (Nat.le_of_ble_eq_true rfl) (Nat.le_refl _) (Nat.le_refl _) (g := (mkF m 44 #[.val (.ref x), .val (.ref y), .val (.ref y)] [.ref t', .ref t])) rfl (by rw [hml]; rfl) c17 (argsL := [.ref t, .ref t']) (rest := []) rfl rfl (by show 2 * 0 + 0 ≤ _; decide) (hb hbytes d44) (⟨rfl, hx.2.2.2.1.mv X16.warmed.alike hh16, hx.2.2.2.2.1.ty, hy.2.2.2.1.mv X16.warmed.alike hh16, hy.2.2.2.2.1.ty⟩)
      obtain ⟨v, rfl, q18, hv⟩ := E18
      have iff := Cod.eqv hx.2.2.2.2.1 hy.2.2.2.2.1 hx.2.2.2.2.2 hy.2.2.2.2.2
      rcases hv with ⟨rfl, he⟩ | ⟨rfl, he⟩
      · have c19 : Steps p.tables e below (s₁.setTop (entryFrame m #[.ref x, .ref y] 3)) (T18.setTop (mkF m 55 #[.val (.ref x), .val (.ref y), .val (.ref y)] [.int 1])) := Steps.trans g18 (by
          refine XS.ifNo X18.here hexec rfl (hb hbytes d47) rfl (i0_eq_f (by decide)) ?_
          refine iconstV X18.here hexec rfl 1 (hb hbytes d50) (by decide) ?_
          refine XS.goto X18.here hexec rfl (pc0 := 51) rfl (hb hbytes d51) (by decide) rfl ?_
          exact Steps.refl _)
        exact ⟨T18, some (.int 1), _, _, _, X18, rfl, rfl, rfl, (fun h => by cases h), ⟨1, rfl, q18.trans hh16, Or.inl ⟨rfl, iff.mp he⟩⟩, fun fs hl => c19.trans (X18.ireturnOut hexec hret rfl (Or.inr (Or.inl rfl)) (hb hbytes d55) hl)⟩
      · have c19 : Steps p.tables e below (s₁.setTop (entryFrame m #[.ref x, .ref y] 3)) (T18.setTop (mkF m 55 #[.val (.ref x), .val (.ref y), .val (.ref y)] [.int 0])) := Steps.trans g18 (by
          refine XS.ifYes X18.here hexec rfl (pc0 := 47) rfl (hb hbytes d47) rfl (i0_eq_t rfl) (by decide) rfl ?_
          refine iconstV X18.here hexec rfl 0 (hb hbytes d54) (by decide) ?_
          exact Steps.refl _)
        exact ⟨T18, some (.int 0), _, _, _, X18, rfl, rfl, rfl, (fun h => by cases h), ⟨0, rfl, q18.trans hh16, Or.inr ⟨rfl, fun q => he (iff.mpr q)⟩⟩, fun fs hl => c19.trans (X18.ireturnOut hexec hret rfl (Or.inr (Or.inl rfl)) (hb hbytes d55) hl)⟩
    · have c13 : Steps p.tables e below (s₁.setTop (entryFrame m #[.ref x, .ref y] 3)) (T11.setTop (mkF m 55 #[.val (.ref x), .val (.ref y), .val (.ref y)] [.int 0])) := c12.trans (by
        refine XS.icmpYes X11.here hexec rfl (pc0 := 33) rfl (hb hbytes d33) rfl (ii_ne_t hcd) (by decide) rfl ?_
        refine iconstV X11.here hexec rfl 0 (hb hbytes d54) (by decide) ?_
        exact Steps.refl _)
      exact ⟨T11, some (.int 0), _, _, _, X11, rfl, rfl, rfl, (fun h => by cases h), ⟨0, rfl, hh11, Or.inr ⟨rfl, Cod.dif hx.2.2.2.2.1 hy.2.2.2.2.1 hcd⟩⟩, fun fs hl => c13.trans (X11.ireturnOut hexec hret rfl (Or.inr (Or.inl rfl)) (hb hbytes d55) hl)⟩
theorem pays {l : Launch} {R : Room} {p : Program} {e : Env} {below : List Frame} {s : State} {sargs : Array Value} {len W : Nat} (x t : Addr) (V : Cell) (cd : Int32) (n : Nat) (f : Nat → Int32) (y t' : Addr) (V' : Cell) (cd' : Int32) (k : Nat) (g : Nat → Int32) (z : Int32) (htab : tab.before sargs s = true) (hfr : 2 ≤ R.frames) (hlo : W + 28 ≤ R.locals) :
    Back l R p e below s sargs yN len W (fun A₁ a₁ => A₁.cells + 0 ≤ R.cells ∧ A₁.slots + 0 ≤ R.slots ∧ P x t V cd n f y t' V' cd' k g z a₁ A₁.U) (fun A₁ _ v₁ B₁ => Says01 (SameT n f k g) v₁ A₁.U B₁.U ∧ B₁.locs = A₁.locs ++ [] ∧ B₁.cells = A₁.cells + 0 ∧ B₁.slots = A₁.slots + 0) :=
  (law l x t V cd n f y t' V' cd' k g z).pays htab hfr (by omega)
end SEq
end StrChars
namespace StrChars.Road
open Jvm Sem ClassFile Op Lib Jvm.Stand Jvm.Free Jvm.Free.XT
open Jvm.Lib.Cold (StaticIs)
/-- the words of String.equals(Object) -/
abbrev wordsEq : List Jvm.Cond := [.code SEq.yN SEq.yB 3 (some .boolean), .initialized ST, .classLink ST 10 ST, .fieldLink ST 38 ST "COMPACT_STRINGS" "Z", .fieldLink ST 15 ST "coder" "B", .fieldLink ST 9 ST "value" "[B", .methodLink ST 541 LEq.yN, .static LEq.yN, .code LEq.yN LEq.yB 3 (some .boolean), .initialized "java/lang/StringLatin1"]
theorem tabEq_of {a : Array Value} {s : State} (h : ∀ w ∈ wordsEq, w.before a s = true) : SEq.tab.before a s = true := by
  have hl : LEq.tab.before a s = true := unparts (wk h (.code LEq.yN LEq.yB 3 (some .boolean))) (wks h (.initialized LEq.yN.cls :: LEq.site))
  have q := consq hl h
  exact unparts (wk q (.code SEq.yN SEq.yB 3 (some .boolean))) (wks q (.initialized SEq.yN.cls :: SEq.site))
theorem movedEq {Z s : State} {a0 args : Array Value} (hZ : Z.Warmed39 s.vm) (hw : ∀ d ∈ wordsEq, d.before a0 Z = true) : ∀ d ∈ wordsEq, d.before args s = true := fun d hd => by
  have t : ∀ d ∈ wordsEq, (d.onTables && d.keepsFace) = true := by decide +kernel
  exact RoadKit.mv hZ (hw d hd) (t d hd)
/-- the road's facts of a String, as the laws ask it -/
theorem txt_of {Z U : State} {a0 : Array Value} {kI : Nat} (wi : (Jvm.Cond.instantiable ST kI).before a0 Z = true) (al : Z.vm.Alike U.vm) {x t : Addr} {kb : ClassId} {cs : List Int32} {cd N2 : Int32} {vs : List Value} (E : RoadKit.Exa Z U.heap x ST) (V : RoadKit.Fld Z U.heap x ST "value" "[B" (.ref t)) (C : RoadKit.Fld Z U.heap x ST "coder" "B" (.int cd)) (K : RoadKit.Arv Z U.heap t kb .byte N2 vs (.int 0)) (hc : CodA cs cd N2 vs) (hb : ∀ c ∈ cs, ¬ c < 0 ∧ ¬ (65535 : Int32) < c) (l2 : cs.length ≤ 4000) :
    ∃ A, Txt x t A cd cs.length (fun j => cs.getD j 0) U := by
  obtain ⟨A, K1, K2, K3, K4, K5, K6⟩ := K
  have hcod := hc.cod (by omega) K3 K5
  obtain ⟨D, fV, fC, hB, F1, F2, g1, g2, -, -⟩ := strObj wi al E V C
  exact ⟨A, ⟨_, hB.2.2.1, D, hB.1, rfl, by cases q : D.vm <;> first | rfl | exact absurd q (hB.2.1.2 _)⟩, Has.of hB F1 g1, Has.of hB F2 g2, ⟨K1.1, State.isArrayOf_alike al K1.2.1, K1.2.2, by rcases hcod with ⟨-, q, -⟩ | ⟨-, q, -⟩ <;> omega⟩, hcod, fun j hj => by
    have e : cs.getD j 0 = cs[j] := by simp [List.getD_eq_getElem?_getD, hj]
    show ¬ cs.getD j 0 < 0 ∧ ¬ 65535 < cs.getD j 0
    rw [e]; exact hb _ (List.getElem_mem _)⟩
theorem same_list (cs ds : List Int32) : SameT cs.length (fun j => cs.getD j 0) ds.length (fun j => ds.getD j 0) ↔ cs = ds := by
  constructor
  · rintro ⟨e, q⟩
    refine List.ext_getElem e fun j h1 h2 => ?_
    have := q j h1
    simpa [List.getD_eq_getElem?_getD, h1, h2] using this
  · rintro rfl
    exact ⟨rfl, fun _ _ => rfl⟩
/-- **equals(Object) OF TWO SUCH STRINGS**: 1 just where the chars are the same -/
theorem eqW {p : Program} {l : Launch} {e : Env} {R : Room} {s : State} {args : Array Value} {below : List Frame} {len W : Nat} {Z : State} {a0 : Array Value} {h : Heap} (hZ : Z.Warmed39 s.vm) (hw : ∀ d ∈ wordsEq, d.before a0 Z = true) {kI : Nat} (wi : (Jvm.Cond.instantiable ST kI).before a0 Z = true)
    {x t : Addr} {kb : ClassId} {cs : List Int32} {cd N2 : Int32} {vs : List Value} (E : RoadKit.Exa Z h x ST) (V : RoadKit.Fld Z h x ST "value" "[B" (.ref t)) (C : RoadKit.Fld Z h x ST "coder" "B" (.int cd)) (K : RoadKit.Arv Z h t kb .byte N2 vs (.int 0)) (hc : CodA cs cd N2 vs) (hb : ∀ c ∈ cs, ¬ c < 0 ∧ ¬ (65535 : Int32) < c) (l2 : cs.length ≤ 4000)
    {y t' : Addr} {kb' : ClassId} {ds : List Int32} {cd' N2' : Int32} {vs' : List Value} (E' : RoadKit.Exa Z h y ST) (V' : RoadKit.Fld Z h y ST "value" "[B" (.ref t')) (C' : RoadKit.Fld Z h y ST "coder" "B" (.int cd')) (K' : RoadKit.Arv Z h t' kb' .byte N2' vs' (.int 0)) (hc' : CodA ds cd' N2' vs') (hb' : ∀ c ∈ ds, ¬ c < 0 ∧ ¬ (65535 : Int32) < c) (l2' : ds.length ≤ 4000)
    {z : Int32} (S : RoadKit.Sta Z h ST "COMPACT_STRINGS" "Z" (.int z)) (hz : ¬ z = 0) (hfr : 2 ≤ R.frames) (hlo : W + 28 ≤ R.locals) :
    Back l R p e below s args (⟨"java/lang/String", "equals", "(Ljava/lang/Object;)Z"⟩ : MethodName) len W (fun P a => a = #[.ref x, .ref y] ∧ P.U.heap = h ∧ P.cells + 0 ≤ R.cells ∧ P.slots + 0 ≤ R.slots)
      (fun P _ v B => ∃ L, (((v = some (.int 1) ∧ cs = ds) ∨ (v = some (.int 0) ∧ ¬ cs = ds)) ∧ L = [] ∧ B.U.heap = h) ∧ B.locs = P.locs ++ L ∧ B.cells = P.cells + 0 ∧ B.slots = P.slots + 0) := by
  intro m meth c P g ig mk a X hg hsize hdg hW hn hp'
  obtain ⟨rfl, rfl, r1, r2⟩ := hp'
  have al : Z.vm.Alike P.U.vm := hZ.alike.trans X.warmed.alike
  obtain ⟨A, hx⟩ := txt_of wi al E V C K hc hb l2
  obtain ⟨A', hy⟩ := txt_of wi al E' V' C' K' hc' hb' l2'
  obtain ⟨v, B, X', ⟨⟨w, hv, hh, hq⟩, hl, hk, hs⟩, st⟩ := SEq.pays x t A cd cs.length (fun j => cs.getD j 0) y t' A' cd' ds.length (fun j => ds.getD j 0) z (tabEq_of (movedEq hZ hw)) hfr hlo m meth c P g ig mk _ X hg hsize hdg hW hn ⟨r1, r2, rfl, hx, hy, sta_is al S, hz⟩
  refine ⟨v, B, X', ⟨[], ⟨?_, rfl, hh⟩, hl, hk, hs⟩, st⟩
  rcases hq with ⟨rfl, q⟩ | ⟨rfl, q⟩
  · exact Or.inl ⟨hv, (same_list cs ds).mp q⟩
  · exact Or.inr ⟨hv, fun e => q ((same_list cs ds).mpr e)⟩
end StrChars.Road
end Jvm.Pilot.@@N@@
namespace Jvm.Pilot.@@N@@
open Jvm Jvm.ClassFile Sem Op Lib Jvm.Free Jvm.Stand Jvm.LawKit Jvm.RoadKit Bundle Jvm.Pilot.@@N@@.Jvm.D
theorem own_eqk {args : Array Value} {first s : State} {o : Option Outcome} {idx : List Nat} {t : Term} {k : Int32} (h : (Jvm.Cond.eq t (Term.int k)).value args first o s idx = some true) : t.eval args first o idx s = some (.int k) := by
  obtain ⟨x, y, ex, ey, -, k2⟩ := cmp_v (Or.inl h)
  have e2 : y = .int k := Option.some.inj (ey.symm.trans (Term.int_eval k))
  subst e2
  obtain ⟨z, rfl⟩ := k2
  have := gotT (Cond.eq_ints ex (Term.int_eval k)) h
  rw [ex, this]

theorem own_ch (x : Int32) : ¬ (255 : Int32) < (x &&& (255 : Int32)).toUInt32.toUInt16.toUInt32.toInt32 := by
  rw [i2c_mask]
  have q := c_mask x 255 8 (by decide) (by decide)
  have z : (255 : Int32).toInt = 255 := by decide
  rw [Int32.lt_iff_toInt_lt, z]
  omega
theorem own_ch0 (x : Int32) : ¬ (x &&& (255 : Int32)).toUInt32.toUInt16.toUInt32.toInt32 < (0 : Int32) := by
  rw [i2c_mask]
  have q := c_mask x 255 8 (by decide) (by decide)
  have z : (0 : Int32).toInt = 0 := by decide
  rw [Int32.lt_iff_toInt_lt, z]
  omega
theorem own_nar (x : Int32) : nar .char ((x &&& (255 : Int32)).toUInt32.toUInt16.toUInt32.toInt32) = (x &&& (255 : Int32)) := by
  show ((x &&& (255 : Int32)).toUInt32.toUInt16.toUInt32.toInt32).toUInt32.toUInt16.toUInt32.toInt32 = _
  rw [i2c_mask, i2c_mask]
theorem own_chn (x : Int32) : ¬ (255 : Int32) < nar .char ((x &&& (255 : Int32)).toUInt32.toUInt16.toUInt32.toInt32) := by
  rw [own_nar]
  have q := c_mask x 255 8 (by decide) (by decide)
  have z : (255 : Int32).toInt = 255 := by decide
  rw [Int32.lt_iff_toInt_lt, z]
  omega

abbrev own_EL : List (String × Nat) := [("java/lang/String", 7)]
theorem own_hEL {Z : State} {a0 : Array Value} (hw : ∀ d ∈ tables_1, d.before a0 Z = true) : EW Z a0 own_EL := (EW.cons (wd hw 24 rfl) (by decide) EW.nil)
theorem own_wS {Z : State} {a0 : Array Value} (hw : ∀ d ∈ tables_1, d.before a0 Z = true) : ∀ a ∈ Bundle.stringAtoms, a.before a0 Z = true := fun a ha => by
  simp only [Bundle.stringAtoms, Bundle.sN, List.mem_cons, List.not_mem_nil, or_false] at ha
  rcases ha with rfl | rfl | rfl | rfl | rfl | rfl | rfl
  · exact (wd hw 12 rfl)
  · exact (wd hw 11 rfl)
  · exact (wd hw 25 rfl)
  · exact (wd hw 26 rfl)
  · exact (wd hw 27 rfl)
  · exact (wd hw 28 rfl)
  · exact (wd hw 29 rfl)
def own_vs (cs : List Int32) : List Value := cs.map fun c => Value.int (StrChars.lo8 c)
def own_z (cs : List Int32) : Int32 := Int32.ofNat cs.length
def own_ok (cs : List Int32) : Prop := (∀ c ∈ cs, ¬ c < 0 ∧ ¬ (255 : Int32) < c) ∧ cs.length ≤ 4000
theorem own_cod {cs : List Int32} (h : own_ok cs) : StrChars.Road.CodA cs 0 (own_z cs) (own_vs cs) := Or.inl ⟨rfl, rfl, rfl, fun c hc => (h.1 c hc).2⟩
theorem own_up {cs : List Int32} (h : own_ok cs) : ∀ c ∈ cs, ¬ c < 0 ∧ ¬ (65535 : Int32) < c := fun c hc => by
  obtain ⟨h1, h2⟩ := h.1 c hc
  refine ⟨h1, ?_⟩
  have z1 : (255 : Int32).toInt = 255 := by decide
  have z2 : (65535 : Int32).toInt = 65535 := by decide
  rw [Int32.lt_iff_toInt_lt] at h2 ⊢
  omega
theorem own_lo (x : Int32) : nar .byte (x.toInt8.toInt32) = StrChars.lo8 x := by
  show x.toInt8.toInt32.toInt8.toInt32 = x.toInt8.toInt32
  simp
theorem own_ok_of {cs : List Int32} (h1 : ∀ c ∈ cs, ∃ x : Int32, c = x &&& (255 : Int32)) (h2 : cs.length ≤ 4000) : own_ok cs := ⟨fun c hc => by
  obtain ⟨x, rfl⟩ := h1 c hc
  have q := c_mask x 255 8 (by decide) (by decide)
  have z1 : (255 : Int32).toInt = 255 := by decide
  have z2 : (0 : Int32).toInt = 0 := by decide
  rw [Int32.lt_iff_toInt_lt, Int32.lt_iff_toInt_lt]
  omega, h2⟩

theorem own_heq {Z : State} {a0 : Array Value} (hw : ∀ d ∈ tables_1, d.before a0 Z = true) : ∀ d ∈ StrChars.Road.wordsEq, d.before a0 Z = true := fun d hd => by
  simp only [StrChars.Road.wordsEq, List.mem_cons, List.not_mem_nil, or_false] at hd
  rcases hd with rfl | rfl | rfl | rfl | rfl | rfl | rfl | rfl | rfl | rfl
  · exact (wd hw 68 rfl)
  · exact (wd hw 12 rfl)
  · exact (wd hw 69 rfl)
  · exact (wd hw 35 rfl)
  · exact (wd hw 31 rfl)
  · exact (wd hw 30 rfl)
  · exact (wd hw 70 rfl)
  · exact (wd hw 71 rfl)
  · exact (wd hw 73 rfl)
  · exact (wd hw 72 rfl)
theorem own_notsub {Z : State} {a0 : Array Value} {C S K : String} {n : Nat} (w : (Jvm.Cond.superclass C S).before a0 Z = true) (wo : (Jvm.Cond.noSuperclass S).before a0 Z = true) (wi : (Jvm.Cond.instantiable K n).before a0 Z = true) (h1 : C ≠ K) (h2 : S ≠ K) : ∃ c t, Z.vm.findClass C = some c ∧ Z.vm.findClass K = some t ∧ Z.vm.assignable c t = false := by
  obtain ⟨t, kt, g0, g2, g5, g7, -, -⟩ := Cond.instantiable_spec (show (Jvm.Cond.instantiable K n).holds a0 Z none Z [] = true from wi)
  obtain ⟨c, h0⟩ := found_sup w
  obtain ⟨p, k, kp, a1, a2, a3, a4, a5, -, a7⟩ := Cond.superclass_spec h0 (show (Jvm.Cond.superclass C S).holds a0 Z none Z [] = true from w)
  obtain ⟨o, ko, b1, b2, b3, -, -⟩ := Cond.noSuperclass_spec (show (Jvm.Cond.noSuperclass S).holds a0 Z none Z [] = true from wo)
  have hpo : p = o := Option.some.inj (a1.symm.trans b1)
  subst hpo
  have ne1 := ids_ne h0 g0 h1
  have ne2 := ids_ne b1 g0 h2
  have gi : kt.isInterface = false := (Bool.or_eq_false_iff.mp g7).1
  have q0 : ∀ fuel, Z.vm.isSubclassAux fuel p t = false := fun fuel => by
    cases fuel with
    | zero => rfl
    | succ f => simp [Vm.isSubclassAux, ne2, b2, b3]
  have q1 : ∀ fuel, Z.vm.isSubclassAux fuel c t = false := fun fuel => by
    cases fuel with
    | zero => rfl
    | succ f => simp [Vm.isSubclassAux, ne1, a2, a4, q0]
  refine ⟨c, t, h0, g0, ?_⟩
  show Z.vm.assignableAux (255 + 1) c t = false
  simp [Vm.assignableAux, ne1, a2, g2, a5, g5, gi, Vm.isSubclass, q1]

def own_c (p k : Int32) : Int32 := (p.toUInt32 >>> (k &&& 31).toUInt32).toInt32 &&& (255 : Int32)
def own_chars (p : Int32) : List Int32 := [own_c p 2, own_c p 10, own_c p 18].take (p &&& (3 : Int32)).toNatClampNeg
theorem own_chars_ok (p : Int32) : own_ok (own_chars p) := own_ok_of (fun c hc => by
    have := List.mem_of_mem_take hc
    simp only [List.mem_cons, List.not_mem_nil, or_false] at this
    rcases this with rfl | rfl | rfl <;> exact ⟨_, rfl⟩) (by
    have := List.length_take_le (p &&& (3 : Int32)).toNatClampNeg [own_c p 2, own_c p 10, own_c p 18]
    have h2 : (own_chars p).length ≤ 3 := Nat.le_trans (by rw [own_chars, List.length_take]; exact Nat.min_le_right _ _) (Nat.le_refl 3)
    omega)
theorem own_cn (p k : Int32) : nar .char (own_c p k) = own_c p k := i2c_mask _
theorem own_cb (p k : Int32) : nar .byte ((nar .char (own_c p k)).toInt8.toInt32) = StrChars.lo8 (own_c p k) := by rw [own_cn, own_lo]
theorem own_and3 {x v : Int32} (h : v = (x &&& (3 : Int32))) : v = 0 ∨ v = 1 ∨ v = 2 ∨ v = 3 := by
  have q := c_mask x 3 2 (by decide) (by decide)
  rw [← h] at q
  have h0 : (0 : Int32).toInt = 0 := by decide
  have h1 : (1 : Int32).toInt = 1 := by decide
  have h2 : (2 : Int32).toInt = 2 := by decide
  have h3 : (3 : Int32).toInt = 3 := by decide
  simp only [← Int32.toInt_inj, h0, h1, h2, h3]
  omega
theorem own_chz {p v : Int32} (h : v = (p &&& (3 : Int32))) (n : Nat) (hn : v.toNatClampNeg = n) : own_chars p = [own_c p 2, own_c p 10, own_c p 18].take n := by rw [own_chars, ← h, hn]
theorem own_three {p v : Int32} (h : v = (p &&& (3 : Int32))) (h0 : ¬ v = 0) (h1 : ¬ v = 1) (h2 : ¬ v = 2) : v = 3 := by
  rcases own_and3 h with q | q | q | q
  · exact absurd q h0
  · exact absurd q h1
  · exact absurd q h2
  · exact q
theorem own_same {p q v u : Int32} (hv : v = (p &&& (3 : Int32))) (hu : u = (q &&& (3 : Int32))) : own_chars p = own_chars q ↔ (v = u ∧ (¬ v < 1 → own_c p 2 = own_c q 2) ∧ (¬ v < 2 → own_c p 10 = own_c q 10) ∧ (¬ v < 3 → own_c p 18 = own_c q 18)) := by
  rcases own_and3 hv with e | e | e | e <;> rcases own_and3 hu with f | f | f | f <;> subst e <;> subst f <;> rw [own_chz hv _ rfl, own_chz hu _ rfl] <;> simp +decide [Int32.toNatClampNeg]

theorem ef_rm_cmp5_1 (m : MethodId) (x0 : Addr) (x2 : Addr) : entryFrame m #[(.ref x0), (.int 0), (.ref x2), (.int 0), (.int 1)] 7 = mkF m 0 #[.val (.ref x0), .val (.int 0), .val (.ref x2), .val (.int 0), .val (.int 1), .unset, .unset] [] := by first | (simp [entryFrame, mkF, argsToLocals, Value.category]; done) | rfl
theorem d8_0 : decode jdk_52_method_21_code 0 = .ok (.iconst 0, 1) := by decide +kernel
theorem d8_1 : decode jdk_52_method_21_code 1 = .ok (.istore 5, 2) := by decide +kernel
theorem d8_3 : decode jdk_52_method_21_code 3 = .ok (.iload 5, 2) := by decide +kernel
theorem d8_5 : decode jdk_52_method_21_code 5 = .ok (.iload 4, 2) := by decide +kernel
theorem d8_7 : decode jdk_52_method_21_code 7 = .ok (.if_icmp .ge 37, 3) := by decide +kernel
theorem d8_10 : decode jdk_52_method_21_code 10 = .ok (.aload_n 0, 1) := by decide +kernel
theorem d8_11 : decode jdk_52_method_21_code 11 = .ok (.iload_n 1, 1) := by decide +kernel
theorem d8_12 : decode jdk_52_method_21_code 12 = .ok (.caload, 1) := by decide +kernel
theorem d8_13 : decode jdk_52_method_21_code 13 = .ok (.istore 6, 2) := by decide +kernel
theorem d8_15 : decode jdk_52_method_21_code 15 = .ok (.iload 6, 2) := by decide +kernel
theorem d8_17 : decode jdk_52_method_21_code 17 = .ok (.sipush 255, 3) := by decide +kernel
theorem d8_20 : decode jdk_52_method_21_code 20 = .ok (.if_icmp .le 6, 3) := by decide +kernel
theorem d8_26 : decode jdk_52_method_21_code 26 = .ok (.aload_n 2, 1) := by decide +kernel
theorem d8_27 : decode jdk_52_method_21_code 27 = .ok (.iload_n 3, 1) := by decide +kernel
theorem d8_28 : decode jdk_52_method_21_code 28 = .ok (.iload 6, 2) := by decide +kernel
theorem d8_30 : decode jdk_52_method_21_code 30 = .ok (.i2b, 1) := by decide +kernel
theorem d8_31 : decode jdk_52_method_21_code 31 = .ok (.bastore, 1) := by decide +kernel
theorem d8_32 : decode jdk_52_method_21_code 32 = .ok (.iinc 1 1, 3) := by decide +kernel
theorem d8_35 : decode jdk_52_method_21_code 35 = .ok (.iinc 3 1, 3) := by decide +kernel
theorem d8_38 : decode jdk_52_method_21_code 38 = .ok (.iinc 5 1, 3) := by decide +kernel
theorem d8_41 : decode jdk_52_method_21_code 41 = .ok (.goto (-38), 3) := by decide +kernel
theorem d8_44 : decode jdk_52_method_21_code 44 = .ok (.iload 4, 2) := by decide +kernel
theorem d8_46 : decode jdk_52_method_21_code 46 = .ok (.ireturn, 1) := by decide +kernel
theorem pn_java_lang_StringUTF16 : plainName "java/lang/StringUTF16" = true := by first | (simp [plainName, overriddenIn]; done) | decide +kernel
def Q_rm_cmp5_1 (Z : State) (a1 : Addr) (b1 : Addr) (ka : ClassId) (kb : ClassId) (c0 : Int32) (h0 : Heap) (n0 : Nat) (vv : Option Value) (h : Heap) (L : List Loc) : Prop := vv = some (.int 1) ∧ Fr n0 L ∧ Keep h0 h [b1] ∧ Arv Z h b1 kb .byte (1 : Int32) [(.int (nar .byte (c0.toInt8.toInt32)))] (.int 0)
set_option maxRecDepth 65536 in
set_option maxHeartbeats 40000000 in
theorem rm_cmp5_1 (l : Launch) (Z : State) (a0 : Array Value) (hw : ∀ d ∈ tables_1, d.before a0 Z = true) (ws : List Jvm.Cond) (a1 : Addr) (b1 : Addr) (ka : ClassId) (kb : ClassId) (c0 : Int32) (h0 : Heap) (n0 : Nat) (Z0 : n0 ≤ h0.size) (pr0 : Old Z n0 h0) (pr1 : Arv Z h0 a1 ka .char (1 : Int32) [(.int c0)] (.int 0)) (pr2 : Arv Z h0 b1 kb .byte (1 : Int32) [(.int 0)] (.int 0)) (pr3 : n0 ≤ b1) (pr4 : a1 ≠ b1) (hc0 : ¬ ((255 : Int32) < c0)) :
    Met l Z (⟨"java/lang/StringUTF16", "compress", "([CI[BII)I"⟩ : MethodName) jdk_52_method_21_code 7 (some .int) ws ({ frames := 0, cells := 0, slots := 0, locals := 0 } : Room) #[(.ref a1), (.int 0), (.ref b1), (.int 0), (.int 1)] h0 (Q_rm_cmp5_1 Z a1 b1 ka kb c0 h0 n0) := by
  refine Met.enter (f0 := fun m => mkF m 0 #[.val (.ref a1), .val (.int 0), .val (.ref b1), .val (.int 0), .val (.int 1), .unset, .unset] []) (plainFor_of_name pn_java_lang_StringUTF16) (fun m => ef_rm_cmp5_1 m a1 b1) ?_
  intro p e s m below meth c s₁ hx hby hml hown hnm hret hlk hZ X0 e0
  have hown : s.vm.findClass "java/lang/StringUTF16" = some m.cls := hown
  have hnm : meth.name = "compress" := hnm
  have hml : c.maxLocals = 7 := hml
  have hby : c.code = jdk_52_method_21_code := hby
  have N0 := Fr.nil n0
  refine Go.by (B := (s₁.setTop (mkF m 12 #[.val (.ref a1), .val (.int 0), .val (.ref b1), .val (.int 0), .val (.int 1), .val (.int 0), .unset] [(.int 0), (.ref a1)]))) (fun _ k => XS.iconst X0.here hx rfl (hb hby d8_0) (XS.istore X0.here hx rfl (hb hby d8_1) rfl (l' := #[.val (.ref a1), .val (.int 0), .val (.ref b1), .val (.int 0), .val (.int 1), .val (.int 0), .unset]) rfl (XS.iload X0.here hx rfl (hb hby d8_3) rfl (XS.iload X0.here hx rfl (hb hby d8_5) rfl (XS.icmpNo X0.here hx rfl (hb hby d8_7) rfl (tlt (by decide : (0 : Int32) < (1 : Int32))).2.1 (XS.aloadN X0.here hx rfl (hb hby d8_10) rfl rfl (XS.iloadN X0.here hx rfl (hb hby d8_11) rfl k))))))) ?_
  obtain ⟨cl1, Ar1, q1, S1, N_1, Hs1, G1⟩ := id pr1
  have hin2 : ¬ ((0 : Int32) < 0 ∨ cl1.slots.size ≤ ((0 : Int32)).toNatClampNeg) := inb_of S1 ⟨by decide, by decide⟩
  have hat2 : cl1.slots[((0 : Int32)).toNatClampNeg]? = some (.int c0) := Hs1.at hin2 rfl
  refine Go.by (B := (s₁.setTop (mkF m 13 #[.val (.ref a1), .val (.int 0), .val (.ref b1), .val (.int 0), .val (.int 1), .val (.int 0), .unset] [(.int c0)]))) (fun _ k => X0.caload hx (j := (0 : Int32)) (v := (.int c0)) (by rw [e0]; exact Ar1.1) (State.isArrayOf_alike hZ.alike Ar1.2.1) Ar1.2.2 hin2 hat2 (g := (mkF m 12 #[.val (.ref a1), .val (.int 0), .val (.ref b1), .val (.int 0), .val (.int 1), .val (.int 0), .unset] [(.int 0), (.ref a1)])) rfl rfl (hb hby d8_12) _ k) ?_
  refine Go.by (B := (s₁.setTop (mkF m 31 #[.val (.ref a1), .val (.int 0), .val (.ref b1), .val (.int 0), .val (.int 1), .val (.int 0), .val (.int c0)] [(.int (c0.toInt8.toInt32)), (.int 0), (.ref b1)]))) (fun _ k => XS.istore X0.here hx rfl (hb hby d8_13) rfl (l' := #[.val (.ref a1), .val (.int 0), .val (.ref b1), .val (.int 0), .val (.int 1), .val (.int 0), .val (.int c0)]) rfl (XS.iload X0.here hx rfl (hb hby d8_15) rfl (XS.sipush X0.here hx rfl (hb hby d8_17) (XS.icmpYes X0.here hx rfl (pc0 := 20) (pc' := 26) rfl (hb hby d8_20) rfl (flt hc0).2.2.2 (by decide) (by decide) (XS.aloadN X0.here hx rfl (hb hby d8_26) rfl rfl (XS.iloadN X0.here hx rfl (hb hby d8_27) rfl (XS.iload X0.here hx rfl (hb hby d8_28) rfl (XS.i2b X0.here hx rfl (hb hby d8_30) rfl k)))))))) ?_
  obtain ⟨cl3, Ar3, q3, S3, N_3, Hs3, G3⟩ := id pr2
  have hin4 : ¬ ((0 : Int32) < 0 ∨ cl3.slots.size ≤ ((0 : Int32)).toNatClampNeg) := inb_of S3 ⟨by decide, by decide⟩
  obtain ⟨T4, h4, X4, e4, W4, st4⟩ := stB X0 hx hZ e0 Ar3 (j := (0 : Int32)) hin4 (g := (mkF m 31 #[.val (.ref a1), .val (.int 0), .val (.ref b1), .val (.int 0), .val (.int 1), .val (.int 0), .val (.int c0)] [(.int (c0.toInt8.toInt32)), (.int 0), (.ref b1)])) rfl rfl (hb hby d8_31)
  have O5 := pr0.wr W4 pr3
  have Z5 : n0 ≤ h4.size := Nat.le_trans Z0 (Keep.of_wr W4).1
  have V4 : Arv Z h4 b1 kb .byte (1 : Int32) [(.int (nar .byte (c0.toInt8.toInt32)))] (.int 0) := Arv.set Ar3 q3 S3 N_3 Hs3 G3 (fits_nar_byte _) W4 0 rfl (Nat.le_of_ble_eq_true rfl)
  have N4 := Fr.snoc X4 N0 pr3
  refine Go.by (B := (T4.setTop (mkF m 32 #[.val (.ref a1), .val (.int 0), .val (.ref b1), .val (.int 0), .val (.int 1), .val (.int 0), .val (.int c0)] []))) st4 ?_
  refine Go.by (B := (T4.setTop (mkF m 46 #[.val (.ref a1), .val (.int 1), .val (.ref b1), .val (.int 1), .val (.int 1), .val (.int 1), .val (.int c0)] [(.int 1)]))) (fun _ k => XS.iinc X4.here hx rfl (hb hby d8_32) rfl (l' := #[.val (.ref a1), .val (.int 1), .val (.ref b1), .val (.int 0), .val (.int 1), .val (.int 0), .val (.int c0)]) rfl (XS.iinc X4.here hx rfl (hb hby d8_35) rfl (l' := #[.val (.ref a1), .val (.int 1), .val (.ref b1), .val (.int 1), .val (.int 1), .val (.int 0), .val (.int c0)]) rfl (XS.iinc X4.here hx rfl (hb hby d8_38) rfl (l' := #[.val (.ref a1), .val (.int 1), .val (.ref b1), .val (.int 1), .val (.int 1), .val (.int 1), .val (.int c0)]) rfl (XS.goto X4.here hx rfl (pc0 := 41) (pc' := 3) rfl (hb hby d8_41) (by decide) (by decide) (XS.iload X4.here hx rfl (hb hby d8_3) rfl (XS.iload X4.here hx rfl (hb hby d8_5) rfl (XS.icmpYes X4.here hx rfl (pc0 := 7) (pc' := 44) rfl (hb hby d8_7) rfl (flt (by decide : ¬ ((1 : Int32) < (1 : Int32)))).2.1 (by decide) (by decide) (XS.iload X4.here hx rfl (hb hby d8_44) rfl k)))))))) ?_
  refine Go.ret X4 hx hlk (t := .int) hret rfl (Or.inl ⟨rfl, by simp, _, rfl⟩) (hb hby d8_46) (by decide) (by decide) ?_
  rw [e4]
  exact ⟨rfl, N4, ((Keep.refl h0 [b1]).wr W4 (Or.inl (List.mem_of_getElem? (i := 0) rfl))), V4⟩
theorem ef_rm_cmp3_1 (m : MethodId) (x0 : Addr) : entryFrame m #[(.ref x0), (.int 0), (.int 1)] 6 = mkF m 0 #[.val (.ref x0), .val (.int 0), .val (.int 1), .unset, .unset, .unset] [] := by first | (simp [entryFrame, mkF, argsToLocals, Value.category]; done) | rfl
theorem d7_0 : decode jdk_52_method_16_code 0 = .ok (.iload_n 2, 1) := by decide +kernel
theorem d7_1 : decode jdk_52_method_16_code 1 = .ok (.newarray .byte, 2) := by decide +kernel
theorem d7_3 : decode jdk_52_method_16_code 3 = .ok (.astore_n 3, 1) := by decide +kernel
theorem d7_4 : decode jdk_52_method_16_code 4 = .ok (.aload_n 0, 1) := by decide +kernel
theorem d7_5 : decode jdk_52_method_16_code 5 = .ok (.iload_n 1, 1) := by decide +kernel
theorem d7_6 : decode jdk_52_method_16_code 6 = .ok (.aload_n 3, 1) := by decide +kernel
theorem d7_7 : decode jdk_52_method_16_code 7 = .ok (.iconst 0, 1) := by decide +kernel
theorem d7_8 : decode jdk_52_method_16_code 8 = .ok (.iload_n 2, 1) := by decide +kernel
theorem d7_9 : decode jdk_52_method_16_code 9 = .ok (.invokestatic 115, 3) := by decide +kernel
theorem pd_0 : parseMethodDescriptor "([CI[BII)I" = some ⟨[(.array .char), .int, (.array .byte), .int, .int], some .int⟩ := by decide +kernel
theorem d7_12 : decode jdk_52_method_16_code 12 = .ok (.istore 4, 2) := by decide +kernel
theorem d7_14 : decode jdk_52_method_16_code 14 = .ok (.iload 4, 2) := by decide +kernel
theorem d7_16 : decode jdk_52_method_16_code 16 = .ok (.iload_n 2, 1) := by decide +kernel
theorem d7_17 : decode jdk_52_method_16_code 17 = .ok (.if_icmp .eq 40, 3) := by decide +kernel
theorem d7_57 : decode jdk_52_method_16_code 57 = .ok (.aload_n 3, 1) := by decide +kernel
theorem d7_58 : decode jdk_52_method_16_code 58 = .ok (.areturn, 1) := by decide +kernel
def Q_rm_cmp3_1 (Z : State) (a1 : Addr) (ka : ClassId) (c0 : Int32) (h0 : Heap) (n0 : Nat) (vv : Option Value) (h : Heap) (L : List Loc) : Prop := ∃ b : Addr, ∃ k : ClassId, vv = some (.ref b) ∧ Fr n0 L ∧ Keep h0 h [] ∧ Arv Z h b k .byte (1 : Int32) [(.int (nar .byte (c0.toInt8.toInt32)))] (.int 0) ∧ h0.size ≤ b
set_option maxRecDepth 65536 in
set_option maxHeartbeats 40000000 in
theorem rm_cmp3_1 (l : Launch) (Z : State) (a0 : Array Value) (hw : ∀ d ∈ tables_1, d.before a0 Z = true) (ws : List Jvm.Cond) (a1 : Addr) (ka : ClassId) (c0 : Int32) (h0 : Heap) (n0 : Nat) (Z0 : n0 ≤ h0.size) (pr0 : Old Z n0 h0) (pr1 : Arv Z h0 a1 ka .char (1 : Int32) [(.int c0)] (.int 0)) (hc0 : ¬ ((255 : Int32) < c0)) :
    Met l Z (⟨"java/lang/StringUTF16", "compress", "([CII)[B"⟩ : MethodName) jdk_52_method_16_code 6 (some (.array .byte)) ws ({ frames := 1, cells := 1, slots := 1, locals := 18 } : Room) #[(.ref a1), (.int 0), (.int 1)] h0 (Q_rm_cmp3_1 Z a1 ka c0 h0 n0) := by
  refine Met.enter (f0 := fun m => mkF m 0 #[.val (.ref a1), .val (.int 0), .val (.int 1), .unset, .unset, .unset] []) (plainFor_of_name pn_java_lang_StringUTF16) (fun m => ef_rm_cmp3_1 m a1) ?_
  intro p e s m below meth c s₁ hx hby hml hown hnm hret hlk hZ X0 e0
  have hown : s.vm.findClass "java/lang/StringUTF16" = some m.cls := hown
  have hnm : meth.name = "compress" := hnm
  have hml : c.maxLocals = 6 := hml
  have hby : c.code = jdk_52_method_16_code := hby
  have N0 := Fr.nil n0
  refine Go.by (B := (s₁.setTop (mkF m 1 #[.val (.ref a1), .val (.int 0), .val (.int 1), .unset, .unset, .unset] [(.int 1)]))) (fun _ k => XS.iloadN X0.here hx rfl (hb hby d7_0) rfl k) ?_
  obtain ⟨T6, h6, k6, X6, e6, E6, A6, st6⟩ := newP X0 hx hZ (wd hw 25 rfl) e0 (g := (mkF m 1 #[.val (.ref a1), .val (.int 0), .val (.int 1), .unset, .unset, .unset] [(.int 1)])) rfl (hb hby d7_1) rfl (by decide) (cap := 1) (by decide) (by decide) (by decide) (by decide)
  obtain ⟨b6, g6⟩ : ∃ z, z = h0.size := ⟨_, rfl⟩
  rw [← g6] at A6 st6
  have sz_b6 : h0.size ≤ b6 := Nat.le_of_eq g6.symm
  have V6 : Arv Z h6 b6 k6 .byte (1 : Int32) [(.int 0)] (.int 0) := (Arv.new A6 (by decide)).pad (pad_rep [] (.int 0) 1)
  have O7 := pr0.ext E6
  have Z7 : n0 ≤ h6.size := Nat.le_trans Z0 E6.1
  refine Go.by (B := (T6.setTop (mkF m 3 #[.val (.ref a1), .val (.int 0), .val (.int 1), .unset, .unset, .unset] [(.ref b6)]))) st6 ?_
  refine Go.by (B := (T6.setTop (mkF m 9 #[.val (.ref a1), .val (.int 0), .val (.int 1), .val (.ref b6), .unset, .unset] [(.int 1), (.int 0), (.ref b6), (.int 0), (.ref a1)]))) (fun _ k => XS.astoreN X6.here hx rfl (hb hby d7_3) rfl rfl (l' := #[.val (.ref a1), .val (.int 0), .val (.int 1), .val (.ref b6), .unset, .unset]) rfl (XS.aloadN X6.here hx rfl (hb hby d7_4) rfl rfl (XS.iloadN X6.here hx rfl (hb hby d7_5) rfl (XS.aloadN X6.here hx rfl (hb hby d7_6) rfl rfl (XS.iconst X6.here hx rfl (hb hby d7_7) (XS.iloadN X6.here hx rfl (hb hby d7_8) rfl k)))))) ?_
  obtain ⟨_, _, ⟨T8, L8, k8, n8⟩, -, X8, ⟨Lc8, hQ8, l8, y8, z8⟩, st8⟩ := Jvm.LawKit.callS X6 hx (y := (⟨"java/lang/StringUTF16", "compress", "([CI[BII)I"⟩ : MethodName)) hown (mvT hZ (wd hw 40 rfl)) (mvT hZ (wd hw 41 rfl)) (mvT hZ (wd hw 38 rfl)) (mvT hZ (wd hw 42 rfl)) (by decide) (backOf (W := 0) (rm_cmp5_1 l Z a0 hw [] a1 b6 ka k6 c0 h6 n0 Z7 O7 (pr1.ext E6) V6 (Nat.le_trans Z0 sz_b6) (Nat.ne_of_lt (Nat.lt_of_lt_of_le pr1.lt sz_b6)) hc0) hZ (wd hw 42 rfl) (wd hw 38 rfl) (by decide) (by decide)) (g := (mkF m 9 #[.val (.ref a1), .val (.int 0), .val (.int 1), .val (.ref b6), .unset, .unset] [(.int 1), (.int 0), (.ref b6), (.int 0), (.ref a1)])) rfl (by rw [hml]; rfl) (argsL := [(.ref a1), (.int 0), (.ref b6), (.int 0), (.int 1)]) (rest := []) (lenOf pd_0 rfl) rfl (by show 2 * 0 + _ ≤ _; exact Nat.le_of_eq rfl) (hb hby d7_9) (fun _ _ => ⟨rfl, e6, Nat.le_of_ble_eq_true rfl, Nat.le_of_ble_eq_true rfl⟩)
  dsimp only [Pt.U, Pt.locs, Pt.cells, Pt.slots] at X8 l8 y8 z8 st8 hQ8
  subst l8 y8 z8
  obtain ⟨rfl, Nq8, K8, p8_0⟩ := hQ8
  have N8 := Fr.app N0 Nq8
  have O9 := O7.keep K8 (allS (Nat.le_trans Z0 sz_b6) all0)
  have Z9 : n0 ≤ T8.heap.size := Nat.le_trans Z7 K8.1
  refine Go.by (B := (T8.setTop (mkF m 12 #[.val (.ref a1), .val (.int 0), .val (.int 1), .val (.ref b6), .unset, .unset] [(.int 1)]))) (fun _ k => st8 _ k) ?_
  refine Go.by (B := (T8.setTop (mkF m 58 #[.val (.ref a1), .val (.int 0), .val (.int 1), .val (.ref b6), .val (.int 1), .unset] [(.ref b6)]))) (fun _ k => XS.istore X8.here hx rfl (hb hby d7_12) rfl (l' := #[.val (.ref a1), .val (.int 0), .val (.int 1), .val (.ref b6), .val (.int 1), .unset]) rfl (XS.iload X8.here hx rfl (hb hby d7_14) rfl (XS.iloadN X8.here hx rfl (hb hby d7_16) rfl (XS.icmpYes X8.here hx rfl (pc0 := 17) (pc' := 57) rfl (hb hby d7_17) rfl (teq (by decide : (1 : Int32) = (1 : Int32))).1 (by decide) (by decide) (XS.aloadN X8.here hx rfl (hb hby d7_57) rfl rfl k))))) ?_
  refine Go.ret X8 hx hlk (t := (.array .byte)) hret rfl (Or.inr (Or.inr (Or.inr (Or.inr ⟨rfl, rfl, rfl⟩)))) (hb hby d7_58) (by decide) (by decide) ?_
  exact ⟨b6, k6, rfl, N8, (((Keep.refl h0 []).ext E6).trans K8 (allS (Or.inr (Nat.le_trans (Nat.le_refl _) sz_b6)) all0)), p8_0, (Nat.le_trans (Nat.le_refl _) sz_b6)⟩
theorem ef_rm_cfal_1 (m : MethodId) (x0 : Addr) : entryFrame m #[(.ref x0), (.int 1)] 2 = mkF m 0 #[.val (.ref x0), .val (.int 1)] [] := by first | (simp [entryFrame, mkF, argsToLocals, Value.category]; done) | rfl
theorem d9_0 : decode jdk_52_method_15_code 0 = .ok (.iload_n 1, 1) := by decide +kernel
theorem d9_1 : decode jdk_52_method_15_code 1 = .ok (.aload_n 0, 1) := by decide +kernel
theorem d9_2 : decode jdk_52_method_15_code 2 = .ok (.arraylength, 1) := by decide +kernel
theorem d9_3 : decode jdk_52_method_15_code 3 = .ok (.isub, 1) := by decide +kernel
theorem d9_4 : decode jdk_52_method_15_code 4 = .ok (.bipush 31, 2) := by decide +kernel
theorem d9_6 : decode jdk_52_method_15_code 6 = .ok (.iushr, 1) := by decide +kernel
theorem d9_7 : decode jdk_52_method_15_code 7 = .ok (.i2b, 1) := by decide +kernel
theorem d9_8 : decode jdk_52_method_15_code 8 = .ok (.ireturn, 1) := by decide +kernel
def Q_rm_cfal_1 (Z : State) (b1 : Addr) (kb : ClassId) (c0 : Int32) (h0 : Heap) (n0 : Nat) (vv : Option Value) (h : Heap) (L : List Loc) : Prop := vv = some (.int 0) ∧ Fr n0 L ∧ h = h0
set_option maxRecDepth 65536 in
set_option maxHeartbeats 40000000 in
theorem rm_cfal_1 (l : Launch) (Z : State) (a0 : Array Value) (hw : ∀ d ∈ tables_1, d.before a0 Z = true) (ws : List Jvm.Cond) (b1 : Addr) (kb : ClassId) (c0 : Int32) (h0 : Heap) (n0 : Nat) (Z0 : n0 ≤ h0.size) (pr0 : Arv Z h0 b1 kb .byte (1 : Int32) [(.int (nar .byte (c0.toInt8.toInt32)))] (.int 0)) :
    Met l Z (⟨"java/lang/StringUTF16", "coderFromArrayLen", "([BI)B"⟩ : MethodName) jdk_52_method_15_code 2 (some .byte) ws ({ frames := 0, cells := 0, slots := 0, locals := 0 } : Room) #[(.ref b1), (.int 1)] h0 (Q_rm_cfal_1 Z b1 kb c0 h0 n0) := by
  refine Met.enter (f0 := fun m => mkF m 0 #[.val (.ref b1), .val (.int 1)] []) (plainFor_of_name pn_java_lang_StringUTF16) (fun m => ef_rm_cfal_1 m b1) ?_
  intro p e s m below meth c s₁ hx hby hml hown hnm hret hlk hZ X0 e0
  have hown : s.vm.findClass "java/lang/StringUTF16" = some m.cls := hown
  have hnm : meth.name = "coderFromArrayLen" := hnm
  have hml : c.maxLocals = 2 := hml
  have hby : c.code = jdk_52_method_15_code := hby
  have N0 := Fr.nil n0
  refine Go.by (B := (s₁.setTop (mkF m 2 #[.val (.ref b1), .val (.int 1)] [(.ref b1), (.int 1)]))) (fun _ k => XS.iloadN X0.here hx rfl (hb hby d9_0) rfl (XS.aloadN X0.here hx rfl (hb hby d9_1) rfl rfl k)) ?_
  obtain ⟨cl10, Ar10, q10, S10, N_10, Hs10, G10⟩ := id pr0
  refine Go.by (B := (s₁.setTop (mkF m 3 #[.val (.ref b1), .val (.int 1)] [(.int 1), (.int 1)]))) (fun _ k => X0.arraylength hx (by rw [e0]; exact Ar10.1) (State.isArrayOf_alike hZ.alike Ar10.2.1) (g := (mkF m 2 #[.val (.ref b1), .val (.int 1)] [(.ref b1), (.int 1)])) rfl rfl (hb hby d9_2) _ (by rw [len_of S10 N_10]; exact k)) ?_
  refine Go.by (B := (s₁.setTop (mkF m 8 #[.val (.ref b1), .val (.int 1)] [(.int 0)]))) (fun _ k => XS.isub X0.here hx rfl (hb hby d9_3) rfl (XS.bipush X0.here hx rfl (hb hby d9_4) (XS.iushr X0.here hx rfl (hb hby d9_6) rfl (XS.i2b X0.here hx rfl (hb hby d9_7) rfl k)))) ?_
  refine Go.ret X0 hx hlk (t := .byte) hret rfl (Or.inl ⟨rfl, by simp, _, rfl⟩) (hb hby d9_8) (by decide) (by decide) ?_
  rw [e0]
  exact ⟨rfl, N0, rfl⟩
theorem ef_rm_sV_1 (m : MethodId) (x0 : Addr) (x1 : Addr) : entryFrame m #[(.ref x0), (.ref x1), (.int 0), (.int 1), .null] 6 = mkF m 0 #[.val (.ref x0), .val (.ref x1), .val (.int 0), .val (.int 1), .val .null, .unset] [] := by first | (simp [entryFrame, mkF, argsToLocals, Value.category]; done) | rfl
theorem d4_0 : decode jdk_42_method_149_code 0 = .ok (.aload_n 0, 1) := by decide +kernel
theorem d4_1 : decode jdk_42_method_149_code 1 = .ok (.invokespecial 1, 3) := by decide +kernel
theorem d4_4 : decode jdk_42_method_149_code 4 = .ok (.iload_n 3, 1) := by decide +kernel
theorem d4_5 : decode jdk_42_method_149_code 5 = .ok (.ifCond .ne 22, 3) := by decide +kernel
theorem d4_27 : decode jdk_42_method_149_code 27 = .ok (.getstatic 38, 3) := by decide +kernel
theorem d4_30 : decode jdk_42_method_149_code 30 = .ok (.ifCond .eq 28, 3) := by decide +kernel
theorem d4_33 : decode jdk_42_method_149_code 33 = .ok (.aload_n 1, 1) := by decide +kernel
theorem d4_34 : decode jdk_42_method_149_code 34 = .ok (.iload_n 2, 1) := by decide +kernel
theorem d4_35 : decode jdk_42_method_149_code 35 = .ok (.iload_n 3, 1) := by decide +kernel
theorem d4_36 : decode jdk_42_method_149_code 36 = .ok (.invokestatic 177, 3) := by decide +kernel
theorem pd_1 : parseMethodDescriptor "([CII)[B" = some ⟨[(.array .char), .int, .int], some (.array .byte)⟩ := by decide +kernel
theorem d4_39 : decode jdk_42_method_149_code 39 = .ok (.astore 5, 2) := by decide +kernel
theorem d4_41 : decode jdk_42_method_149_code 41 = .ok (.aload_n 0, 1) := by decide +kernel
theorem d4_42 : decode jdk_42_method_149_code 42 = .ok (.aload 5, 2) := by decide +kernel
theorem d4_44 : decode jdk_42_method_149_code 44 = .ok (.iload_n 3, 1) := by decide +kernel
theorem d4_45 : decode jdk_42_method_149_code 45 = .ok (.invokestatic 47, 3) := by decide +kernel
theorem pd_2 : parseMethodDescriptor "([BI)B" = some ⟨[(.array .byte), .int], some .byte⟩ := by decide +kernel
theorem d4_48 : decode jdk_42_method_149_code 48 = .ok (.putfield 15, 3) := by decide +kernel
theorem d4_51 : decode jdk_42_method_149_code 51 = .ok (.aload_n 0, 1) := by decide +kernel
theorem d4_52 : decode jdk_42_method_149_code 52 = .ok (.aload 5, 2) := by decide +kernel
theorem d4_54 : decode jdk_42_method_149_code 54 = .ok (.putfield 9, 3) := by decide +kernel
theorem d4_57 : decode jdk_42_method_149_code 57 = .ok (.return_, 1) := by decide +kernel
theorem pn_java_lang_String : plainName "java/lang/String" = true := by first | (simp [plainName, overriddenIn]; done) | decide +kernel
def Q_rm_sV_1 (Z : State) (a1 : Addr) (v1 : Addr) (ka : ClassId) (c0 : Int32) (cs : Int32) (h0 : Heap) (n0 : Nat) (vv : Option Value) (h : Heap) (L : List Loc) : Prop := ∃ t : Addr, ∃ k : ClassId, vv = none ∧ Fr n0 L ∧ Keep h0 h [a1] ∧ Exa Z h a1 "java/lang/String" ∧ Fld Z h a1 "java/lang/String" "value" "[B" (.ref t) ∧ Fld Z h a1 "java/lang/String" "coder" "B" (.int 0) ∧ Arv Z h t k .byte (1 : Int32) [(.int (nar .byte (c0.toInt8.toInt32)))] (.int 0) ∧ h0.size ≤ t
set_option maxRecDepth 65536 in
set_option maxHeartbeats 40000000 in
theorem rm_sV_1 (l : Launch) (Z : State) (a0 : Array Value) (hw : ∀ d ∈ tables_1, d.before a0 Z = true) (ws : List Jvm.Cond) (a1 : Addr) (v1 : Addr) (ka : ClassId) (c0 : Int32) (cs : Int32) (h0 : Heap) (n0 : Nat) (Z0 : n0 ≤ h0.size) (pr0 : Old Z n0 h0) (pr1 : Sta Z Z.heap "java/lang/String" "COMPACT_STRINGS" "Z" (.int cs)) (hcs : ¬ (cs = (0 : Int32))) (pr3 : Exa Z h0 a1 "java/lang/String") (pr4 : Fld Z h0 a1 "java/lang/String" "value" "[B" .null) (pr5 : Fld Z h0 a1 "java/lang/String" "coder" "B" (.int 0)) (pr6 : n0 ≤ a1) (pr7 : Arv Z h0 v1 ka .char (1 : Int32) [(.int c0)] (.int 0)) (hc0 : ¬ ((255 : Int32) < c0)) :
    Met l Z (⟨"java/lang/String", "<init>", "([CIILjava/lang/Void;)V"⟩ : MethodName) jdk_42_method_149_code 6 none ws ({ frames := 2, cells := 1, slots := 1, locals := 35 } : Room) #[(.ref a1), (.ref v1), (.int 0), (.int 1), .null] h0 (Q_rm_sV_1 Z a1 v1 ka c0 cs h0 n0) := by
  refine Met.enter (f0 := fun m => mkF m 0 #[.val (.ref a1), .val (.ref v1), .val (.int 0), .val (.int 1), .val .null, .unset] []) (plainFor_of_name pn_java_lang_String) (fun m => ef_rm_sV_1 m a1 v1) ?_
  intro p e s m below meth c s₁ hx hby hml hown hnm hret hlk hZ X0 e0
  have hown : s.vm.findClass "java/lang/String" = some m.cls := hown
  have hnm : meth.name = "<init>" := hnm
  have hml : c.maxLocals = 6 := hml
  have hby : c.code = jdk_42_method_149_code := hby
  have N0 := Fr.nil n0
  refine Go.by (B := (s₁.setTop (mkF m 1 #[.val (.ref a1), .val (.ref v1), .val (.int 0), .val (.int 1), .val .null, .unset] [(.ref a1)]))) (fun _ k => XS.aloadN X0.here hx rfl (hb hby d4_0) rfl rfl k) ?_
  obtain ⟨T11, X11, e11, st11⟩ := initO X0 hx hZ hown (wd hw 21 rfl) (wd hw 22 rfl) (wd hw 23 rfl) e0 (g := (mkF m 1 #[.val (.ref a1), .val (.ref v1), .val (.int 0), .val (.int 1), .val .null, .unset] [(.ref a1)])) rfl (by rw [hml]; rfl) rfl (hb hby d4_1) (by decide) (W := 0) (by show 2 * 0 + _ ≤ _; exact Nat.le_of_eq rfl) (by decide)
  refine Go.by (B := (T11.setTop (mkF m 4 #[.val (.ref a1), .val (.ref v1), .val (.int 0), .val (.int 1), .val .null, .unset] []))) st11 ?_
  refine Go.by (B := (T11.setTop (mkF m 27 #[.val (.ref a1), .val (.ref v1), .val (.int 0), .val (.int 1), .val .null, .unset] []))) (fun _ k => XS.iloadN X11.here hx rfl (hb hby d4_4) rfl (XS.ifYes X11.here hx rfl (pc0 := 5) (pc' := 27) rfl (hb hby d4_5) rfl ((if0 _ _).trans (feq (by decide : ¬ ((1 : Int32) = (0 : Int32)))).2) (by decide) (by decide) k)) ?_
  obtain ⟨T12, X12, e12, st12⟩ := getS2 X11 hx hZ hown (host := "") (Or.inl (wd hw 35 rfl)) Via.refl e11 (pr1.ext pr0.2) (g := (mkF m 27 #[.val (.ref a1), .val (.ref v1), .val (.int 0), .val (.int 1), .val .null, .unset] [])) rfl (hb hby d4_27)
  refine Go.by (B := (T12.setTop (mkF m 30 #[.val (.ref a1), .val (.ref v1), .val (.int 0), .val (.int 1), .val .null, .unset] [(.int cs)]))) st12 ?_
  refine Go.by (B := (T12.setTop (mkF m 36 #[.val (.ref a1), .val (.ref v1), .val (.int 0), .val (.int 1), .val .null, .unset] [(.int 1), (.int 0), (.ref v1)]))) (fun _ k => XS.ifNo X12.here hx rfl (hb hby d4_30) rfl ((if0 _ _).trans (feq hcs).1) (XS.aloadN X12.here hx rfl (hb hby d4_33) rfl rfl (XS.iloadN X12.here hx rfl (hb hby d4_34) rfl (XS.iloadN X12.here hx rfl (hb hby d4_35) rfl k)))) ?_
  obtain ⟨_, _, ⟨T13, L13, k13, n13⟩, -, X13, ⟨Lc13, hQ13, l13, y13, z13⟩, st13⟩ := Jvm.LawKit.callS X12 hx (y := (⟨"java/lang/StringUTF16", "compress", "([CII)[B"⟩ : MethodName)) hown (mvT hZ (wd hw 36 rfl)) (mvT hZ (wd hw 37 rfl)) (mvT hZ (wd hw 38 rfl)) (mvT hZ (wd hw 39 rfl)) (by decide) (backOf (W := 0) (rm_cmp3_1 l Z a0 hw [] v1 ka c0 h0 n0 Z0 pr0 pr7 hc0) hZ (wd hw 39 rfl) (wd hw 38 rfl) (by decide) (by decide)) (g := (mkF m 36 #[.val (.ref a1), .val (.ref v1), .val (.int 0), .val (.int 1), .val .null, .unset] [(.int 1), (.int 0), (.ref v1)])) rfl (by rw [hml]; rfl) (argsL := [(.ref v1), (.int 0), (.int 1)]) (rest := []) (lenOf pd_1 rfl) rfl (by show 2 * 0 + _ ≤ _; exact Nat.le_of_eq rfl) (hb hby d4_36) (fun _ _ => ⟨rfl, e12, Nat.le_of_ble_eq_true rfl, Nat.le_of_ble_eq_true rfl⟩)
  dsimp only [Pt.U, Pt.locs, Pt.cells, Pt.slots] at X13 l13 y13 z13 st13 hQ13
  subst l13 y13 z13
  obtain ⟨b13, k13, rfl, Nq13, K13, p13_0, p13_1⟩ := hQ13
  have N13 := Fr.app N0 Nq13
  have O14 := pr0.keep K13 all0
  have Z14 : n0 ≤ T13.heap.size := Nat.le_trans Z0 K13.1
  have sz_b13 : h0.size ≤ b13 := p13_1
  refine Go.by (B := (T13.setTop (mkF m 39 #[.val (.ref a1), .val (.ref v1), .val (.int 0), .val (.int 1), .val .null, .unset] [(.ref b13)]))) (fun _ k => st13 _ k) ?_
  refine Go.by (B := (T13.setTop (mkF m 45 #[.val (.ref a1), .val (.ref v1), .val (.int 0), .val (.int 1), .val .null, .val (.ref b13)] [(.int 1), (.ref b13), (.ref a1)]))) (fun _ k => XS.astore X13.here hx rfl (hb hby d4_39) rfl rfl (l' := #[.val (.ref a1), .val (.ref v1), .val (.int 0), .val (.int 1), .val .null, .val (.ref b13)]) rfl (XS.aloadN X13.here hx rfl (hb hby d4_41) rfl rfl (XS.aload X13.here hx rfl (hb hby d4_42) rfl rfl (XS.iloadN X13.here hx rfl (hb hby d4_44) rfl k)))) ?_
  obtain ⟨_, _, ⟨T15, L15, k15, n15⟩, -, X15, ⟨Lc15, hQ15, l15, y15, z15⟩, st15⟩ := Jvm.LawKit.callS X13 hx (y := (⟨"java/lang/StringUTF16", "coderFromArrayLen", "([BI)B"⟩ : MethodName)) hown (mvT hZ (wd hw 43 rfl)) (mvT hZ (wd hw 44 rfl)) (mvT hZ (wd hw 38 rfl)) (mvT hZ (wd hw 45 rfl)) (by decide) (backOf (W := 1) (rm_cfal_1 l Z a0 hw [] b13 k13 c0 T13.heap n0 Z14 p13_0) hZ (wd hw 45 rfl) (wd hw 38 rfl) (by decide) (by decide)) (g := (mkF m 45 #[.val (.ref a1), .val (.ref v1), .val (.int 0), .val (.int 1), .val .null, .val (.ref b13)] [(.int 1), (.ref b13), (.ref a1)])) rfl (by rw [hml]; rfl) (argsL := [(.ref b13), (.int 1)]) (rest := [(.ref a1)]) (lenOf pd_2 rfl) rfl (by show 2 * 0 + _ ≤ _; exact Nat.le_of_eq rfl) (hb hby d4_45) (fun _ _ => ⟨rfl, rfl, Nat.le_of_ble_eq_true rfl, Nat.le_of_ble_eq_true rfl⟩)
  dsimp only [Pt.U, Pt.locs, Pt.cells, Pt.slots] at X15 l15 y15 z15 st15 hQ15
  subst l15 y15 z15
  obtain ⟨rfl, Nq15, hh15⟩ := hQ15
  have N15 := Fr.app N13 Nq15
  refine Go.by (B := (T15.setTop (mkF m 48 #[.val (.ref a1), .val (.ref v1), .val (.int 0), .val (.int 1), .val .null, .val (.ref b13)] [(.int 0), (.ref a1)]))) (fun _ k => st15 _ k) ?_
  obtain ⟨T16, h16, X16, e16, W16, st16⟩ := putFN X15 hx hZ hown (wd hw 31 rfl) Via.refl hh15 (pr5.keep K13 nin0) (pr3.keep K13) (Or.inr ⟨(wd hw 27 rfl), rfl, hnm⟩) (wd hw 11 rfl) (ty := .byte) (v' := (.int 0)) (by decide) rfl rfl (g := (mkF m 48 #[.val (.ref a1), .val (.ref v1), .val (.int 0), .val (.int 1), .val .null, .val (.ref b13)] [(.int 0), (.ref a1)])) rfl rfl (hb hby d4_48)
  have N16 := Fr.snoc X16 N15 pr6
  have O17 := O14.wr W16 pr6
  have Z17 : n0 ≤ h16.size := Nat.le_trans Z14 (Keep.of_wr W16).1
  have F16 := (pr5.keep K13 nin0).same W16
  refine Go.by (B := (T16.setTop (mkF m 51 #[.val (.ref a1), .val (.ref v1), .val (.int 0), .val (.int 1), .val .null, .val (.ref b13)] []))) st16 ?_
  refine Go.by (B := (T16.setTop (mkF m 54 #[.val (.ref a1), .val (.ref v1), .val (.int 0), .val (.int 1), .val .null, .val (.ref b13)] [(.ref b13), (.ref a1)]))) (fun _ k => XS.aloadN X16.here hx rfl (hb hby d4_51) rfl rfl (XS.aload X16.here hx rfl (hb hby d4_52) rfl rfl k)) ?_
  have f18 := ((pr4.keep K13 nin0).other W16 (Or.inr (slot_ne (Or.inr (wd hw 26 rfl)) (Or.inr (wd hw 27 rfl)) (by decide) (t := (.array .byte)) (t' := .byte) (by decide) (by decide))))
  obtain ⟨T19, h19, X19, e19, W19, st19⟩ := putF X16 hx hZ hown (host := "") (Or.inl (wd hw 30 rfl)) Via.refl e16 f18 ((pr3.keep K13).wr W16) (Or.inr ⟨(wd hw 26 rfl), rfl, hnm⟩) (wd hw 11 rfl) (ty := (.array .byte)) (by decide) rfl rfl (g := (mkF m 54 #[.val (.ref a1), .val (.ref v1), .val (.int 0), .val (.int 1), .val .null, .val (.ref b13)] [(.ref b13), (.ref a1)])) rfl rfl (hb hby d4_54)
  have N19 := Fr.snoc X19 N16 pr6
  have O20 := O17.wr W19 pr6
  have Z20 : n0 ≤ h19.size := Nat.le_trans Z17 (Keep.of_wr W19).1
  have F19 := f18.same W19
  refine Go.by (B := (T19.setTop (mkF m 57 #[.val (.ref a1), .val (.ref v1), .val (.int 0), .val (.int 1), .val .null, .val (.ref b13)] []))) st19 ?_
  refine Go.retV X19 hx hlk hret (hb hby d4_57) (by decide) (by decide) ?_
  rw [e19]
  exact ⟨b13, k13, rfl, N19, ((((Keep.refl h0 [a1]).trans K13 all0).wr W16 (Or.inl (List.mem_of_getElem? (i := 0) rfl))).wr W19 (Or.inl (List.mem_of_getElem? (i := 0) rfl))), (((pr3.keep K13).wr W16).wr W19), F19, (F16.other W19 (Or.inr (slot_ne (Or.inr (wd hw 27 rfl)) (Or.inr (wd hw 26 rfl)) (by decide) (t := .byte) (t' := (.array .byte)) (by decide) (by decide)))), ((p13_0.other W16 (Ne.symm (Nat.ne_of_lt (Nat.lt_of_lt_of_le pr3.lt sz_b13)))).other W19 (Ne.symm (Nat.ne_of_lt (Nat.lt_of_lt_of_le pr3.lt sz_b13)))), (Nat.le_trans (Nat.le_refl _) sz_b13)⟩
theorem ef_rm_sC_1 (m : MethodId) (x0 : Addr) (x1 : Addr) : entryFrame m #[(.ref x0), (.ref x1)] 2 = mkF m 0 #[.val (.ref x0), .val (.ref x1)] [] := by first | (simp [entryFrame, mkF, argsToLocals, Value.category]; done) | rfl
theorem d3_0 : decode jdk_42_method_3_code 0 = .ok (.aload_n 0, 1) := by decide +kernel
theorem d3_1 : decode jdk_42_method_3_code 1 = .ok (.aload_n 1, 1) := by decide +kernel
theorem d3_2 : decode jdk_42_method_3_code 2 = .ok (.iconst 0, 1) := by decide +kernel
theorem d3_3 : decode jdk_42_method_3_code 3 = .ok (.aload_n 1, 1) := by decide +kernel
theorem d3_4 : decode jdk_42_method_3_code 4 = .ok (.arraylength, 1) := by decide +kernel
theorem d3_5 : decode jdk_42_method_3_code 5 = .ok (.aconst_null, 1) := by decide +kernel
theorem d3_6 : decode jdk_42_method_3_code 6 = .ok (.invokespecial 27, 3) := by decide +kernel
theorem pd_3 : parseMethodDescriptor "([CIILjava/lang/Void;)V" = some ⟨[(.array .char), .int, .int, (.object "java/lang/Void")], none⟩ := by decide +kernel
theorem d3_9 : decode jdk_42_method_3_code 9 = .ok (.return_, 1) := by decide +kernel
def Q_rm_sC_1 (Z : State) (a1 : Addr) (v1 : Addr) (ka : ClassId) (c0 : Int32) (cs : Int32) (h0 : Heap) (n0 : Nat) (vv : Option Value) (h : Heap) (L : List Loc) : Prop := ∃ t : Addr, ∃ k : ClassId, vv = none ∧ Fr n0 L ∧ Keep h0 h [a1] ∧ Exa Z h a1 "java/lang/String" ∧ Fld Z h a1 "java/lang/String" "value" "[B" (.ref t) ∧ Fld Z h a1 "java/lang/String" "coder" "B" (.int 0) ∧ Arv Z h t k .byte (1 : Int32) [(.int (nar .byte (c0.toInt8.toInt32)))] (.int 0) ∧ h0.size ≤ t
set_option maxRecDepth 65536 in
set_option maxHeartbeats 40000000 in
theorem rm_sC_1 (l : Launch) (Z : State) (a0 : Array Value) (hw : ∀ d ∈ tables_1, d.before a0 Z = true) (ws : List Jvm.Cond) (a1 : Addr) (v1 : Addr) (ka : ClassId) (c0 : Int32) (cs : Int32) (h0 : Heap) (n0 : Nat) (Z0 : n0 ≤ h0.size) (pr0 : Old Z n0 h0) (pr1 : Sta Z Z.heap "java/lang/String" "COMPACT_STRINGS" "Z" (.int cs)) (hcs : ¬ (cs = (0 : Int32))) (pr3 : Exa Z h0 a1 "java/lang/String") (pr4 : Fld Z h0 a1 "java/lang/String" "value" "[B" .null) (pr5 : Fld Z h0 a1 "java/lang/String" "coder" "B" (.int 0)) (pr6 : n0 ≤ a1) (pr7 : Arv Z h0 v1 ka .char (1 : Int32) [(.int c0)] (.int 0)) (hc0 : ¬ ((255 : Int32) < c0)) :
    Met l Z (⟨"java/lang/String", "<init>", "([C)V"⟩ : MethodName) jdk_42_method_3_code 2 none ws ({ frames := 3, cells := 1, slots := 1, locals := 52 } : Room) #[(.ref a1), (.ref v1)] h0 (Q_rm_sC_1 Z a1 v1 ka c0 cs h0 n0) := by
  refine Met.enter (f0 := fun m => mkF m 0 #[.val (.ref a1), .val (.ref v1)] []) (plainFor_of_name pn_java_lang_String) (fun m => ef_rm_sC_1 m a1 v1) ?_
  intro p e s m below meth c s₁ hx hby hml hown hnm hret hlk hZ X0 e0
  have hown : s.vm.findClass "java/lang/String" = some m.cls := hown
  have hnm : meth.name = "<init>" := hnm
  have hml : c.maxLocals = 2 := hml
  have hby : c.code = jdk_42_method_3_code := hby
  have N0 := Fr.nil n0
  refine Go.by (B := (s₁.setTop (mkF m 4 #[.val (.ref a1), .val (.ref v1)] [(.ref v1), (.int 0), (.ref v1), (.ref a1)]))) (fun _ k => XS.aloadN X0.here hx rfl (hb hby d3_0) rfl rfl (XS.aloadN X0.here hx rfl (hb hby d3_1) rfl rfl (XS.iconst X0.here hx rfl (hb hby d3_2) (XS.aloadN X0.here hx rfl (hb hby d3_3) rfl rfl k)))) ?_
  obtain ⟨cl21, Ar21, q21, S21, N_21, Hs21, G21⟩ := id pr7
  refine Go.by (B := (s₁.setTop (mkF m 5 #[.val (.ref a1), .val (.ref v1)] [(.int 1), (.int 0), (.ref v1), (.ref a1)]))) (fun _ k => X0.arraylength hx (by rw [e0]; exact Ar21.1) (State.isArrayOf_alike hZ.alike Ar21.2.1) (g := (mkF m 4 #[.val (.ref a1), .val (.ref v1)] [(.ref v1), (.int 0), (.ref v1), (.ref a1)])) rfl rfl (hb hby d3_4) _ (by rw [len_of S21 N_21]; exact k)) ?_
  refine Go.by (B := (s₁.setTop (mkF m 6 #[.val (.ref a1), .val (.ref v1)] [.null, (.int 1), (.int 0), (.ref v1), (.ref a1)]))) (fun _ k => XS.aconstNull X0.here hx rfl (hb hby d3_5) k) ?_
  obtain ⟨_, _, ⟨T22, L22, k22, n22⟩, -, X22, ⟨Lc22, hQ22, l22, y22, z22⟩, st22⟩ := X0.specialBack hx (y := (⟨"java/lang/String", "<init>", "([CIILjava/lang/Void;)V"⟩ : MethodName)) rfl hown (mvT hZ (wd hw 17 rfl)) (mvT hZ (wd hw 18 rfl)) (mvT hZ (wd hw 20 rfl)) (by decide) (backOf (W := 0) (rm_sV_1 l Z a0 hw [] a1 v1 ka c0 cs h0 n0 Z0 pr0 pr1 hcs pr3 pr4 pr5 pr6 pr7 hc0) hZ (wd hw 20 rfl) (wd hw 12 rfl) (by decide) (by decide)) (g := (mkF m 6 #[.val (.ref a1), .val (.ref v1)] [.null, (.int 1), (.int 0), (.ref v1), (.ref a1)])) rfl (by rw [hml]; rfl) (Steps.refl _) (a := a1) (argsL := [(.ref v1), (.int 0), (.int 1), .null]) (rest := []) (lenOf pd_3 rfl) rfl (by show 2 * 0 + _ ≤ _; exact Nat.le_of_eq rfl) (hb hby d3_6) (fun _ _ => ⟨rfl, e0, Nat.le_of_ble_eq_true rfl, Nat.le_of_ble_eq_true rfl⟩)
  dsimp only [Pt.U, Pt.locs, Pt.cells, Pt.slots] at X22 l22 y22 z22 st22 hQ22
  subst l22 y22 z22
  obtain ⟨t22, k22, rfl, Nq22, K22, p22_0, p22_1, p22_2, p22_3, p22_4⟩ := hQ22
  have N22 := Fr.app N0 Nq22
  have O23 := pr0.keep K22 (allS pr6 all0)
  have Z23 : n0 ≤ T22.heap.size := Nat.le_trans Z0 K22.1
  have sz_t22 : h0.size ≤ t22 := p22_4
  refine Go.by (B := (T22.setTop (mkF m 9 #[.val (.ref a1), .val (.ref v1)] []))) (fun _ k => st22.trans k) ?_
  refine Go.retV X22 hx hlk hret (hb hby d3_9) (by decide) (by decide) ?_
  exact ⟨t22, k22, rfl, N22, ((Keep.refl h0 [a1]).trans K22 (allS (Or.inl (List.mem_of_getElem? (i := 0) rfl)) all0)), p22_0, p22_1, p22_2, p22_3, (Nat.le_trans (Nat.le_refl _) sz_t22)⟩
theorem ef_rm_cmp5_2 (m : MethodId) (x0 : Addr) (x2 : Addr) : entryFrame m #[(.ref x0), (.int 0), (.ref x2), (.int 0), (.int 2)] 7 = mkF m 0 #[.val (.ref x0), .val (.int 0), .val (.ref x2), .val (.int 0), .val (.int 2), .unset, .unset] [] := by first | (simp [entryFrame, mkF, argsToLocals, Value.category]; done) | rfl
def Q_rm_cmp5_2 (Z : State) (a1 : Addr) (b1 : Addr) (ka : ClassId) (kb : ClassId) (c0 : Int32) (c1 : Int32) (h0 : Heap) (n0 : Nat) (vv : Option Value) (h : Heap) (L : List Loc) : Prop := vv = some (.int 2) ∧ Fr n0 L ∧ Keep h0 h [b1] ∧ Arv Z h b1 kb .byte (2 : Int32) [(.int (nar .byte (c0.toInt8.toInt32))), (.int (nar .byte (c1.toInt8.toInt32)))] (.int 0)
set_option maxRecDepth 65536 in
set_option maxHeartbeats 40000000 in
theorem rm_cmp5_2 (l : Launch) (Z : State) (a0 : Array Value) (hw : ∀ d ∈ tables_1, d.before a0 Z = true) (ws : List Jvm.Cond) (a1 : Addr) (b1 : Addr) (ka : ClassId) (kb : ClassId) (c0 : Int32) (c1 : Int32) (h0 : Heap) (n0 : Nat) (Z0 : n0 ≤ h0.size) (pr0 : Old Z n0 h0) (pr1 : Arv Z h0 a1 ka .char (2 : Int32) [(.int c0), (.int c1)] (.int 0)) (pr2 : Arv Z h0 b1 kb .byte (2 : Int32) [(.int 0), (.int 0)] (.int 0)) (pr3 : n0 ≤ b1) (pr4 : a1 ≠ b1) (hc0 : ¬ ((255 : Int32) < c0)) (hc1 : ¬ ((255 : Int32) < c1)) :
    Met l Z (⟨"java/lang/StringUTF16", "compress", "([CI[BII)I"⟩ : MethodName) jdk_52_method_21_code 7 (some .int) ws ({ frames := 0, cells := 0, slots := 0, locals := 0 } : Room) #[(.ref a1), (.int 0), (.ref b1), (.int 0), (.int 2)] h0 (Q_rm_cmp5_2 Z a1 b1 ka kb c0 c1 h0 n0) := by
  refine Met.enter (f0 := fun m => mkF m 0 #[.val (.ref a1), .val (.int 0), .val (.ref b1), .val (.int 0), .val (.int 2), .unset, .unset] []) (plainFor_of_name pn_java_lang_StringUTF16) (fun m => ef_rm_cmp5_2 m a1 b1) ?_
  intro p e s m below meth c s₁ hx hby hml hown hnm hret hlk hZ X0 e0
  have hown : s.vm.findClass "java/lang/StringUTF16" = some m.cls := hown
  have hnm : meth.name = "compress" := hnm
  have hml : c.maxLocals = 7 := hml
  have hby : c.code = jdk_52_method_21_code := hby
  have N0 := Fr.nil n0
  refine Go.by (B := (s₁.setTop (mkF m 12 #[.val (.ref a1), .val (.int 0), .val (.ref b1), .val (.int 0), .val (.int 2), .val (.int 0), .unset] [(.int 0), (.ref a1)]))) (fun _ k => XS.iconst X0.here hx rfl (hb hby d8_0) (XS.istore X0.here hx rfl (hb hby d8_1) rfl (l' := #[.val (.ref a1), .val (.int 0), .val (.ref b1), .val (.int 0), .val (.int 2), .val (.int 0), .unset]) rfl (XS.iload X0.here hx rfl (hb hby d8_3) rfl (XS.iload X0.here hx rfl (hb hby d8_5) rfl (XS.icmpNo X0.here hx rfl (hb hby d8_7) rfl (tlt (by decide : (0 : Int32) < (2 : Int32))).2.1 (XS.aloadN X0.here hx rfl (hb hby d8_10) rfl rfl (XS.iloadN X0.here hx rfl (hb hby d8_11) rfl k))))))) ?_
  obtain ⟨cl24, Ar24, q24, S24, N_24, Hs24, G24⟩ := id pr1
  have hin25 : ¬ ((0 : Int32) < 0 ∨ cl24.slots.size ≤ ((0 : Int32)).toNatClampNeg) := inb_of S24 ⟨by decide, by decide⟩
  have hat25 : cl24.slots[((0 : Int32)).toNatClampNeg]? = some (.int c0) := Hs24.at hin25 rfl
  refine Go.by (B := (s₁.setTop (mkF m 13 #[.val (.ref a1), .val (.int 0), .val (.ref b1), .val (.int 0), .val (.int 2), .val (.int 0), .unset] [(.int c0)]))) (fun _ k => X0.caload hx (j := (0 : Int32)) (v := (.int c0)) (by rw [e0]; exact Ar24.1) (State.isArrayOf_alike hZ.alike Ar24.2.1) Ar24.2.2 hin25 hat25 (g := (mkF m 12 #[.val (.ref a1), .val (.int 0), .val (.ref b1), .val (.int 0), .val (.int 2), .val (.int 0), .unset] [(.int 0), (.ref a1)])) rfl rfl (hb hby d8_12) _ k) ?_
  refine Go.by (B := (s₁.setTop (mkF m 31 #[.val (.ref a1), .val (.int 0), .val (.ref b1), .val (.int 0), .val (.int 2), .val (.int 0), .val (.int c0)] [(.int (c0.toInt8.toInt32)), (.int 0), (.ref b1)]))) (fun _ k => XS.istore X0.here hx rfl (hb hby d8_13) rfl (l' := #[.val (.ref a1), .val (.int 0), .val (.ref b1), .val (.int 0), .val (.int 2), .val (.int 0), .val (.int c0)]) rfl (XS.iload X0.here hx rfl (hb hby d8_15) rfl (XS.sipush X0.here hx rfl (hb hby d8_17) (XS.icmpYes X0.here hx rfl (pc0 := 20) (pc' := 26) rfl (hb hby d8_20) rfl (flt hc0).2.2.2 (by decide) (by decide) (XS.aloadN X0.here hx rfl (hb hby d8_26) rfl rfl (XS.iloadN X0.here hx rfl (hb hby d8_27) rfl (XS.iload X0.here hx rfl (hb hby d8_28) rfl (XS.i2b X0.here hx rfl (hb hby d8_30) rfl k)))))))) ?_
  obtain ⟨cl26, Ar26, q26, S26, N_26, Hs26, G26⟩ := id pr2
  have hin27 : ¬ ((0 : Int32) < 0 ∨ cl26.slots.size ≤ ((0 : Int32)).toNatClampNeg) := inb_of S26 ⟨by decide, by decide⟩
  obtain ⟨T27, h27, X27, e27, W27, st27⟩ := stB X0 hx hZ e0 Ar26 (j := (0 : Int32)) hin27 (g := (mkF m 31 #[.val (.ref a1), .val (.int 0), .val (.ref b1), .val (.int 0), .val (.int 2), .val (.int 0), .val (.int c0)] [(.int (c0.toInt8.toInt32)), (.int 0), (.ref b1)])) rfl rfl (hb hby d8_31)
  have O28 := pr0.wr W27 pr3
  have Z28 : n0 ≤ h27.size := Nat.le_trans Z0 (Keep.of_wr W27).1
  have V27 : Arv Z h27 b1 kb .byte (2 : Int32) [(.int (nar .byte (c0.toInt8.toInt32))), (.int 0)] (.int 0) := Arv.set Ar26 q26 S26 N_26 Hs26 G26 (fits_nar_byte _) W27 0 rfl (Nat.le_of_ble_eq_true rfl)
  have N27 := Fr.snoc X27 N0 pr3
  refine Go.by (B := (T27.setTop (mkF m 32 #[.val (.ref a1), .val (.int 0), .val (.ref b1), .val (.int 0), .val (.int 2), .val (.int 0), .val (.int c0)] []))) st27 ?_
  refine Go.by (B := (T27.setTop (mkF m 11 #[.val (.ref a1), .val (.int 1), .val (.ref b1), .val (.int 1), .val (.int 2), .val (.int 1), .val (.int c0)] [(.ref a1)]))) (fun _ k => XS.iinc X27.here hx rfl (hb hby d8_32) rfl (l' := #[.val (.ref a1), .val (.int 1), .val (.ref b1), .val (.int 0), .val (.int 2), .val (.int 0), .val (.int c0)]) rfl (XS.iinc X27.here hx rfl (hb hby d8_35) rfl (l' := #[.val (.ref a1), .val (.int 1), .val (.ref b1), .val (.int 1), .val (.int 2), .val (.int 0), .val (.int c0)]) rfl (XS.iinc X27.here hx rfl (hb hby d8_38) rfl (l' := #[.val (.ref a1), .val (.int 1), .val (.ref b1), .val (.int 1), .val (.int 2), .val (.int 1), .val (.int c0)]) rfl (XS.goto X27.here hx rfl (pc0 := 41) (pc' := 3) rfl (hb hby d8_41) (by decide) (by decide) (XS.iload X27.here hx rfl (hb hby d8_3) rfl (XS.iload X27.here hx rfl (hb hby d8_5) rfl (XS.icmpNo X27.here hx rfl (hb hby d8_7) rfl (tlt (by decide : (1 : Int32) < (2 : Int32))).2.1 (XS.aloadN X27.here hx rfl (hb hby d8_10) rfl rfl k)))))))) ?_
  refine Go.by (B := (T27.setTop (mkF m 12 #[.val (.ref a1), .val (.int 1), .val (.ref b1), .val (.int 1), .val (.int 2), .val (.int 1), .val (.int c0)] [(.int 1), (.ref a1)]))) (fun _ k => XS.iloadN X27.here hx rfl (hb hby d8_11) rfl k) ?_
  obtain ⟨cl29, Ar29, q29, S29, N_29, Hs29, G29⟩ := id (pr1.other W27 pr4)
  have hin30 : ¬ ((1 : Int32) < 0 ∨ cl29.slots.size ≤ ((1 : Int32)).toNatClampNeg) := inb_of S29 ⟨by decide, by decide⟩
  have hat30 : cl29.slots[((1 : Int32)).toNatClampNeg]? = some (.int c1) := Hs29.at hin30 rfl
  refine Go.by (B := (T27.setTop (mkF m 13 #[.val (.ref a1), .val (.int 1), .val (.ref b1), .val (.int 1), .val (.int 2), .val (.int 1), .val (.int c0)] [(.int c1)]))) (fun _ k => X27.caload hx (j := (1 : Int32)) (v := (.int c1)) (by rw [e27]; exact Ar29.1) (State.isArrayOf_alike hZ.alike Ar29.2.1) Ar29.2.2 hin30 hat30 (g := (mkF m 12 #[.val (.ref a1), .val (.int 1), .val (.ref b1), .val (.int 1), .val (.int 2), .val (.int 1), .val (.int c0)] [(.int 1), (.ref a1)])) rfl rfl (hb hby d8_12) _ k) ?_
  refine Go.by (B := (T27.setTop (mkF m 31 #[.val (.ref a1), .val (.int 1), .val (.ref b1), .val (.int 1), .val (.int 2), .val (.int 1), .val (.int c1)] [(.int (c1.toInt8.toInt32)), (.int 1), (.ref b1)]))) (fun _ k => XS.istore X27.here hx rfl (hb hby d8_13) rfl (l' := #[.val (.ref a1), .val (.int 1), .val (.ref b1), .val (.int 1), .val (.int 2), .val (.int 1), .val (.int c1)]) rfl (XS.iload X27.here hx rfl (hb hby d8_15) rfl (XS.sipush X27.here hx rfl (hb hby d8_17) (XS.icmpYes X27.here hx rfl (pc0 := 20) (pc' := 26) rfl (hb hby d8_20) rfl (flt hc1).2.2.2 (by decide) (by decide) (XS.aloadN X27.here hx rfl (hb hby d8_26) rfl rfl (XS.iloadN X27.here hx rfl (hb hby d8_27) rfl (XS.iload X27.here hx rfl (hb hby d8_28) rfl (XS.i2b X27.here hx rfl (hb hby d8_30) rfl k)))))))) ?_
  obtain ⟨cl31, Ar31, q31, S31, N_31, Hs31, G31⟩ := id V27
  have hin32 : ¬ ((1 : Int32) < 0 ∨ cl31.slots.size ≤ ((1 : Int32)).toNatClampNeg) := inb_of S31 ⟨by decide, by decide⟩
  obtain ⟨T32, h32, X32, e32, W32, st32⟩ := stB X27 hx hZ e27 Ar31 (j := (1 : Int32)) hin32 (g := (mkF m 31 #[.val (.ref a1), .val (.int 1), .val (.ref b1), .val (.int 1), .val (.int 2), .val (.int 1), .val (.int c1)] [(.int (c1.toInt8.toInt32)), (.int 1), (.ref b1)])) rfl rfl (hb hby d8_31)
  have O33 := O28.wr W32 pr3
  have Z33 : n0 ≤ h32.size := Nat.le_trans Z28 (Keep.of_wr W32).1
  have V32 : Arv Z h32 b1 kb .byte (2 : Int32) [(.int (nar .byte (c0.toInt8.toInt32))), (.int (nar .byte (c1.toInt8.toInt32)))] (.int 0) := Arv.set Ar31 q31 S31 N_31 Hs31 G31 (fits_nar_byte _) W32 1 rfl (Nat.le_of_ble_eq_true rfl)
  have N32 := Fr.snoc X32 N27 pr3
  refine Go.by (B := (T32.setTop (mkF m 32 #[.val (.ref a1), .val (.int 1), .val (.ref b1), .val (.int 1), .val (.int 2), .val (.int 1), .val (.int c1)] []))) st32 ?_
  refine Go.by (B := (T32.setTop (mkF m 46 #[.val (.ref a1), .val (.int 2), .val (.ref b1), .val (.int 2), .val (.int 2), .val (.int 2), .val (.int c1)] [(.int 2)]))) (fun _ k => XS.iinc X32.here hx rfl (hb hby d8_32) rfl (l' := #[.val (.ref a1), .val (.int 2), .val (.ref b1), .val (.int 1), .val (.int 2), .val (.int 1), .val (.int c1)]) rfl (XS.iinc X32.here hx rfl (hb hby d8_35) rfl (l' := #[.val (.ref a1), .val (.int 2), .val (.ref b1), .val (.int 2), .val (.int 2), .val (.int 1), .val (.int c1)]) rfl (XS.iinc X32.here hx rfl (hb hby d8_38) rfl (l' := #[.val (.ref a1), .val (.int 2), .val (.ref b1), .val (.int 2), .val (.int 2), .val (.int 2), .val (.int c1)]) rfl (XS.goto X32.here hx rfl (pc0 := 41) (pc' := 3) rfl (hb hby d8_41) (by decide) (by decide) (XS.iload X32.here hx rfl (hb hby d8_3) rfl (XS.iload X32.here hx rfl (hb hby d8_5) rfl (XS.icmpYes X32.here hx rfl (pc0 := 7) (pc' := 44) rfl (hb hby d8_7) rfl (flt (by decide : ¬ ((2 : Int32) < (2 : Int32)))).2.1 (by decide) (by decide) (XS.iload X32.here hx rfl (hb hby d8_44) rfl k)))))))) ?_
  refine Go.ret X32 hx hlk (t := .int) hret rfl (Or.inl ⟨rfl, by simp, _, rfl⟩) (hb hby d8_46) (by decide) (by decide) ?_
  rw [e32]
  exact ⟨rfl, N32, (((Keep.refl h0 [b1]).wr W27 (Or.inl (List.mem_of_getElem? (i := 0) rfl))).wr W32 (Or.inl (List.mem_of_getElem? (i := 0) rfl))), V32⟩
theorem ef_rm_cmp3_2 (m : MethodId) (x0 : Addr) : entryFrame m #[(.ref x0), (.int 0), (.int 2)] 6 = mkF m 0 #[.val (.ref x0), .val (.int 0), .val (.int 2), .unset, .unset, .unset] [] := by first | (simp [entryFrame, mkF, argsToLocals, Value.category]; done) | rfl
def Q_rm_cmp3_2 (Z : State) (a1 : Addr) (ka : ClassId) (c0 : Int32) (c1 : Int32) (h0 : Heap) (n0 : Nat) (vv : Option Value) (h : Heap) (L : List Loc) : Prop := ∃ b : Addr, ∃ k : ClassId, vv = some (.ref b) ∧ Fr n0 L ∧ Keep h0 h [] ∧ Arv Z h b k .byte (2 : Int32) [(.int (nar .byte (c0.toInt8.toInt32))), (.int (nar .byte (c1.toInt8.toInt32)))] (.int 0) ∧ h0.size ≤ b
set_option maxRecDepth 65536 in
set_option maxHeartbeats 40000000 in
theorem rm_cmp3_2 (l : Launch) (Z : State) (a0 : Array Value) (hw : ∀ d ∈ tables_1, d.before a0 Z = true) (ws : List Jvm.Cond) (a1 : Addr) (ka : ClassId) (c0 : Int32) (c1 : Int32) (h0 : Heap) (n0 : Nat) (Z0 : n0 ≤ h0.size) (pr0 : Old Z n0 h0) (pr1 : Arv Z h0 a1 ka .char (2 : Int32) [(.int c0), (.int c1)] (.int 0)) (hc0 : ¬ ((255 : Int32) < c0)) (hc1 : ¬ ((255 : Int32) < c1)) :
    Met l Z (⟨"java/lang/StringUTF16", "compress", "([CII)[B"⟩ : MethodName) jdk_52_method_16_code 6 (some (.array .byte)) ws ({ frames := 1, cells := 1, slots := 2, locals := 18 } : Room) #[(.ref a1), (.int 0), (.int 2)] h0 (Q_rm_cmp3_2 Z a1 ka c0 c1 h0 n0) := by
  refine Met.enter (f0 := fun m => mkF m 0 #[.val (.ref a1), .val (.int 0), .val (.int 2), .unset, .unset, .unset] []) (plainFor_of_name pn_java_lang_StringUTF16) (fun m => ef_rm_cmp3_2 m a1) ?_
  intro p e s m below meth c s₁ hx hby hml hown hnm hret hlk hZ X0 e0
  have hown : s.vm.findClass "java/lang/StringUTF16" = some m.cls := hown
  have hnm : meth.name = "compress" := hnm
  have hml : c.maxLocals = 6 := hml
  have hby : c.code = jdk_52_method_16_code := hby
  have N0 := Fr.nil n0
  refine Go.by (B := (s₁.setTop (mkF m 1 #[.val (.ref a1), .val (.int 0), .val (.int 2), .unset, .unset, .unset] [(.int 2)]))) (fun _ k => XS.iloadN X0.here hx rfl (hb hby d7_0) rfl k) ?_
  obtain ⟨T34, h34, k34, X34, e34, E34, A34, st34⟩ := newP X0 hx hZ (wd hw 25 rfl) e0 (g := (mkF m 1 #[.val (.ref a1), .val (.int 0), .val (.int 2), .unset, .unset, .unset] [(.int 2)])) rfl (hb hby d7_1) rfl (by decide) (cap := 2) (by decide) (by decide) (by decide) (by decide)
  obtain ⟨b34, g34⟩ : ∃ z, z = h0.size := ⟨_, rfl⟩
  rw [← g34] at A34 st34
  have sz_b34 : h0.size ≤ b34 := Nat.le_of_eq g34.symm
  have V34 : Arv Z h34 b34 k34 .byte (2 : Int32) [(.int 0), (.int 0)] (.int 0) := (Arv.new A34 (by decide)).pad (pad_rep [] (.int 0) 2)
  have O35 := pr0.ext E34
  have Z35 : n0 ≤ h34.size := Nat.le_trans Z0 E34.1
  refine Go.by (B := (T34.setTop (mkF m 3 #[.val (.ref a1), .val (.int 0), .val (.int 2), .unset, .unset, .unset] [(.ref b34)]))) st34 ?_
  refine Go.by (B := (T34.setTop (mkF m 9 #[.val (.ref a1), .val (.int 0), .val (.int 2), .val (.ref b34), .unset, .unset] [(.int 2), (.int 0), (.ref b34), (.int 0), (.ref a1)]))) (fun _ k => XS.astoreN X34.here hx rfl (hb hby d7_3) rfl rfl (l' := #[.val (.ref a1), .val (.int 0), .val (.int 2), .val (.ref b34), .unset, .unset]) rfl (XS.aloadN X34.here hx rfl (hb hby d7_4) rfl rfl (XS.iloadN X34.here hx rfl (hb hby d7_5) rfl (XS.aloadN X34.here hx rfl (hb hby d7_6) rfl rfl (XS.iconst X34.here hx rfl (hb hby d7_7) (XS.iloadN X34.here hx rfl (hb hby d7_8) rfl k)))))) ?_
  obtain ⟨_, _, ⟨T36, L36, k36, n36⟩, -, X36, ⟨Lc36, hQ36, l36, y36, z36⟩, st36⟩ := Jvm.LawKit.callS X34 hx (y := (⟨"java/lang/StringUTF16", "compress", "([CI[BII)I"⟩ : MethodName)) hown (mvT hZ (wd hw 40 rfl)) (mvT hZ (wd hw 41 rfl)) (mvT hZ (wd hw 38 rfl)) (mvT hZ (wd hw 42 rfl)) (by decide) (backOf (W := 0) (rm_cmp5_2 l Z a0 hw [] a1 b34 ka k34 c0 c1 h34 n0 Z35 O35 (pr1.ext E34) V34 (Nat.le_trans Z0 sz_b34) (Nat.ne_of_lt (Nat.lt_of_lt_of_le pr1.lt sz_b34)) hc0 hc1) hZ (wd hw 42 rfl) (wd hw 38 rfl) (by decide) (by decide)) (g := (mkF m 9 #[.val (.ref a1), .val (.int 0), .val (.int 2), .val (.ref b34), .unset, .unset] [(.int 2), (.int 0), (.ref b34), (.int 0), (.ref a1)])) rfl (by rw [hml]; rfl) (argsL := [(.ref a1), (.int 0), (.ref b34), (.int 0), (.int 2)]) (rest := []) (lenOf pd_0 rfl) rfl (by show 2 * 0 + _ ≤ _; exact Nat.le_of_eq rfl) (hb hby d7_9) (fun _ _ => ⟨rfl, e34, Nat.le_of_ble_eq_true rfl, Nat.le_of_ble_eq_true rfl⟩)
  dsimp only [Pt.U, Pt.locs, Pt.cells, Pt.slots] at X36 l36 y36 z36 st36 hQ36
  subst l36 y36 z36
  obtain ⟨rfl, Nq36, K36, p36_0⟩ := hQ36
  have N36 := Fr.app N0 Nq36
  have O37 := O35.keep K36 (allS (Nat.le_trans Z0 sz_b34) all0)
  have Z37 : n0 ≤ T36.heap.size := Nat.le_trans Z35 K36.1
  refine Go.by (B := (T36.setTop (mkF m 12 #[.val (.ref a1), .val (.int 0), .val (.int 2), .val (.ref b34), .unset, .unset] [(.int 2)]))) (fun _ k => st36 _ k) ?_
  refine Go.by (B := (T36.setTop (mkF m 58 #[.val (.ref a1), .val (.int 0), .val (.int 2), .val (.ref b34), .val (.int 2), .unset] [(.ref b34)]))) (fun _ k => XS.istore X36.here hx rfl (hb hby d7_12) rfl (l' := #[.val (.ref a1), .val (.int 0), .val (.int 2), .val (.ref b34), .val (.int 2), .unset]) rfl (XS.iload X36.here hx rfl (hb hby d7_14) rfl (XS.iloadN X36.here hx rfl (hb hby d7_16) rfl (XS.icmpYes X36.here hx rfl (pc0 := 17) (pc' := 57) rfl (hb hby d7_17) rfl (teq (by decide : (2 : Int32) = (2 : Int32))).1 (by decide) (by decide) (XS.aloadN X36.here hx rfl (hb hby d7_57) rfl rfl k))))) ?_
  refine Go.ret X36 hx hlk (t := (.array .byte)) hret rfl (Or.inr (Or.inr (Or.inr (Or.inr ⟨rfl, rfl, rfl⟩)))) (hb hby d7_58) (by decide) (by decide) ?_
  exact ⟨b34, k34, rfl, N36, (((Keep.refl h0 []).ext E34).trans K36 (allS (Or.inr (Nat.le_trans (Nat.le_refl _) sz_b34)) all0)), p36_0, (Nat.le_trans (Nat.le_refl _) sz_b34)⟩
theorem ef_rm_cfal_2 (m : MethodId) (x0 : Addr) : entryFrame m #[(.ref x0), (.int 2)] 2 = mkF m 0 #[.val (.ref x0), .val (.int 2)] [] := by first | (simp [entryFrame, mkF, argsToLocals, Value.category]; done) | rfl
def Q_rm_cfal_2 (Z : State) (b1 : Addr) (kb : ClassId) (c0 : Int32) (c1 : Int32) (h0 : Heap) (n0 : Nat) (vv : Option Value) (h : Heap) (L : List Loc) : Prop := vv = some (.int 0) ∧ Fr n0 L ∧ h = h0
set_option maxRecDepth 65536 in
set_option maxHeartbeats 40000000 in
theorem rm_cfal_2 (l : Launch) (Z : State) (a0 : Array Value) (hw : ∀ d ∈ tables_1, d.before a0 Z = true) (ws : List Jvm.Cond) (b1 : Addr) (kb : ClassId) (c0 : Int32) (c1 : Int32) (h0 : Heap) (n0 : Nat) (Z0 : n0 ≤ h0.size) (pr0 : Arv Z h0 b1 kb .byte (2 : Int32) [(.int (nar .byte (c0.toInt8.toInt32))), (.int (nar .byte (c1.toInt8.toInt32)))] (.int 0)) :
    Met l Z (⟨"java/lang/StringUTF16", "coderFromArrayLen", "([BI)B"⟩ : MethodName) jdk_52_method_15_code 2 (some .byte) ws ({ frames := 0, cells := 0, slots := 0, locals := 0 } : Room) #[(.ref b1), (.int 2)] h0 (Q_rm_cfal_2 Z b1 kb c0 c1 h0 n0) := by
  refine Met.enter (f0 := fun m => mkF m 0 #[.val (.ref b1), .val (.int 2)] []) (plainFor_of_name pn_java_lang_StringUTF16) (fun m => ef_rm_cfal_2 m b1) ?_
  intro p e s m below meth c s₁ hx hby hml hown hnm hret hlk hZ X0 e0
  have hown : s.vm.findClass "java/lang/StringUTF16" = some m.cls := hown
  have hnm : meth.name = "coderFromArrayLen" := hnm
  have hml : c.maxLocals = 2 := hml
  have hby : c.code = jdk_52_method_15_code := hby
  have N0 := Fr.nil n0
  refine Go.by (B := (s₁.setTop (mkF m 2 #[.val (.ref b1), .val (.int 2)] [(.ref b1), (.int 2)]))) (fun _ k => XS.iloadN X0.here hx rfl (hb hby d9_0) rfl (XS.aloadN X0.here hx rfl (hb hby d9_1) rfl rfl k)) ?_
  obtain ⟨cl38, Ar38, q38, S38, N_38, Hs38, G38⟩ := id pr0
  refine Go.by (B := (s₁.setTop (mkF m 3 #[.val (.ref b1), .val (.int 2)] [(.int 2), (.int 2)]))) (fun _ k => X0.arraylength hx (by rw [e0]; exact Ar38.1) (State.isArrayOf_alike hZ.alike Ar38.2.1) (g := (mkF m 2 #[.val (.ref b1), .val (.int 2)] [(.ref b1), (.int 2)])) rfl rfl (hb hby d9_2) _ (by rw [len_of S38 N_38]; exact k)) ?_
  refine Go.by (B := (s₁.setTop (mkF m 8 #[.val (.ref b1), .val (.int 2)] [(.int 0)]))) (fun _ k => XS.isub X0.here hx rfl (hb hby d9_3) rfl (XS.bipush X0.here hx rfl (hb hby d9_4) (XS.iushr X0.here hx rfl (hb hby d9_6) rfl (XS.i2b X0.here hx rfl (hb hby d9_7) rfl k)))) ?_
  refine Go.ret X0 hx hlk (t := .byte) hret rfl (Or.inl ⟨rfl, by simp, _, rfl⟩) (hb hby d9_8) (by decide) (by decide) ?_
  rw [e0]
  exact ⟨rfl, N0, rfl⟩
theorem ef_rm_sV_2 (m : MethodId) (x0 : Addr) (x1 : Addr) : entryFrame m #[(.ref x0), (.ref x1), (.int 0), (.int 2), .null] 6 = mkF m 0 #[.val (.ref x0), .val (.ref x1), .val (.int 0), .val (.int 2), .val .null, .unset] [] := by first | (simp [entryFrame, mkF, argsToLocals, Value.category]; done) | rfl
def Q_rm_sV_2 (Z : State) (a1 : Addr) (v1 : Addr) (ka : ClassId) (c0 : Int32) (c1 : Int32) (cs : Int32) (h0 : Heap) (n0 : Nat) (vv : Option Value) (h : Heap) (L : List Loc) : Prop := ∃ t : Addr, ∃ k : ClassId, vv = none ∧ Fr n0 L ∧ Keep h0 h [a1] ∧ Exa Z h a1 "java/lang/String" ∧ Fld Z h a1 "java/lang/String" "value" "[B" (.ref t) ∧ Fld Z h a1 "java/lang/String" "coder" "B" (.int 0) ∧ Arv Z h t k .byte (2 : Int32) [(.int (nar .byte (c0.toInt8.toInt32))), (.int (nar .byte (c1.toInt8.toInt32)))] (.int 0) ∧ h0.size ≤ t
set_option maxRecDepth 65536 in
set_option maxHeartbeats 40000000 in
theorem rm_sV_2 (l : Launch) (Z : State) (a0 : Array Value) (hw : ∀ d ∈ tables_1, d.before a0 Z = true) (ws : List Jvm.Cond) (a1 : Addr) (v1 : Addr) (ka : ClassId) (c0 : Int32) (c1 : Int32) (cs : Int32) (h0 : Heap) (n0 : Nat) (Z0 : n0 ≤ h0.size) (pr0 : Old Z n0 h0) (pr1 : Sta Z Z.heap "java/lang/String" "COMPACT_STRINGS" "Z" (.int cs)) (hcs : ¬ (cs = (0 : Int32))) (pr3 : Exa Z h0 a1 "java/lang/String") (pr4 : Fld Z h0 a1 "java/lang/String" "value" "[B" .null) (pr5 : Fld Z h0 a1 "java/lang/String" "coder" "B" (.int 0)) (pr6 : n0 ≤ a1) (pr7 : Arv Z h0 v1 ka .char (2 : Int32) [(.int c0), (.int c1)] (.int 0)) (hc0 : ¬ ((255 : Int32) < c0)) (hc1 : ¬ ((255 : Int32) < c1)) :
    Met l Z (⟨"java/lang/String", "<init>", "([CIILjava/lang/Void;)V"⟩ : MethodName) jdk_42_method_149_code 6 none ws ({ frames := 2, cells := 1, slots := 2, locals := 35 } : Room) #[(.ref a1), (.ref v1), (.int 0), (.int 2), .null] h0 (Q_rm_sV_2 Z a1 v1 ka c0 c1 cs h0 n0) := by
  refine Met.enter (f0 := fun m => mkF m 0 #[.val (.ref a1), .val (.ref v1), .val (.int 0), .val (.int 2), .val .null, .unset] []) (plainFor_of_name pn_java_lang_String) (fun m => ef_rm_sV_2 m a1 v1) ?_
  intro p e s m below meth c s₁ hx hby hml hown hnm hret hlk hZ X0 e0
  have hown : s.vm.findClass "java/lang/String" = some m.cls := hown
  have hnm : meth.name = "<init>" := hnm
  have hml : c.maxLocals = 6 := hml
  have hby : c.code = jdk_42_method_149_code := hby
  have N0 := Fr.nil n0
  refine Go.by (B := (s₁.setTop (mkF m 1 #[.val (.ref a1), .val (.ref v1), .val (.int 0), .val (.int 2), .val .null, .unset] [(.ref a1)]))) (fun _ k => XS.aloadN X0.here hx rfl (hb hby d4_0) rfl rfl k) ?_
  obtain ⟨T39, X39, e39, st39⟩ := initO X0 hx hZ hown (wd hw 21 rfl) (wd hw 22 rfl) (wd hw 23 rfl) e0 (g := (mkF m 1 #[.val (.ref a1), .val (.ref v1), .val (.int 0), .val (.int 2), .val .null, .unset] [(.ref a1)])) rfl (by rw [hml]; rfl) rfl (hb hby d4_1) (by decide) (W := 0) (by show 2 * 0 + _ ≤ _; exact Nat.le_of_eq rfl) (by decide)
  refine Go.by (B := (T39.setTop (mkF m 4 #[.val (.ref a1), .val (.ref v1), .val (.int 0), .val (.int 2), .val .null, .unset] []))) st39 ?_
  refine Go.by (B := (T39.setTop (mkF m 27 #[.val (.ref a1), .val (.ref v1), .val (.int 0), .val (.int 2), .val .null, .unset] []))) (fun _ k => XS.iloadN X39.here hx rfl (hb hby d4_4) rfl (XS.ifYes X39.here hx rfl (pc0 := 5) (pc' := 27) rfl (hb hby d4_5) rfl ((if0 _ _).trans (feq (by decide : ¬ ((2 : Int32) = (0 : Int32)))).2) (by decide) (by decide) k)) ?_
  obtain ⟨T40, X40, e40, st40⟩ := getS2 X39 hx hZ hown (host := "") (Or.inl (wd hw 35 rfl)) Via.refl e39 (pr1.ext pr0.2) (g := (mkF m 27 #[.val (.ref a1), .val (.ref v1), .val (.int 0), .val (.int 2), .val .null, .unset] [])) rfl (hb hby d4_27)
  refine Go.by (B := (T40.setTop (mkF m 30 #[.val (.ref a1), .val (.ref v1), .val (.int 0), .val (.int 2), .val .null, .unset] [(.int cs)]))) st40 ?_
  refine Go.by (B := (T40.setTop (mkF m 36 #[.val (.ref a1), .val (.ref v1), .val (.int 0), .val (.int 2), .val .null, .unset] [(.int 2), (.int 0), (.ref v1)]))) (fun _ k => XS.ifNo X40.here hx rfl (hb hby d4_30) rfl ((if0 _ _).trans (feq hcs).1) (XS.aloadN X40.here hx rfl (hb hby d4_33) rfl rfl (XS.iloadN X40.here hx rfl (hb hby d4_34) rfl (XS.iloadN X40.here hx rfl (hb hby d4_35) rfl k)))) ?_
  obtain ⟨_, _, ⟨T41, L41, k41, n41⟩, -, X41, ⟨Lc41, hQ41, l41, y41, z41⟩, st41⟩ := Jvm.LawKit.callS X40 hx (y := (⟨"java/lang/StringUTF16", "compress", "([CII)[B"⟩ : MethodName)) hown (mvT hZ (wd hw 36 rfl)) (mvT hZ (wd hw 37 rfl)) (mvT hZ (wd hw 38 rfl)) (mvT hZ (wd hw 39 rfl)) (by decide) (backOf (W := 0) (rm_cmp3_2 l Z a0 hw [] v1 ka c0 c1 h0 n0 Z0 pr0 pr7 hc0 hc1) hZ (wd hw 39 rfl) (wd hw 38 rfl) (by decide) (by decide)) (g := (mkF m 36 #[.val (.ref a1), .val (.ref v1), .val (.int 0), .val (.int 2), .val .null, .unset] [(.int 2), (.int 0), (.ref v1)])) rfl (by rw [hml]; rfl) (argsL := [(.ref v1), (.int 0), (.int 2)]) (rest := []) (lenOf pd_1 rfl) rfl (by show 2 * 0 + _ ≤ _; exact Nat.le_of_eq rfl) (hb hby d4_36) (fun _ _ => ⟨rfl, e40, Nat.le_of_ble_eq_true rfl, Nat.le_of_ble_eq_true rfl⟩)
  dsimp only [Pt.U, Pt.locs, Pt.cells, Pt.slots] at X41 l41 y41 z41 st41 hQ41
  subst l41 y41 z41
  obtain ⟨b41, k41, rfl, Nq41, K41, p41_0, p41_1⟩ := hQ41
  have N41 := Fr.app N0 Nq41
  have O42 := pr0.keep K41 all0
  have Z42 : n0 ≤ T41.heap.size := Nat.le_trans Z0 K41.1
  have sz_b41 : h0.size ≤ b41 := p41_1
  refine Go.by (B := (T41.setTop (mkF m 39 #[.val (.ref a1), .val (.ref v1), .val (.int 0), .val (.int 2), .val .null, .unset] [(.ref b41)]))) (fun _ k => st41 _ k) ?_
  refine Go.by (B := (T41.setTop (mkF m 45 #[.val (.ref a1), .val (.ref v1), .val (.int 0), .val (.int 2), .val .null, .val (.ref b41)] [(.int 2), (.ref b41), (.ref a1)]))) (fun _ k => XS.astore X41.here hx rfl (hb hby d4_39) rfl rfl (l' := #[.val (.ref a1), .val (.ref v1), .val (.int 0), .val (.int 2), .val .null, .val (.ref b41)]) rfl (XS.aloadN X41.here hx rfl (hb hby d4_41) rfl rfl (XS.aload X41.here hx rfl (hb hby d4_42) rfl rfl (XS.iloadN X41.here hx rfl (hb hby d4_44) rfl k)))) ?_
  obtain ⟨_, _, ⟨T43, L43, k43, n43⟩, -, X43, ⟨Lc43, hQ43, l43, y43, z43⟩, st43⟩ := Jvm.LawKit.callS X41 hx (y := (⟨"java/lang/StringUTF16", "coderFromArrayLen", "([BI)B"⟩ : MethodName)) hown (mvT hZ (wd hw 43 rfl)) (mvT hZ (wd hw 44 rfl)) (mvT hZ (wd hw 38 rfl)) (mvT hZ (wd hw 45 rfl)) (by decide) (backOf (W := 1) (rm_cfal_2 l Z a0 hw [] b41 k41 c0 c1 T41.heap n0 Z42 p41_0) hZ (wd hw 45 rfl) (wd hw 38 rfl) (by decide) (by decide)) (g := (mkF m 45 #[.val (.ref a1), .val (.ref v1), .val (.int 0), .val (.int 2), .val .null, .val (.ref b41)] [(.int 2), (.ref b41), (.ref a1)])) rfl (by rw [hml]; rfl) (argsL := [(.ref b41), (.int 2)]) (rest := [(.ref a1)]) (lenOf pd_2 rfl) rfl (by show 2 * 0 + _ ≤ _; exact Nat.le_of_eq rfl) (hb hby d4_45) (fun _ _ => ⟨rfl, rfl, Nat.le_of_ble_eq_true rfl, Nat.le_of_ble_eq_true rfl⟩)
  dsimp only [Pt.U, Pt.locs, Pt.cells, Pt.slots] at X43 l43 y43 z43 st43 hQ43
  subst l43 y43 z43
  obtain ⟨rfl, Nq43, hh43⟩ := hQ43
  have N43 := Fr.app N41 Nq43
  refine Go.by (B := (T43.setTop (mkF m 48 #[.val (.ref a1), .val (.ref v1), .val (.int 0), .val (.int 2), .val .null, .val (.ref b41)] [(.int 0), (.ref a1)]))) (fun _ k => st43 _ k) ?_
  obtain ⟨T44, h44, X44, e44, W44, st44⟩ := putFN X43 hx hZ hown (wd hw 31 rfl) Via.refl hh43 (pr5.keep K41 nin0) (pr3.keep K41) (Or.inr ⟨(wd hw 27 rfl), rfl, hnm⟩) (wd hw 11 rfl) (ty := .byte) (v' := (.int 0)) (by decide) rfl rfl (g := (mkF m 48 #[.val (.ref a1), .val (.ref v1), .val (.int 0), .val (.int 2), .val .null, .val (.ref b41)] [(.int 0), (.ref a1)])) rfl rfl (hb hby d4_48)
  have N44 := Fr.snoc X44 N43 pr6
  have O45 := O42.wr W44 pr6
  have Z45 : n0 ≤ h44.size := Nat.le_trans Z42 (Keep.of_wr W44).1
  have F44 := (pr5.keep K41 nin0).same W44
  refine Go.by (B := (T44.setTop (mkF m 51 #[.val (.ref a1), .val (.ref v1), .val (.int 0), .val (.int 2), .val .null, .val (.ref b41)] []))) st44 ?_
  refine Go.by (B := (T44.setTop (mkF m 54 #[.val (.ref a1), .val (.ref v1), .val (.int 0), .val (.int 2), .val .null, .val (.ref b41)] [(.ref b41), (.ref a1)]))) (fun _ k => XS.aloadN X44.here hx rfl (hb hby d4_51) rfl rfl (XS.aload X44.here hx rfl (hb hby d4_52) rfl rfl k)) ?_
  have f46 := ((pr4.keep K41 nin0).other W44 (Or.inr (slot_ne (Or.inr (wd hw 26 rfl)) (Or.inr (wd hw 27 rfl)) (by decide) (t := (.array .byte)) (t' := .byte) (by decide) (by decide))))
  obtain ⟨T47, h47, X47, e47, W47, st47⟩ := putF X44 hx hZ hown (host := "") (Or.inl (wd hw 30 rfl)) Via.refl e44 f46 ((pr3.keep K41).wr W44) (Or.inr ⟨(wd hw 26 rfl), rfl, hnm⟩) (wd hw 11 rfl) (ty := (.array .byte)) (by decide) rfl rfl (g := (mkF m 54 #[.val (.ref a1), .val (.ref v1), .val (.int 0), .val (.int 2), .val .null, .val (.ref b41)] [(.ref b41), (.ref a1)])) rfl rfl (hb hby d4_54)
  have N47 := Fr.snoc X47 N44 pr6
  have O48 := O45.wr W47 pr6
  have Z48 : n0 ≤ h47.size := Nat.le_trans Z45 (Keep.of_wr W47).1
  have F47 := f46.same W47
  refine Go.by (B := (T47.setTop (mkF m 57 #[.val (.ref a1), .val (.ref v1), .val (.int 0), .val (.int 2), .val .null, .val (.ref b41)] []))) st47 ?_
  refine Go.retV X47 hx hlk hret (hb hby d4_57) (by decide) (by decide) ?_
  rw [e47]
  exact ⟨b41, k41, rfl, N47, ((((Keep.refl h0 [a1]).trans K41 all0).wr W44 (Or.inl (List.mem_of_getElem? (i := 0) rfl))).wr W47 (Or.inl (List.mem_of_getElem? (i := 0) rfl))), (((pr3.keep K41).wr W44).wr W47), F47, (F44.other W47 (Or.inr (slot_ne (Or.inr (wd hw 27 rfl)) (Or.inr (wd hw 26 rfl)) (by decide) (t := .byte) (t' := (.array .byte)) (by decide) (by decide)))), ((p41_0.other W44 (Ne.symm (Nat.ne_of_lt (Nat.lt_of_lt_of_le pr3.lt sz_b41)))).other W47 (Ne.symm (Nat.ne_of_lt (Nat.lt_of_lt_of_le pr3.lt sz_b41)))), (Nat.le_trans (Nat.le_refl _) sz_b41)⟩
theorem ef_rm_sC_2 (m : MethodId) (x0 : Addr) (x1 : Addr) : entryFrame m #[(.ref x0), (.ref x1)] 2 = mkF m 0 #[.val (.ref x0), .val (.ref x1)] [] := by first | (simp [entryFrame, mkF, argsToLocals, Value.category]; done) | rfl
def Q_rm_sC_2 (Z : State) (a1 : Addr) (v1 : Addr) (ka : ClassId) (c0 : Int32) (c1 : Int32) (cs : Int32) (h0 : Heap) (n0 : Nat) (vv : Option Value) (h : Heap) (L : List Loc) : Prop := ∃ t : Addr, ∃ k : ClassId, vv = none ∧ Fr n0 L ∧ Keep h0 h [a1] ∧ Exa Z h a1 "java/lang/String" ∧ Fld Z h a1 "java/lang/String" "value" "[B" (.ref t) ∧ Fld Z h a1 "java/lang/String" "coder" "B" (.int 0) ∧ Arv Z h t k .byte (2 : Int32) [(.int (nar .byte (c0.toInt8.toInt32))), (.int (nar .byte (c1.toInt8.toInt32)))] (.int 0) ∧ h0.size ≤ t
set_option maxRecDepth 65536 in
set_option maxHeartbeats 40000000 in
theorem rm_sC_2 (l : Launch) (Z : State) (a0 : Array Value) (hw : ∀ d ∈ tables_1, d.before a0 Z = true) (ws : List Jvm.Cond) (a1 : Addr) (v1 : Addr) (ka : ClassId) (c0 : Int32) (c1 : Int32) (cs : Int32) (h0 : Heap) (n0 : Nat) (Z0 : n0 ≤ h0.size) (pr0 : Old Z n0 h0) (pr1 : Sta Z Z.heap "java/lang/String" "COMPACT_STRINGS" "Z" (.int cs)) (hcs : ¬ (cs = (0 : Int32))) (pr3 : Exa Z h0 a1 "java/lang/String") (pr4 : Fld Z h0 a1 "java/lang/String" "value" "[B" .null) (pr5 : Fld Z h0 a1 "java/lang/String" "coder" "B" (.int 0)) (pr6 : n0 ≤ a1) (pr7 : Arv Z h0 v1 ka .char (2 : Int32) [(.int c0), (.int c1)] (.int 0)) (hc0 : ¬ ((255 : Int32) < c0)) (hc1 : ¬ ((255 : Int32) < c1)) :
    Met l Z (⟨"java/lang/String", "<init>", "([C)V"⟩ : MethodName) jdk_42_method_3_code 2 none ws ({ frames := 3, cells := 1, slots := 2, locals := 52 } : Room) #[(.ref a1), (.ref v1)] h0 (Q_rm_sC_2 Z a1 v1 ka c0 c1 cs h0 n0) := by
  refine Met.enter (f0 := fun m => mkF m 0 #[.val (.ref a1), .val (.ref v1)] []) (plainFor_of_name pn_java_lang_String) (fun m => ef_rm_sC_2 m a1 v1) ?_
  intro p e s m below meth c s₁ hx hby hml hown hnm hret hlk hZ X0 e0
  have hown : s.vm.findClass "java/lang/String" = some m.cls := hown
  have hnm : meth.name = "<init>" := hnm
  have hml : c.maxLocals = 2 := hml
  have hby : c.code = jdk_42_method_3_code := hby
  have N0 := Fr.nil n0
  refine Go.by (B := (s₁.setTop (mkF m 4 #[.val (.ref a1), .val (.ref v1)] [(.ref v1), (.int 0), (.ref v1), (.ref a1)]))) (fun _ k => XS.aloadN X0.here hx rfl (hb hby d3_0) rfl rfl (XS.aloadN X0.here hx rfl (hb hby d3_1) rfl rfl (XS.iconst X0.here hx rfl (hb hby d3_2) (XS.aloadN X0.here hx rfl (hb hby d3_3) rfl rfl k)))) ?_
  obtain ⟨cl49, Ar49, q49, S49, N_49, Hs49, G49⟩ := id pr7
  refine Go.by (B := (s₁.setTop (mkF m 5 #[.val (.ref a1), .val (.ref v1)] [(.int 2), (.int 0), (.ref v1), (.ref a1)]))) (fun _ k => X0.arraylength hx (by rw [e0]; exact Ar49.1) (State.isArrayOf_alike hZ.alike Ar49.2.1) (g := (mkF m 4 #[.val (.ref a1), .val (.ref v1)] [(.ref v1), (.int 0), (.ref v1), (.ref a1)])) rfl rfl (hb hby d3_4) _ (by rw [len_of S49 N_49]; exact k)) ?_
  refine Go.by (B := (s₁.setTop (mkF m 6 #[.val (.ref a1), .val (.ref v1)] [.null, (.int 2), (.int 0), (.ref v1), (.ref a1)]))) (fun _ k => XS.aconstNull X0.here hx rfl (hb hby d3_5) k) ?_
  obtain ⟨_, _, ⟨T50, L50, k50, n50⟩, -, X50, ⟨Lc50, hQ50, l50, y50, z50⟩, st50⟩ := X0.specialBack hx (y := (⟨"java/lang/String", "<init>", "([CIILjava/lang/Void;)V"⟩ : MethodName)) rfl hown (mvT hZ (wd hw 17 rfl)) (mvT hZ (wd hw 18 rfl)) (mvT hZ (wd hw 20 rfl)) (by decide) (backOf (W := 0) (rm_sV_2 l Z a0 hw [] a1 v1 ka c0 c1 cs h0 n0 Z0 pr0 pr1 hcs pr3 pr4 pr5 pr6 pr7 hc0 hc1) hZ (wd hw 20 rfl) (wd hw 12 rfl) (by decide) (by decide)) (g := (mkF m 6 #[.val (.ref a1), .val (.ref v1)] [.null, (.int 2), (.int 0), (.ref v1), (.ref a1)])) rfl (by rw [hml]; rfl) (Steps.refl _) (a := a1) (argsL := [(.ref v1), (.int 0), (.int 2), .null]) (rest := []) (lenOf pd_3 rfl) rfl (by show 2 * 0 + _ ≤ _; exact Nat.le_of_eq rfl) (hb hby d3_6) (fun _ _ => ⟨rfl, e0, Nat.le_of_ble_eq_true rfl, Nat.le_of_ble_eq_true rfl⟩)
  dsimp only [Pt.U, Pt.locs, Pt.cells, Pt.slots] at X50 l50 y50 z50 st50 hQ50
  subst l50 y50 z50
  obtain ⟨t50, k50, rfl, Nq50, K50, p50_0, p50_1, p50_2, p50_3, p50_4⟩ := hQ50
  have N50 := Fr.app N0 Nq50
  have O51 := pr0.keep K50 (allS pr6 all0)
  have Z51 : n0 ≤ T50.heap.size := Nat.le_trans Z0 K50.1
  have sz_t50 : h0.size ≤ t50 := p50_4
  refine Go.by (B := (T50.setTop (mkF m 9 #[.val (.ref a1), .val (.ref v1)] []))) (fun _ k => st50.trans k) ?_
  refine Go.retV X50 hx hlk hret (hb hby d3_9) (by decide) (by decide) ?_
  exact ⟨t50, k50, rfl, N50, ((Keep.refl h0 [a1]).trans K50 (allS (Or.inl (List.mem_of_getElem? (i := 0) rfl)) all0)), p50_0, p50_1, p50_2, p50_3, (Nat.le_trans (Nat.le_refl _) sz_t50)⟩
theorem ef_rm_cmp5_3 (m : MethodId) (x0 : Addr) (x2 : Addr) : entryFrame m #[(.ref x0), (.int 0), (.ref x2), (.int 0), (.int 3)] 7 = mkF m 0 #[.val (.ref x0), .val (.int 0), .val (.ref x2), .val (.int 0), .val (.int 3), .unset, .unset] [] := by first | (simp [entryFrame, mkF, argsToLocals, Value.category]; done) | rfl
def Q_rm_cmp5_3 (Z : State) (a1 : Addr) (b1 : Addr) (ka : ClassId) (kb : ClassId) (c0 : Int32) (c1 : Int32) (c2 : Int32) (h0 : Heap) (n0 : Nat) (vv : Option Value) (h : Heap) (L : List Loc) : Prop := vv = some (.int 3) ∧ Fr n0 L ∧ Keep h0 h [b1] ∧ Arv Z h b1 kb .byte (3 : Int32) [(.int (nar .byte (c0.toInt8.toInt32))), (.int (nar .byte (c1.toInt8.toInt32))), (.int (nar .byte (c2.toInt8.toInt32)))] (.int 0)
set_option maxRecDepth 65536 in
set_option maxHeartbeats 40000000 in
theorem rm_cmp5_3 (l : Launch) (Z : State) (a0 : Array Value) (hw : ∀ d ∈ tables_1, d.before a0 Z = true) (ws : List Jvm.Cond) (a1 : Addr) (b1 : Addr) (ka : ClassId) (kb : ClassId) (c0 : Int32) (c1 : Int32) (c2 : Int32) (h0 : Heap) (n0 : Nat) (Z0 : n0 ≤ h0.size) (pr0 : Old Z n0 h0) (pr1 : Arv Z h0 a1 ka .char (3 : Int32) [(.int c0), (.int c1), (.int c2)] (.int 0)) (pr2 : Arv Z h0 b1 kb .byte (3 : Int32) [(.int 0), (.int 0), (.int 0)] (.int 0)) (pr3 : n0 ≤ b1) (pr4 : a1 ≠ b1) (hc0 : ¬ ((255 : Int32) < c0)) (hc1 : ¬ ((255 : Int32) < c1)) (hc2 : ¬ ((255 : Int32) < c2)) :
    Met l Z (⟨"java/lang/StringUTF16", "compress", "([CI[BII)I"⟩ : MethodName) jdk_52_method_21_code 7 (some .int) ws ({ frames := 0, cells := 0, slots := 0, locals := 0 } : Room) #[(.ref a1), (.int 0), (.ref b1), (.int 0), (.int 3)] h0 (Q_rm_cmp5_3 Z a1 b1 ka kb c0 c1 c2 h0 n0) := by
  refine Met.enter (f0 := fun m => mkF m 0 #[.val (.ref a1), .val (.int 0), .val (.ref b1), .val (.int 0), .val (.int 3), .unset, .unset] []) (plainFor_of_name pn_java_lang_StringUTF16) (fun m => ef_rm_cmp5_3 m a1 b1) ?_
  intro p e s m below meth c s₁ hx hby hml hown hnm hret hlk hZ X0 e0
  have hown : s.vm.findClass "java/lang/StringUTF16" = some m.cls := hown
  have hnm : meth.name = "compress" := hnm
  have hml : c.maxLocals = 7 := hml
  have hby : c.code = jdk_52_method_21_code := hby
  have N0 := Fr.nil n0
  refine Go.by (B := (s₁.setTop (mkF m 12 #[.val (.ref a1), .val (.int 0), .val (.ref b1), .val (.int 0), .val (.int 3), .val (.int 0), .unset] [(.int 0), (.ref a1)]))) (fun _ k => XS.iconst X0.here hx rfl (hb hby d8_0) (XS.istore X0.here hx rfl (hb hby d8_1) rfl (l' := #[.val (.ref a1), .val (.int 0), .val (.ref b1), .val (.int 0), .val (.int 3), .val (.int 0), .unset]) rfl (XS.iload X0.here hx rfl (hb hby d8_3) rfl (XS.iload X0.here hx rfl (hb hby d8_5) rfl (XS.icmpNo X0.here hx rfl (hb hby d8_7) rfl (tlt (by decide : (0 : Int32) < (3 : Int32))).2.1 (XS.aloadN X0.here hx rfl (hb hby d8_10) rfl rfl (XS.iloadN X0.here hx rfl (hb hby d8_11) rfl k))))))) ?_
  obtain ⟨cl52, Ar52, q52, S52, N_52, Hs52, G52⟩ := id pr1
  have hin53 : ¬ ((0 : Int32) < 0 ∨ cl52.slots.size ≤ ((0 : Int32)).toNatClampNeg) := inb_of S52 ⟨by decide, by decide⟩
  have hat53 : cl52.slots[((0 : Int32)).toNatClampNeg]? = some (.int c0) := Hs52.at hin53 rfl
  refine Go.by (B := (s₁.setTop (mkF m 13 #[.val (.ref a1), .val (.int 0), .val (.ref b1), .val (.int 0), .val (.int 3), .val (.int 0), .unset] [(.int c0)]))) (fun _ k => X0.caload hx (j := (0 : Int32)) (v := (.int c0)) (by rw [e0]; exact Ar52.1) (State.isArrayOf_alike hZ.alike Ar52.2.1) Ar52.2.2 hin53 hat53 (g := (mkF m 12 #[.val (.ref a1), .val (.int 0), .val (.ref b1), .val (.int 0), .val (.int 3), .val (.int 0), .unset] [(.int 0), (.ref a1)])) rfl rfl (hb hby d8_12) _ k) ?_
  refine Go.by (B := (s₁.setTop (mkF m 31 #[.val (.ref a1), .val (.int 0), .val (.ref b1), .val (.int 0), .val (.int 3), .val (.int 0), .val (.int c0)] [(.int (c0.toInt8.toInt32)), (.int 0), (.ref b1)]))) (fun _ k => XS.istore X0.here hx rfl (hb hby d8_13) rfl (l' := #[.val (.ref a1), .val (.int 0), .val (.ref b1), .val (.int 0), .val (.int 3), .val (.int 0), .val (.int c0)]) rfl (XS.iload X0.here hx rfl (hb hby d8_15) rfl (XS.sipush X0.here hx rfl (hb hby d8_17) (XS.icmpYes X0.here hx rfl (pc0 := 20) (pc' := 26) rfl (hb hby d8_20) rfl (flt hc0).2.2.2 (by decide) (by decide) (XS.aloadN X0.here hx rfl (hb hby d8_26) rfl rfl (XS.iloadN X0.here hx rfl (hb hby d8_27) rfl (XS.iload X0.here hx rfl (hb hby d8_28) rfl (XS.i2b X0.here hx rfl (hb hby d8_30) rfl k)))))))) ?_
  obtain ⟨cl54, Ar54, q54, S54, N_54, Hs54, G54⟩ := id pr2
  have hin55 : ¬ ((0 : Int32) < 0 ∨ cl54.slots.size ≤ ((0 : Int32)).toNatClampNeg) := inb_of S54 ⟨by decide, by decide⟩
  obtain ⟨T55, h55, X55, e55, W55, st55⟩ := stB X0 hx hZ e0 Ar54 (j := (0 : Int32)) hin55 (g := (mkF m 31 #[.val (.ref a1), .val (.int 0), .val (.ref b1), .val (.int 0), .val (.int 3), .val (.int 0), .val (.int c0)] [(.int (c0.toInt8.toInt32)), (.int 0), (.ref b1)])) rfl rfl (hb hby d8_31)
  have O56 := pr0.wr W55 pr3
  have Z56 : n0 ≤ h55.size := Nat.le_trans Z0 (Keep.of_wr W55).1
  have V55 : Arv Z h55 b1 kb .byte (3 : Int32) [(.int (nar .byte (c0.toInt8.toInt32))), (.int 0), (.int 0)] (.int 0) := Arv.set Ar54 q54 S54 N_54 Hs54 G54 (fits_nar_byte _) W55 0 rfl (Nat.le_of_ble_eq_true rfl)
  have N55 := Fr.snoc X55 N0 pr3
  refine Go.by (B := (T55.setTop (mkF m 32 #[.val (.ref a1), .val (.int 0), .val (.ref b1), .val (.int 0), .val (.int 3), .val (.int 0), .val (.int c0)] []))) st55 ?_
  refine Go.by (B := (T55.setTop (mkF m 11 #[.val (.ref a1), .val (.int 1), .val (.ref b1), .val (.int 1), .val (.int 3), .val (.int 1), .val (.int c0)] [(.ref a1)]))) (fun _ k => XS.iinc X55.here hx rfl (hb hby d8_32) rfl (l' := #[.val (.ref a1), .val (.int 1), .val (.ref b1), .val (.int 0), .val (.int 3), .val (.int 0), .val (.int c0)]) rfl (XS.iinc X55.here hx rfl (hb hby d8_35) rfl (l' := #[.val (.ref a1), .val (.int 1), .val (.ref b1), .val (.int 1), .val (.int 3), .val (.int 0), .val (.int c0)]) rfl (XS.iinc X55.here hx rfl (hb hby d8_38) rfl (l' := #[.val (.ref a1), .val (.int 1), .val (.ref b1), .val (.int 1), .val (.int 3), .val (.int 1), .val (.int c0)]) rfl (XS.goto X55.here hx rfl (pc0 := 41) (pc' := 3) rfl (hb hby d8_41) (by decide) (by decide) (XS.iload X55.here hx rfl (hb hby d8_3) rfl (XS.iload X55.here hx rfl (hb hby d8_5) rfl (XS.icmpNo X55.here hx rfl (hb hby d8_7) rfl (tlt (by decide : (1 : Int32) < (3 : Int32))).2.1 (XS.aloadN X55.here hx rfl (hb hby d8_10) rfl rfl k)))))))) ?_
  refine Go.by (B := (T55.setTop (mkF m 12 #[.val (.ref a1), .val (.int 1), .val (.ref b1), .val (.int 1), .val (.int 3), .val (.int 1), .val (.int c0)] [(.int 1), (.ref a1)]))) (fun _ k => XS.iloadN X55.here hx rfl (hb hby d8_11) rfl k) ?_
  obtain ⟨cl57, Ar57, q57, S57, N_57, Hs57, G57⟩ := id (pr1.other W55 pr4)
  have hin58 : ¬ ((1 : Int32) < 0 ∨ cl57.slots.size ≤ ((1 : Int32)).toNatClampNeg) := inb_of S57 ⟨by decide, by decide⟩
  have hat58 : cl57.slots[((1 : Int32)).toNatClampNeg]? = some (.int c1) := Hs57.at hin58 rfl
  refine Go.by (B := (T55.setTop (mkF m 13 #[.val (.ref a1), .val (.int 1), .val (.ref b1), .val (.int 1), .val (.int 3), .val (.int 1), .val (.int c0)] [(.int c1)]))) (fun _ k => X55.caload hx (j := (1 : Int32)) (v := (.int c1)) (by rw [e55]; exact Ar57.1) (State.isArrayOf_alike hZ.alike Ar57.2.1) Ar57.2.2 hin58 hat58 (g := (mkF m 12 #[.val (.ref a1), .val (.int 1), .val (.ref b1), .val (.int 1), .val (.int 3), .val (.int 1), .val (.int c0)] [(.int 1), (.ref a1)])) rfl rfl (hb hby d8_12) _ k) ?_
  refine Go.by (B := (T55.setTop (mkF m 31 #[.val (.ref a1), .val (.int 1), .val (.ref b1), .val (.int 1), .val (.int 3), .val (.int 1), .val (.int c1)] [(.int (c1.toInt8.toInt32)), (.int 1), (.ref b1)]))) (fun _ k => XS.istore X55.here hx rfl (hb hby d8_13) rfl (l' := #[.val (.ref a1), .val (.int 1), .val (.ref b1), .val (.int 1), .val (.int 3), .val (.int 1), .val (.int c1)]) rfl (XS.iload X55.here hx rfl (hb hby d8_15) rfl (XS.sipush X55.here hx rfl (hb hby d8_17) (XS.icmpYes X55.here hx rfl (pc0 := 20) (pc' := 26) rfl (hb hby d8_20) rfl (flt hc1).2.2.2 (by decide) (by decide) (XS.aloadN X55.here hx rfl (hb hby d8_26) rfl rfl (XS.iloadN X55.here hx rfl (hb hby d8_27) rfl (XS.iload X55.here hx rfl (hb hby d8_28) rfl (XS.i2b X55.here hx rfl (hb hby d8_30) rfl k)))))))) ?_
  obtain ⟨cl59, Ar59, q59, S59, N_59, Hs59, G59⟩ := id V55
  have hin60 : ¬ ((1 : Int32) < 0 ∨ cl59.slots.size ≤ ((1 : Int32)).toNatClampNeg) := inb_of S59 ⟨by decide, by decide⟩
  obtain ⟨T60, h60, X60, e60, W60, st60⟩ := stB X55 hx hZ e55 Ar59 (j := (1 : Int32)) hin60 (g := (mkF m 31 #[.val (.ref a1), .val (.int 1), .val (.ref b1), .val (.int 1), .val (.int 3), .val (.int 1), .val (.int c1)] [(.int (c1.toInt8.toInt32)), (.int 1), (.ref b1)])) rfl rfl (hb hby d8_31)
  have O61 := O56.wr W60 pr3
  have Z61 : n0 ≤ h60.size := Nat.le_trans Z56 (Keep.of_wr W60).1
  have V60 : Arv Z h60 b1 kb .byte (3 : Int32) [(.int (nar .byte (c0.toInt8.toInt32))), (.int (nar .byte (c1.toInt8.toInt32))), (.int 0)] (.int 0) := Arv.set Ar59 q59 S59 N_59 Hs59 G59 (fits_nar_byte _) W60 1 rfl (Nat.le_of_ble_eq_true rfl)
  have N60 := Fr.snoc X60 N55 pr3
  refine Go.by (B := (T60.setTop (mkF m 32 #[.val (.ref a1), .val (.int 1), .val (.ref b1), .val (.int 1), .val (.int 3), .val (.int 1), .val (.int c1)] []))) st60 ?_
  refine Go.by (B := (T60.setTop (mkF m 11 #[.val (.ref a1), .val (.int 2), .val (.ref b1), .val (.int 2), .val (.int 3), .val (.int 2), .val (.int c1)] [(.ref a1)]))) (fun _ k => XS.iinc X60.here hx rfl (hb hby d8_32) rfl (l' := #[.val (.ref a1), .val (.int 2), .val (.ref b1), .val (.int 1), .val (.int 3), .val (.int 1), .val (.int c1)]) rfl (XS.iinc X60.here hx rfl (hb hby d8_35) rfl (l' := #[.val (.ref a1), .val (.int 2), .val (.ref b1), .val (.int 2), .val (.int 3), .val (.int 1), .val (.int c1)]) rfl (XS.iinc X60.here hx rfl (hb hby d8_38) rfl (l' := #[.val (.ref a1), .val (.int 2), .val (.ref b1), .val (.int 2), .val (.int 3), .val (.int 2), .val (.int c1)]) rfl (XS.goto X60.here hx rfl (pc0 := 41) (pc' := 3) rfl (hb hby d8_41) (by decide) (by decide) (XS.iload X60.here hx rfl (hb hby d8_3) rfl (XS.iload X60.here hx rfl (hb hby d8_5) rfl (XS.icmpNo X60.here hx rfl (hb hby d8_7) rfl (tlt (by decide : (2 : Int32) < (3 : Int32))).2.1 (XS.aloadN X60.here hx rfl (hb hby d8_10) rfl rfl k)))))))) ?_
  refine Go.by (B := (T60.setTop (mkF m 12 #[.val (.ref a1), .val (.int 2), .val (.ref b1), .val (.int 2), .val (.int 3), .val (.int 2), .val (.int c1)] [(.int 2), (.ref a1)]))) (fun _ k => XS.iloadN X60.here hx rfl (hb hby d8_11) rfl k) ?_
  have f63 := ((pr1.other W55 pr4).other W60 pr4)
  obtain ⟨cl62, Ar62, q62, S62, N_62, Hs62, G62⟩ := id f63
  have hin64 : ¬ ((2 : Int32) < 0 ∨ cl62.slots.size ≤ ((2 : Int32)).toNatClampNeg) := inb_of S62 ⟨by decide, by decide⟩
  have hat64 : cl62.slots[((2 : Int32)).toNatClampNeg]? = some (.int c2) := Hs62.at hin64 rfl
  refine Go.by (B := (T60.setTop (mkF m 13 #[.val (.ref a1), .val (.int 2), .val (.ref b1), .val (.int 2), .val (.int 3), .val (.int 2), .val (.int c1)] [(.int c2)]))) (fun _ k => X60.caload hx (j := (2 : Int32)) (v := (.int c2)) (by rw [e60]; exact Ar62.1) (State.isArrayOf_alike hZ.alike Ar62.2.1) Ar62.2.2 hin64 hat64 (g := (mkF m 12 #[.val (.ref a1), .val (.int 2), .val (.ref b1), .val (.int 2), .val (.int 3), .val (.int 2), .val (.int c1)] [(.int 2), (.ref a1)])) rfl rfl (hb hby d8_12) _ k) ?_
  refine Go.by (B := (T60.setTop (mkF m 31 #[.val (.ref a1), .val (.int 2), .val (.ref b1), .val (.int 2), .val (.int 3), .val (.int 2), .val (.int c2)] [(.int (c2.toInt8.toInt32)), (.int 2), (.ref b1)]))) (fun _ k => XS.istore X60.here hx rfl (hb hby d8_13) rfl (l' := #[.val (.ref a1), .val (.int 2), .val (.ref b1), .val (.int 2), .val (.int 3), .val (.int 2), .val (.int c2)]) rfl (XS.iload X60.here hx rfl (hb hby d8_15) rfl (XS.sipush X60.here hx rfl (hb hby d8_17) (XS.icmpYes X60.here hx rfl (pc0 := 20) (pc' := 26) rfl (hb hby d8_20) rfl (flt hc2).2.2.2 (by decide) (by decide) (XS.aloadN X60.here hx rfl (hb hby d8_26) rfl rfl (XS.iloadN X60.here hx rfl (hb hby d8_27) rfl (XS.iload X60.here hx rfl (hb hby d8_28) rfl (XS.i2b X60.here hx rfl (hb hby d8_30) rfl k)))))))) ?_
  obtain ⟨cl65, Ar65, q65, S65, N_65, Hs65, G65⟩ := id V60
  have hin66 : ¬ ((2 : Int32) < 0 ∨ cl65.slots.size ≤ ((2 : Int32)).toNatClampNeg) := inb_of S65 ⟨by decide, by decide⟩
  obtain ⟨T66, h66, X66, e66, W66, st66⟩ := stB X60 hx hZ e60 Ar65 (j := (2 : Int32)) hin66 (g := (mkF m 31 #[.val (.ref a1), .val (.int 2), .val (.ref b1), .val (.int 2), .val (.int 3), .val (.int 2), .val (.int c2)] [(.int (c2.toInt8.toInt32)), (.int 2), (.ref b1)])) rfl rfl (hb hby d8_31)
  have O67 := O61.wr W66 pr3
  have Z67 : n0 ≤ h66.size := Nat.le_trans Z61 (Keep.of_wr W66).1
  have V66 : Arv Z h66 b1 kb .byte (3 : Int32) [(.int (nar .byte (c0.toInt8.toInt32))), (.int (nar .byte (c1.toInt8.toInt32))), (.int (nar .byte (c2.toInt8.toInt32)))] (.int 0) := Arv.set Ar65 q65 S65 N_65 Hs65 G65 (fits_nar_byte _) W66 2 rfl (Nat.le_of_ble_eq_true rfl)
  have N66 := Fr.snoc X66 N60 pr3
  refine Go.by (B := (T66.setTop (mkF m 32 #[.val (.ref a1), .val (.int 2), .val (.ref b1), .val (.int 2), .val (.int 3), .val (.int 2), .val (.int c2)] []))) st66 ?_
  refine Go.by (B := (T66.setTop (mkF m 46 #[.val (.ref a1), .val (.int 3), .val (.ref b1), .val (.int 3), .val (.int 3), .val (.int 3), .val (.int c2)] [(.int 3)]))) (fun _ k => XS.iinc X66.here hx rfl (hb hby d8_32) rfl (l' := #[.val (.ref a1), .val (.int 3), .val (.ref b1), .val (.int 2), .val (.int 3), .val (.int 2), .val (.int c2)]) rfl (XS.iinc X66.here hx rfl (hb hby d8_35) rfl (l' := #[.val (.ref a1), .val (.int 3), .val (.ref b1), .val (.int 3), .val (.int 3), .val (.int 2), .val (.int c2)]) rfl (XS.iinc X66.here hx rfl (hb hby d8_38) rfl (l' := #[.val (.ref a1), .val (.int 3), .val (.ref b1), .val (.int 3), .val (.int 3), .val (.int 3), .val (.int c2)]) rfl (XS.goto X66.here hx rfl (pc0 := 41) (pc' := 3) rfl (hb hby d8_41) (by decide) (by decide) (XS.iload X66.here hx rfl (hb hby d8_3) rfl (XS.iload X66.here hx rfl (hb hby d8_5) rfl (XS.icmpYes X66.here hx rfl (pc0 := 7) (pc' := 44) rfl (hb hby d8_7) rfl (flt (by decide : ¬ ((3 : Int32) < (3 : Int32)))).2.1 (by decide) (by decide) (XS.iload X66.here hx rfl (hb hby d8_44) rfl k)))))))) ?_
  refine Go.ret X66 hx hlk (t := .int) hret rfl (Or.inl ⟨rfl, by simp, _, rfl⟩) (hb hby d8_46) (by decide) (by decide) ?_
  rw [e66]
  exact ⟨rfl, N66, ((((Keep.refl h0 [b1]).wr W55 (Or.inl (List.mem_of_getElem? (i := 0) rfl))).wr W60 (Or.inl (List.mem_of_getElem? (i := 0) rfl))).wr W66 (Or.inl (List.mem_of_getElem? (i := 0) rfl))), V66⟩
theorem ef_rm_cmp3_3 (m : MethodId) (x0 : Addr) : entryFrame m #[(.ref x0), (.int 0), (.int 3)] 6 = mkF m 0 #[.val (.ref x0), .val (.int 0), .val (.int 3), .unset, .unset, .unset] [] := by first | (simp [entryFrame, mkF, argsToLocals, Value.category]; done) | rfl
def Q_rm_cmp3_3 (Z : State) (a1 : Addr) (ka : ClassId) (c0 : Int32) (c1 : Int32) (c2 : Int32) (h0 : Heap) (n0 : Nat) (vv : Option Value) (h : Heap) (L : List Loc) : Prop := ∃ b : Addr, ∃ k : ClassId, vv = some (.ref b) ∧ Fr n0 L ∧ Keep h0 h [] ∧ Arv Z h b k .byte (3 : Int32) [(.int (nar .byte (c0.toInt8.toInt32))), (.int (nar .byte (c1.toInt8.toInt32))), (.int (nar .byte (c2.toInt8.toInt32)))] (.int 0) ∧ h0.size ≤ b
set_option maxRecDepth 65536 in
set_option maxHeartbeats 40000000 in
theorem rm_cmp3_3 (l : Launch) (Z : State) (a0 : Array Value) (hw : ∀ d ∈ tables_1, d.before a0 Z = true) (ws : List Jvm.Cond) (a1 : Addr) (ka : ClassId) (c0 : Int32) (c1 : Int32) (c2 : Int32) (h0 : Heap) (n0 : Nat) (Z0 : n0 ≤ h0.size) (pr0 : Old Z n0 h0) (pr1 : Arv Z h0 a1 ka .char (3 : Int32) [(.int c0), (.int c1), (.int c2)] (.int 0)) (hc0 : ¬ ((255 : Int32) < c0)) (hc1 : ¬ ((255 : Int32) < c1)) (hc2 : ¬ ((255 : Int32) < c2)) :
    Met l Z (⟨"java/lang/StringUTF16", "compress", "([CII)[B"⟩ : MethodName) jdk_52_method_16_code 6 (some (.array .byte)) ws ({ frames := 1, cells := 1, slots := 3, locals := 18 } : Room) #[(.ref a1), (.int 0), (.int 3)] h0 (Q_rm_cmp3_3 Z a1 ka c0 c1 c2 h0 n0) := by
  refine Met.enter (f0 := fun m => mkF m 0 #[.val (.ref a1), .val (.int 0), .val (.int 3), .unset, .unset, .unset] []) (plainFor_of_name pn_java_lang_StringUTF16) (fun m => ef_rm_cmp3_3 m a1) ?_
  intro p e s m below meth c s₁ hx hby hml hown hnm hret hlk hZ X0 e0
  have hown : s.vm.findClass "java/lang/StringUTF16" = some m.cls := hown
  have hnm : meth.name = "compress" := hnm
  have hml : c.maxLocals = 6 := hml
  have hby : c.code = jdk_52_method_16_code := hby
  have N0 := Fr.nil n0
  refine Go.by (B := (s₁.setTop (mkF m 1 #[.val (.ref a1), .val (.int 0), .val (.int 3), .unset, .unset, .unset] [(.int 3)]))) (fun _ k => XS.iloadN X0.here hx rfl (hb hby d7_0) rfl k) ?_
  obtain ⟨T68, h68, k68, X68, e68, E68, A68, st68⟩ := newP X0 hx hZ (wd hw 25 rfl) e0 (g := (mkF m 1 #[.val (.ref a1), .val (.int 0), .val (.int 3), .unset, .unset, .unset] [(.int 3)])) rfl (hb hby d7_1) rfl (by decide) (cap := 3) (by decide) (by decide) (by decide) (by decide)
  obtain ⟨b68, g68⟩ : ∃ z, z = h0.size := ⟨_, rfl⟩
  rw [← g68] at A68 st68
  have sz_b68 : h0.size ≤ b68 := Nat.le_of_eq g68.symm
  have V68 : Arv Z h68 b68 k68 .byte (3 : Int32) [(.int 0), (.int 0), (.int 0)] (.int 0) := (Arv.new A68 (by decide)).pad (pad_rep [] (.int 0) 3)
  have O69 := pr0.ext E68
  have Z69 : n0 ≤ h68.size := Nat.le_trans Z0 E68.1
  refine Go.by (B := (T68.setTop (mkF m 3 #[.val (.ref a1), .val (.int 0), .val (.int 3), .unset, .unset, .unset] [(.ref b68)]))) st68 ?_
  refine Go.by (B := (T68.setTop (mkF m 9 #[.val (.ref a1), .val (.int 0), .val (.int 3), .val (.ref b68), .unset, .unset] [(.int 3), (.int 0), (.ref b68), (.int 0), (.ref a1)]))) (fun _ k => XS.astoreN X68.here hx rfl (hb hby d7_3) rfl rfl (l' := #[.val (.ref a1), .val (.int 0), .val (.int 3), .val (.ref b68), .unset, .unset]) rfl (XS.aloadN X68.here hx rfl (hb hby d7_4) rfl rfl (XS.iloadN X68.here hx rfl (hb hby d7_5) rfl (XS.aloadN X68.here hx rfl (hb hby d7_6) rfl rfl (XS.iconst X68.here hx rfl (hb hby d7_7) (XS.iloadN X68.here hx rfl (hb hby d7_8) rfl k)))))) ?_
  obtain ⟨_, _, ⟨T70, L70, k70, n70⟩, -, X70, ⟨Lc70, hQ70, l70, y70, z70⟩, st70⟩ := Jvm.LawKit.callS X68 hx (y := (⟨"java/lang/StringUTF16", "compress", "([CI[BII)I"⟩ : MethodName)) hown (mvT hZ (wd hw 40 rfl)) (mvT hZ (wd hw 41 rfl)) (mvT hZ (wd hw 38 rfl)) (mvT hZ (wd hw 42 rfl)) (by decide) (backOf (W := 0) (rm_cmp5_3 l Z a0 hw [] a1 b68 ka k68 c0 c1 c2 h68 n0 Z69 O69 (pr1.ext E68) V68 (Nat.le_trans Z0 sz_b68) (Nat.ne_of_lt (Nat.lt_of_lt_of_le pr1.lt sz_b68)) hc0 hc1 hc2) hZ (wd hw 42 rfl) (wd hw 38 rfl) (by decide) (by decide)) (g := (mkF m 9 #[.val (.ref a1), .val (.int 0), .val (.int 3), .val (.ref b68), .unset, .unset] [(.int 3), (.int 0), (.ref b68), (.int 0), (.ref a1)])) rfl (by rw [hml]; rfl) (argsL := [(.ref a1), (.int 0), (.ref b68), (.int 0), (.int 3)]) (rest := []) (lenOf pd_0 rfl) rfl (by show 2 * 0 + _ ≤ _; exact Nat.le_of_eq rfl) (hb hby d7_9) (fun _ _ => ⟨rfl, e68, Nat.le_of_ble_eq_true rfl, Nat.le_of_ble_eq_true rfl⟩)
  dsimp only [Pt.U, Pt.locs, Pt.cells, Pt.slots] at X70 l70 y70 z70 st70 hQ70
  subst l70 y70 z70
  obtain ⟨rfl, Nq70, K70, p70_0⟩ := hQ70
  have N70 := Fr.app N0 Nq70
  have O71 := O69.keep K70 (allS (Nat.le_trans Z0 sz_b68) all0)
  have Z71 : n0 ≤ T70.heap.size := Nat.le_trans Z69 K70.1
  refine Go.by (B := (T70.setTop (mkF m 12 #[.val (.ref a1), .val (.int 0), .val (.int 3), .val (.ref b68), .unset, .unset] [(.int 3)]))) (fun _ k => st70 _ k) ?_
  refine Go.by (B := (T70.setTop (mkF m 58 #[.val (.ref a1), .val (.int 0), .val (.int 3), .val (.ref b68), .val (.int 3), .unset] [(.ref b68)]))) (fun _ k => XS.istore X70.here hx rfl (hb hby d7_12) rfl (l' := #[.val (.ref a1), .val (.int 0), .val (.int 3), .val (.ref b68), .val (.int 3), .unset]) rfl (XS.iload X70.here hx rfl (hb hby d7_14) rfl (XS.iloadN X70.here hx rfl (hb hby d7_16) rfl (XS.icmpYes X70.here hx rfl (pc0 := 17) (pc' := 57) rfl (hb hby d7_17) rfl (teq (by decide : (3 : Int32) = (3 : Int32))).1 (by decide) (by decide) (XS.aloadN X70.here hx rfl (hb hby d7_57) rfl rfl k))))) ?_
  refine Go.ret X70 hx hlk (t := (.array .byte)) hret rfl (Or.inr (Or.inr (Or.inr (Or.inr ⟨rfl, rfl, rfl⟩)))) (hb hby d7_58) (by decide) (by decide) ?_
  exact ⟨b68, k68, rfl, N70, (((Keep.refl h0 []).ext E68).trans K70 (allS (Or.inr (Nat.le_trans (Nat.le_refl _) sz_b68)) all0)), p70_0, (Nat.le_trans (Nat.le_refl _) sz_b68)⟩
theorem ef_rm_cfal_3 (m : MethodId) (x0 : Addr) : entryFrame m #[(.ref x0), (.int 3)] 2 = mkF m 0 #[.val (.ref x0), .val (.int 3)] [] := by first | (simp [entryFrame, mkF, argsToLocals, Value.category]; done) | rfl
def Q_rm_cfal_3 (Z : State) (b1 : Addr) (kb : ClassId) (c0 : Int32) (c1 : Int32) (c2 : Int32) (h0 : Heap) (n0 : Nat) (vv : Option Value) (h : Heap) (L : List Loc) : Prop := vv = some (.int 0) ∧ Fr n0 L ∧ h = h0
set_option maxRecDepth 65536 in
set_option maxHeartbeats 40000000 in
theorem rm_cfal_3 (l : Launch) (Z : State) (a0 : Array Value) (hw : ∀ d ∈ tables_1, d.before a0 Z = true) (ws : List Jvm.Cond) (b1 : Addr) (kb : ClassId) (c0 : Int32) (c1 : Int32) (c2 : Int32) (h0 : Heap) (n0 : Nat) (Z0 : n0 ≤ h0.size) (pr0 : Arv Z h0 b1 kb .byte (3 : Int32) [(.int (nar .byte (c0.toInt8.toInt32))), (.int (nar .byte (c1.toInt8.toInt32))), (.int (nar .byte (c2.toInt8.toInt32)))] (.int 0)) :
    Met l Z (⟨"java/lang/StringUTF16", "coderFromArrayLen", "([BI)B"⟩ : MethodName) jdk_52_method_15_code 2 (some .byte) ws ({ frames := 0, cells := 0, slots := 0, locals := 0 } : Room) #[(.ref b1), (.int 3)] h0 (Q_rm_cfal_3 Z b1 kb c0 c1 c2 h0 n0) := by
  refine Met.enter (f0 := fun m => mkF m 0 #[.val (.ref b1), .val (.int 3)] []) (plainFor_of_name pn_java_lang_StringUTF16) (fun m => ef_rm_cfal_3 m b1) ?_
  intro p e s m below meth c s₁ hx hby hml hown hnm hret hlk hZ X0 e0
  have hown : s.vm.findClass "java/lang/StringUTF16" = some m.cls := hown
  have hnm : meth.name = "coderFromArrayLen" := hnm
  have hml : c.maxLocals = 2 := hml
  have hby : c.code = jdk_52_method_15_code := hby
  have N0 := Fr.nil n0
  refine Go.by (B := (s₁.setTop (mkF m 2 #[.val (.ref b1), .val (.int 3)] [(.ref b1), (.int 3)]))) (fun _ k => XS.iloadN X0.here hx rfl (hb hby d9_0) rfl (XS.aloadN X0.here hx rfl (hb hby d9_1) rfl rfl k)) ?_
  obtain ⟨cl72, Ar72, q72, S72, N_72, Hs72, G72⟩ := id pr0
  refine Go.by (B := (s₁.setTop (mkF m 3 #[.val (.ref b1), .val (.int 3)] [(.int 3), (.int 3)]))) (fun _ k => X0.arraylength hx (by rw [e0]; exact Ar72.1) (State.isArrayOf_alike hZ.alike Ar72.2.1) (g := (mkF m 2 #[.val (.ref b1), .val (.int 3)] [(.ref b1), (.int 3)])) rfl rfl (hb hby d9_2) _ (by rw [len_of S72 N_72]; exact k)) ?_
  refine Go.by (B := (s₁.setTop (mkF m 8 #[.val (.ref b1), .val (.int 3)] [(.int 0)]))) (fun _ k => XS.isub X0.here hx rfl (hb hby d9_3) rfl (XS.bipush X0.here hx rfl (hb hby d9_4) (XS.iushr X0.here hx rfl (hb hby d9_6) rfl (XS.i2b X0.here hx rfl (hb hby d9_7) rfl k)))) ?_
  refine Go.ret X0 hx hlk (t := .byte) hret rfl (Or.inl ⟨rfl, by simp, _, rfl⟩) (hb hby d9_8) (by decide) (by decide) ?_
  rw [e0]
  exact ⟨rfl, N0, rfl⟩
theorem ef_rm_sV_3 (m : MethodId) (x0 : Addr) (x1 : Addr) : entryFrame m #[(.ref x0), (.ref x1), (.int 0), (.int 3), .null] 6 = mkF m 0 #[.val (.ref x0), .val (.ref x1), .val (.int 0), .val (.int 3), .val .null, .unset] [] := by first | (simp [entryFrame, mkF, argsToLocals, Value.category]; done) | rfl
def Q_rm_sV_3 (Z : State) (a1 : Addr) (v1 : Addr) (ka : ClassId) (c0 : Int32) (c1 : Int32) (c2 : Int32) (cs : Int32) (h0 : Heap) (n0 : Nat) (vv : Option Value) (h : Heap) (L : List Loc) : Prop := ∃ t : Addr, ∃ k : ClassId, vv = none ∧ Fr n0 L ∧ Keep h0 h [a1] ∧ Exa Z h a1 "java/lang/String" ∧ Fld Z h a1 "java/lang/String" "value" "[B" (.ref t) ∧ Fld Z h a1 "java/lang/String" "coder" "B" (.int 0) ∧ Arv Z h t k .byte (3 : Int32) [(.int (nar .byte (c0.toInt8.toInt32))), (.int (nar .byte (c1.toInt8.toInt32))), (.int (nar .byte (c2.toInt8.toInt32)))] (.int 0) ∧ h0.size ≤ t
set_option maxRecDepth 65536 in
set_option maxHeartbeats 40000000 in
theorem rm_sV_3 (l : Launch) (Z : State) (a0 : Array Value) (hw : ∀ d ∈ tables_1, d.before a0 Z = true) (ws : List Jvm.Cond) (a1 : Addr) (v1 : Addr) (ka : ClassId) (c0 : Int32) (c1 : Int32) (c2 : Int32) (cs : Int32) (h0 : Heap) (n0 : Nat) (Z0 : n0 ≤ h0.size) (pr0 : Old Z n0 h0) (pr1 : Sta Z Z.heap "java/lang/String" "COMPACT_STRINGS" "Z" (.int cs)) (hcs : ¬ (cs = (0 : Int32))) (pr3 : Exa Z h0 a1 "java/lang/String") (pr4 : Fld Z h0 a1 "java/lang/String" "value" "[B" .null) (pr5 : Fld Z h0 a1 "java/lang/String" "coder" "B" (.int 0)) (pr6 : n0 ≤ a1) (pr7 : Arv Z h0 v1 ka .char (3 : Int32) [(.int c0), (.int c1), (.int c2)] (.int 0)) (hc0 : ¬ ((255 : Int32) < c0)) (hc1 : ¬ ((255 : Int32) < c1)) (hc2 : ¬ ((255 : Int32) < c2)) :
    Met l Z (⟨"java/lang/String", "<init>", "([CIILjava/lang/Void;)V"⟩ : MethodName) jdk_42_method_149_code 6 none ws ({ frames := 2, cells := 1, slots := 3, locals := 35 } : Room) #[(.ref a1), (.ref v1), (.int 0), (.int 3), .null] h0 (Q_rm_sV_3 Z a1 v1 ka c0 c1 c2 cs h0 n0) := by
  refine Met.enter (f0 := fun m => mkF m 0 #[.val (.ref a1), .val (.ref v1), .val (.int 0), .val (.int 3), .val .null, .unset] []) (plainFor_of_name pn_java_lang_String) (fun m => ef_rm_sV_3 m a1 v1) ?_
  intro p e s m below meth c s₁ hx hby hml hown hnm hret hlk hZ X0 e0
  have hown : s.vm.findClass "java/lang/String" = some m.cls := hown
  have hnm : meth.name = "<init>" := hnm
  have hml : c.maxLocals = 6 := hml
  have hby : c.code = jdk_42_method_149_code := hby
  have N0 := Fr.nil n0
  refine Go.by (B := (s₁.setTop (mkF m 1 #[.val (.ref a1), .val (.ref v1), .val (.int 0), .val (.int 3), .val .null, .unset] [(.ref a1)]))) (fun _ k => XS.aloadN X0.here hx rfl (hb hby d4_0) rfl rfl k) ?_
  obtain ⟨T73, X73, e73, st73⟩ := initO X0 hx hZ hown (wd hw 21 rfl) (wd hw 22 rfl) (wd hw 23 rfl) e0 (g := (mkF m 1 #[.val (.ref a1), .val (.ref v1), .val (.int 0), .val (.int 3), .val .null, .unset] [(.ref a1)])) rfl (by rw [hml]; rfl) rfl (hb hby d4_1) (by decide) (W := 0) (by show 2 * 0 + _ ≤ _; exact Nat.le_of_eq rfl) (by decide)
  refine Go.by (B := (T73.setTop (mkF m 4 #[.val (.ref a1), .val (.ref v1), .val (.int 0), .val (.int 3), .val .null, .unset] []))) st73 ?_
  refine Go.by (B := (T73.setTop (mkF m 27 #[.val (.ref a1), .val (.ref v1), .val (.int 0), .val (.int 3), .val .null, .unset] []))) (fun _ k => XS.iloadN X73.here hx rfl (hb hby d4_4) rfl (XS.ifYes X73.here hx rfl (pc0 := 5) (pc' := 27) rfl (hb hby d4_5) rfl ((if0 _ _).trans (feq (by decide : ¬ ((3 : Int32) = (0 : Int32)))).2) (by decide) (by decide) k)) ?_
  obtain ⟨T74, X74, e74, st74⟩ := getS2 X73 hx hZ hown (host := "") (Or.inl (wd hw 35 rfl)) Via.refl e73 (pr1.ext pr0.2) (g := (mkF m 27 #[.val (.ref a1), .val (.ref v1), .val (.int 0), .val (.int 3), .val .null, .unset] [])) rfl (hb hby d4_27)
  refine Go.by (B := (T74.setTop (mkF m 30 #[.val (.ref a1), .val (.ref v1), .val (.int 0), .val (.int 3), .val .null, .unset] [(.int cs)]))) st74 ?_
  refine Go.by (B := (T74.setTop (mkF m 36 #[.val (.ref a1), .val (.ref v1), .val (.int 0), .val (.int 3), .val .null, .unset] [(.int 3), (.int 0), (.ref v1)]))) (fun _ k => XS.ifNo X74.here hx rfl (hb hby d4_30) rfl ((if0 _ _).trans (feq hcs).1) (XS.aloadN X74.here hx rfl (hb hby d4_33) rfl rfl (XS.iloadN X74.here hx rfl (hb hby d4_34) rfl (XS.iloadN X74.here hx rfl (hb hby d4_35) rfl k)))) ?_
  obtain ⟨_, _, ⟨T75, L75, k75, n75⟩, -, X75, ⟨Lc75, hQ75, l75, y75, z75⟩, st75⟩ := Jvm.LawKit.callS X74 hx (y := (⟨"java/lang/StringUTF16", "compress", "([CII)[B"⟩ : MethodName)) hown (mvT hZ (wd hw 36 rfl)) (mvT hZ (wd hw 37 rfl)) (mvT hZ (wd hw 38 rfl)) (mvT hZ (wd hw 39 rfl)) (by decide) (backOf (W := 0) (rm_cmp3_3 l Z a0 hw [] v1 ka c0 c1 c2 h0 n0 Z0 pr0 pr7 hc0 hc1 hc2) hZ (wd hw 39 rfl) (wd hw 38 rfl) (by decide) (by decide)) (g := (mkF m 36 #[.val (.ref a1), .val (.ref v1), .val (.int 0), .val (.int 3), .val .null, .unset] [(.int 3), (.int 0), (.ref v1)])) rfl (by rw [hml]; rfl) (argsL := [(.ref v1), (.int 0), (.int 3)]) (rest := []) (lenOf pd_1 rfl) rfl (by show 2 * 0 + _ ≤ _; exact Nat.le_of_eq rfl) (hb hby d4_36) (fun _ _ => ⟨rfl, e74, Nat.le_of_ble_eq_true rfl, Nat.le_of_ble_eq_true rfl⟩)
  dsimp only [Pt.U, Pt.locs, Pt.cells, Pt.slots] at X75 l75 y75 z75 st75 hQ75
  subst l75 y75 z75
  obtain ⟨b75, k75, rfl, Nq75, K75, p75_0, p75_1⟩ := hQ75
  have N75 := Fr.app N0 Nq75
  have O76 := pr0.keep K75 all0
  have Z76 : n0 ≤ T75.heap.size := Nat.le_trans Z0 K75.1
  have sz_b75 : h0.size ≤ b75 := p75_1
  refine Go.by (B := (T75.setTop (mkF m 39 #[.val (.ref a1), .val (.ref v1), .val (.int 0), .val (.int 3), .val .null, .unset] [(.ref b75)]))) (fun _ k => st75 _ k) ?_
  refine Go.by (B := (T75.setTop (mkF m 45 #[.val (.ref a1), .val (.ref v1), .val (.int 0), .val (.int 3), .val .null, .val (.ref b75)] [(.int 3), (.ref b75), (.ref a1)]))) (fun _ k => XS.astore X75.here hx rfl (hb hby d4_39) rfl rfl (l' := #[.val (.ref a1), .val (.ref v1), .val (.int 0), .val (.int 3), .val .null, .val (.ref b75)]) rfl (XS.aloadN X75.here hx rfl (hb hby d4_41) rfl rfl (XS.aload X75.here hx rfl (hb hby d4_42) rfl rfl (XS.iloadN X75.here hx rfl (hb hby d4_44) rfl k)))) ?_
  obtain ⟨_, _, ⟨T77, L77, k77, n77⟩, -, X77, ⟨Lc77, hQ77, l77, y77, z77⟩, st77⟩ := Jvm.LawKit.callS X75 hx (y := (⟨"java/lang/StringUTF16", "coderFromArrayLen", "([BI)B"⟩ : MethodName)) hown (mvT hZ (wd hw 43 rfl)) (mvT hZ (wd hw 44 rfl)) (mvT hZ (wd hw 38 rfl)) (mvT hZ (wd hw 45 rfl)) (by decide) (backOf (W := 1) (rm_cfal_3 l Z a0 hw [] b75 k75 c0 c1 c2 T75.heap n0 Z76 p75_0) hZ (wd hw 45 rfl) (wd hw 38 rfl) (by decide) (by decide)) (g := (mkF m 45 #[.val (.ref a1), .val (.ref v1), .val (.int 0), .val (.int 3), .val .null, .val (.ref b75)] [(.int 3), (.ref b75), (.ref a1)])) rfl (by rw [hml]; rfl) (argsL := [(.ref b75), (.int 3)]) (rest := [(.ref a1)]) (lenOf pd_2 rfl) rfl (by show 2 * 0 + _ ≤ _; exact Nat.le_of_eq rfl) (hb hby d4_45) (fun _ _ => ⟨rfl, rfl, Nat.le_of_ble_eq_true rfl, Nat.le_of_ble_eq_true rfl⟩)
  dsimp only [Pt.U, Pt.locs, Pt.cells, Pt.slots] at X77 l77 y77 z77 st77 hQ77
  subst l77 y77 z77
  obtain ⟨rfl, Nq77, hh77⟩ := hQ77
  have N77 := Fr.app N75 Nq77
  refine Go.by (B := (T77.setTop (mkF m 48 #[.val (.ref a1), .val (.ref v1), .val (.int 0), .val (.int 3), .val .null, .val (.ref b75)] [(.int 0), (.ref a1)]))) (fun _ k => st77 _ k) ?_
  obtain ⟨T78, h78, X78, e78, W78, st78⟩ := putFN X77 hx hZ hown (wd hw 31 rfl) Via.refl hh77 (pr5.keep K75 nin0) (pr3.keep K75) (Or.inr ⟨(wd hw 27 rfl), rfl, hnm⟩) (wd hw 11 rfl) (ty := .byte) (v' := (.int 0)) (by decide) rfl rfl (g := (mkF m 48 #[.val (.ref a1), .val (.ref v1), .val (.int 0), .val (.int 3), .val .null, .val (.ref b75)] [(.int 0), (.ref a1)])) rfl rfl (hb hby d4_48)
  have N78 := Fr.snoc X78 N77 pr6
  have O79 := O76.wr W78 pr6
  have Z79 : n0 ≤ h78.size := Nat.le_trans Z76 (Keep.of_wr W78).1
  have F78 := (pr5.keep K75 nin0).same W78
  refine Go.by (B := (T78.setTop (mkF m 51 #[.val (.ref a1), .val (.ref v1), .val (.int 0), .val (.int 3), .val .null, .val (.ref b75)] []))) st78 ?_
  refine Go.by (B := (T78.setTop (mkF m 54 #[.val (.ref a1), .val (.ref v1), .val (.int 0), .val (.int 3), .val .null, .val (.ref b75)] [(.ref b75), (.ref a1)]))) (fun _ k => XS.aloadN X78.here hx rfl (hb hby d4_51) rfl rfl (XS.aload X78.here hx rfl (hb hby d4_52) rfl rfl k)) ?_
  have f80 := ((pr4.keep K75 nin0).other W78 (Or.inr (slot_ne (Or.inr (wd hw 26 rfl)) (Or.inr (wd hw 27 rfl)) (by decide) (t := (.array .byte)) (t' := .byte) (by decide) (by decide))))
  obtain ⟨T81, h81, X81, e81, W81, st81⟩ := putF X78 hx hZ hown (host := "") (Or.inl (wd hw 30 rfl)) Via.refl e78 f80 ((pr3.keep K75).wr W78) (Or.inr ⟨(wd hw 26 rfl), rfl, hnm⟩) (wd hw 11 rfl) (ty := (.array .byte)) (by decide) rfl rfl (g := (mkF m 54 #[.val (.ref a1), .val (.ref v1), .val (.int 0), .val (.int 3), .val .null, .val (.ref b75)] [(.ref b75), (.ref a1)])) rfl rfl (hb hby d4_54)
  have N81 := Fr.snoc X81 N78 pr6
  have O82 := O79.wr W81 pr6
  have Z82 : n0 ≤ h81.size := Nat.le_trans Z79 (Keep.of_wr W81).1
  have F81 := f80.same W81
  refine Go.by (B := (T81.setTop (mkF m 57 #[.val (.ref a1), .val (.ref v1), .val (.int 0), .val (.int 3), .val .null, .val (.ref b75)] []))) st81 ?_
  refine Go.retV X81 hx hlk hret (hb hby d4_57) (by decide) (by decide) ?_
  rw [e81]
  exact ⟨b75, k75, rfl, N81, ((((Keep.refl h0 [a1]).trans K75 all0).wr W78 (Or.inl (List.mem_of_getElem? (i := 0) rfl))).wr W81 (Or.inl (List.mem_of_getElem? (i := 0) rfl))), (((pr3.keep K75).wr W78).wr W81), F81, (F78.other W81 (Or.inr (slot_ne (Or.inr (wd hw 27 rfl)) (Or.inr (wd hw 26 rfl)) (by decide) (t := .byte) (t' := (.array .byte)) (by decide) (by decide)))), ((p75_0.other W78 (Ne.symm (Nat.ne_of_lt (Nat.lt_of_lt_of_le pr3.lt sz_b75)))).other W81 (Ne.symm (Nat.ne_of_lt (Nat.lt_of_lt_of_le pr3.lt sz_b75)))), (Nat.le_trans (Nat.le_refl _) sz_b75)⟩
theorem ef_rm_sC_3 (m : MethodId) (x0 : Addr) (x1 : Addr) : entryFrame m #[(.ref x0), (.ref x1)] 2 = mkF m 0 #[.val (.ref x0), .val (.ref x1)] [] := by first | (simp [entryFrame, mkF, argsToLocals, Value.category]; done) | rfl
def Q_rm_sC_3 (Z : State) (a1 : Addr) (v1 : Addr) (ka : ClassId) (c0 : Int32) (c1 : Int32) (c2 : Int32) (cs : Int32) (h0 : Heap) (n0 : Nat) (vv : Option Value) (h : Heap) (L : List Loc) : Prop := ∃ t : Addr, ∃ k : ClassId, vv = none ∧ Fr n0 L ∧ Keep h0 h [a1] ∧ Exa Z h a1 "java/lang/String" ∧ Fld Z h a1 "java/lang/String" "value" "[B" (.ref t) ∧ Fld Z h a1 "java/lang/String" "coder" "B" (.int 0) ∧ Arv Z h t k .byte (3 : Int32) [(.int (nar .byte (c0.toInt8.toInt32))), (.int (nar .byte (c1.toInt8.toInt32))), (.int (nar .byte (c2.toInt8.toInt32)))] (.int 0) ∧ h0.size ≤ t
set_option maxRecDepth 65536 in
set_option maxHeartbeats 40000000 in
theorem rm_sC_3 (l : Launch) (Z : State) (a0 : Array Value) (hw : ∀ d ∈ tables_1, d.before a0 Z = true) (ws : List Jvm.Cond) (a1 : Addr) (v1 : Addr) (ka : ClassId) (c0 : Int32) (c1 : Int32) (c2 : Int32) (cs : Int32) (h0 : Heap) (n0 : Nat) (Z0 : n0 ≤ h0.size) (pr0 : Old Z n0 h0) (pr1 : Sta Z Z.heap "java/lang/String" "COMPACT_STRINGS" "Z" (.int cs)) (hcs : ¬ (cs = (0 : Int32))) (pr3 : Exa Z h0 a1 "java/lang/String") (pr4 : Fld Z h0 a1 "java/lang/String" "value" "[B" .null) (pr5 : Fld Z h0 a1 "java/lang/String" "coder" "B" (.int 0)) (pr6 : n0 ≤ a1) (pr7 : Arv Z h0 v1 ka .char (3 : Int32) [(.int c0), (.int c1), (.int c2)] (.int 0)) (hc0 : ¬ ((255 : Int32) < c0)) (hc1 : ¬ ((255 : Int32) < c1)) (hc2 : ¬ ((255 : Int32) < c2)) :
    Met l Z (⟨"java/lang/String", "<init>", "([C)V"⟩ : MethodName) jdk_42_method_3_code 2 none ws ({ frames := 3, cells := 1, slots := 3, locals := 52 } : Room) #[(.ref a1), (.ref v1)] h0 (Q_rm_sC_3 Z a1 v1 ka c0 c1 c2 cs h0 n0) := by
  refine Met.enter (f0 := fun m => mkF m 0 #[.val (.ref a1), .val (.ref v1)] []) (plainFor_of_name pn_java_lang_String) (fun m => ef_rm_sC_3 m a1 v1) ?_
  intro p e s m below meth c s₁ hx hby hml hown hnm hret hlk hZ X0 e0
  have hown : s.vm.findClass "java/lang/String" = some m.cls := hown
  have hnm : meth.name = "<init>" := hnm
  have hml : c.maxLocals = 2 := hml
  have hby : c.code = jdk_42_method_3_code := hby
  have N0 := Fr.nil n0
  refine Go.by (B := (s₁.setTop (mkF m 4 #[.val (.ref a1), .val (.ref v1)] [(.ref v1), (.int 0), (.ref v1), (.ref a1)]))) (fun _ k => XS.aloadN X0.here hx rfl (hb hby d3_0) rfl rfl (XS.aloadN X0.here hx rfl (hb hby d3_1) rfl rfl (XS.iconst X0.here hx rfl (hb hby d3_2) (XS.aloadN X0.here hx rfl (hb hby d3_3) rfl rfl k)))) ?_
  obtain ⟨cl83, Ar83, q83, S83, N_83, Hs83, G83⟩ := id pr7
  refine Go.by (B := (s₁.setTop (mkF m 5 #[.val (.ref a1), .val (.ref v1)] [(.int 3), (.int 0), (.ref v1), (.ref a1)]))) (fun _ k => X0.arraylength hx (by rw [e0]; exact Ar83.1) (State.isArrayOf_alike hZ.alike Ar83.2.1) (g := (mkF m 4 #[.val (.ref a1), .val (.ref v1)] [(.ref v1), (.int 0), (.ref v1), (.ref a1)])) rfl rfl (hb hby d3_4) _ (by rw [len_of S83 N_83]; exact k)) ?_
  refine Go.by (B := (s₁.setTop (mkF m 6 #[.val (.ref a1), .val (.ref v1)] [.null, (.int 3), (.int 0), (.ref v1), (.ref a1)]))) (fun _ k => XS.aconstNull X0.here hx rfl (hb hby d3_5) k) ?_
  obtain ⟨_, _, ⟨T84, L84, k84, n84⟩, -, X84, ⟨Lc84, hQ84, l84, y84, z84⟩, st84⟩ := X0.specialBack hx (y := (⟨"java/lang/String", "<init>", "([CIILjava/lang/Void;)V"⟩ : MethodName)) rfl hown (mvT hZ (wd hw 17 rfl)) (mvT hZ (wd hw 18 rfl)) (mvT hZ (wd hw 20 rfl)) (by decide) (backOf (W := 0) (rm_sV_3 l Z a0 hw [] a1 v1 ka c0 c1 c2 cs h0 n0 Z0 pr0 pr1 hcs pr3 pr4 pr5 pr6 pr7 hc0 hc1 hc2) hZ (wd hw 20 rfl) (wd hw 12 rfl) (by decide) (by decide)) (g := (mkF m 6 #[.val (.ref a1), .val (.ref v1)] [.null, (.int 3), (.int 0), (.ref v1), (.ref a1)])) rfl (by rw [hml]; rfl) (Steps.refl _) (a := a1) (argsL := [(.ref v1), (.int 0), (.int 3), .null]) (rest := []) (lenOf pd_3 rfl) rfl (by show 2 * 0 + _ ≤ _; exact Nat.le_of_eq rfl) (hb hby d3_6) (fun _ _ => ⟨rfl, e0, Nat.le_of_ble_eq_true rfl, Nat.le_of_ble_eq_true rfl⟩)
  dsimp only [Pt.U, Pt.locs, Pt.cells, Pt.slots] at X84 l84 y84 z84 st84 hQ84
  subst l84 y84 z84
  obtain ⟨t84, k84, rfl, Nq84, K84, p84_0, p84_1, p84_2, p84_3, p84_4⟩ := hQ84
  have N84 := Fr.app N0 Nq84
  have O85 := pr0.keep K84 (allS pr6 all0)
  have Z85 : n0 ≤ T84.heap.size := Nat.le_trans Z0 K84.1
  have sz_t84 : h0.size ≤ t84 := p84_4
  refine Go.by (B := (T84.setTop (mkF m 9 #[.val (.ref a1), .val (.ref v1)] []))) (fun _ k => st84.trans k) ?_
  refine Go.retV X84 hx hlk hret (hb hby d3_9) (by decide) (by decide) ?_
  exact ⟨t84, k84, rfl, N84, ((Keep.refl h0 [a1]).trans K84 (allS (Or.inl (List.mem_of_getElem? (i := 0) rfl)) all0)), p84_0, p84_1, p84_2, p84_3, (Nat.le_trans (Nat.le_refl _) sz_t84)⟩
theorem ef_rm_sV_0 (m : MethodId) (x0 : Addr) (x1 : Addr) : entryFrame m #[(.ref x0), (.ref x1), (.int 0), (.int 0), .null] 6 = mkF m 0 #[.val (.ref x0), .val (.ref x1), .val (.int 0), .val (.int 0), .val .null, .unset] [] := by first | (simp [entryFrame, mkF, argsToLocals, Value.category]; done) | rfl
theorem d4_8 : decode jdk_42_method_149_code 8 = .ok (.aload_n 0, 1) := by decide +kernel
theorem d4_9 : decode jdk_42_method_149_code 9 = .ok (.ldc 7, 2) := by decide +kernel
theorem d4_11 : decode jdk_42_method_149_code 11 = .ok (.getfield 9, 3) := by decide +kernel
theorem d4_14 : decode jdk_42_method_149_code 14 = .ok (.putfield 9, 3) := by decide +kernel
theorem d4_17 : decode jdk_42_method_149_code 17 = .ok (.aload_n 0, 1) := by decide +kernel
theorem d4_18 : decode jdk_42_method_149_code 18 = .ok (.ldc 7, 2) := by decide +kernel
theorem d4_20 : decode jdk_42_method_149_code 20 = .ok (.getfield 15, 3) := by decide +kernel
theorem d4_23 : decode jdk_42_method_149_code 23 = .ok (.putfield 15, 3) := by decide +kernel
theorem d4_26 : decode jdk_42_method_149_code 26 = .ok (.return_, 1) := by decide +kernel
def Q_rm_sV_0 (Z : State) (a1 : Addr) (v1 : Addr) (h0 : Heap) (n0 : Nat) (vv : Option Value) (h : Heap) (L : List Loc) : Prop := ∃ t : Addr, ∃ k : ClassId, vv = none ∧ Fr n0 L ∧ Keep h0 h [a1] ∧ Exa Z h a1 "java/lang/String" ∧ Fld Z h a1 "java/lang/String" "value" "[B" (.ref t) ∧ Fld Z h a1 "java/lang/String" "coder" "B" (.int 0) ∧ Arv Z h t k .byte (0 : Int32) [] (.int 0)
set_option maxRecDepth 65536 in
set_option maxHeartbeats 40000000 in
theorem rm_sV_0 (l : Launch) (Z : State) (a0 : Array Value) (hw : ∀ d ∈ tables_1, d.before a0 Z = true) (ws : List Jvm.Cond) (a1 : Addr) (v1 : Addr) (h0 : Heap) (n0 : Nat) (Z0 : n0 ≤ h0.size) (pr0 : Old Z n0 h0) (pr1 : Exa Z h0 a1 "java/lang/String") (pr2 : Fld Z h0 a1 "java/lang/String" "value" "[B" .null) (pr3 : Fld Z h0 a1 "java/lang/String" "coder" "B" (.int 0)) (pr4 : n0 ≤ a1) :
    MetS l Z own_EL (⟨"java/lang/String", "<init>", "([CIILjava/lang/Void;)V"⟩ : MethodName) jdk_42_method_149_code 6 none ws ({ frames := 1, cells := 2, slots := 4, locals := 12 } : Room) #[(.ref a1), (.ref v1), (.int 0), (.int 0), .null] h0 (Q_rm_sV_0 Z a1 v1 h0 n0) := by
  refine MetS.enter (f0 := fun m => mkF m 0 #[.val (.ref a1), .val (.ref v1), .val (.int 0), .val (.int 0), .val .null, .unset] []) (plainFor_of_name pn_java_lang_String) (fun m => ef_rm_sV_0 m a1 v1) ?_
  intro p e s m below meth c s₁ hx hby hml hown hnm hret hlk hZ X0 e0 hS C0
  have hown : s.vm.findClass "java/lang/String" = some m.cls := hown
  have hnm : meth.name = "<init>" := hnm
  have hml : c.maxLocals = 6 := hml
  have hby : c.code = jdk_42_method_149_code := hby
  have N0 := Fr.nil n0
  have hk : h0.size ≤ h0.size := Nat.le_refl _
  have hEL : EW Z a0 own_EL := own_hEL hw
  have wS : ∀ a ∈ Bundle.stringAtoms, a.before a0 Z = true := own_wS hw
  have Sf0_a1 : Safe Z own_EL s.vm h0 a1 := own_safe0 hZ.alike pr1 pr2
  refine Go.by (B := (s₁.setTop (mkF m 1 #[.val (.ref a1), .val (.ref v1), .val (.int 0), .val (.int 0), .val .null, .unset] [(.ref a1)]))) (fun _ k => XS.aloadN X0.here hx rfl (hb hby d4_0) rfl rfl k) ?_
  obtain ⟨T86, X86, e86, st86⟩ := initO X0 hx hZ hown (wd hw 21 rfl) (wd hw 22 rfl) (wd hw 23 rfl) e0 (g := (mkF m 1 #[.val (.ref a1), .val (.ref v1), .val (.int 0), .val (.int 0), .val .null, .unset] [(.ref a1)])) rfl (by rw [hml]; rfl) rfl (hb hby d4_1) (by decide) (W := 0) (by show 2 * 0 + _ ≤ _; exact Nat.le_of_eq rfl) (by decide)
  refine Go.by (B := (T86.setTop (mkF m 4 #[.val (.ref a1), .val (.ref v1), .val (.int 0), .val (.int 0), .val .null, .unset] []))) st86 ?_
  refine Go.by (B := (T86.setTop (mkF m 9 #[.val (.ref a1), .val (.ref v1), .val (.int 0), .val (.int 0), .val .null, .unset] [(.ref a1)]))) (fun _ k => XS.iloadN X86.here hx rfl (hb hby d4_4) rfl (XS.ifNo X86.here hx rfl (hb hby d4_5) rfl ((if0 _ _).trans (teq (by decide : (0 : Int32) = (0 : Int32))).2) (XS.aloadN X86.here hx rfl (hb hby d4_8) rfl rfl k))) ?_
  obtain ⟨la87, T87, h87, k187, lb87, kk87, X87, e87, E87, hS, hk, hZ, hown, EA87, FC87, FV87, VA87, -, -, CS87, LI87, SN87, st87⟩ := ldcCH (vs := []) (z := (0 : Int32)) X86 hx hZ hown (wd hw 24 rfl) wS e86 hS hk hEL (by decide) C0.1 ⟨by decide, by decide⟩ (by decide) rfl (g := (mkF m 9 #[.val (.ref a1), .val (.ref v1), .val (.int 0), .val (.int 0), .val .null, .unset] [(.ref a1)])) rfl (hb hby d4_9) (n := 0) (by decide) (by decide) (by decide) (by decide)
  have Sf88_a1 := CHr.safe CS87 pr1.lt Sf0_a1
  have C88 := C0.trans CS87
  have O88 := pr0.ext E87
  have Z88 : n0 ≤ h87.size := Nat.le_trans Z0 E87.1
  refine Go.by (B := (T87.setTop (mkF m 11 #[.val (.ref a1), .val (.ref v1), .val (.int 0), .val (.int 0), .val .null, .unset] [(.ref la87), (.ref a1)]))) st87 ?_
  obtain ⟨T89, X89, e89, st89⟩ := getF X87 hx hZ hown (host := "") (Or.inl (wd hw 30 rfl)) Via.refl e87 FV87 (g := (mkF m 11 #[.val (.ref a1), .val (.ref v1), .val (.int 0), .val (.int 0), .val .null, .unset] [(.ref la87), (.ref a1)])) rfl rfl (hb hby d4_11)
  refine Go.by (B := (T89.setTop (mkF m 14 #[.val (.ref a1), .val (.ref v1), .val (.int 0), .val (.int 0), .val .null, .unset] [(.ref lb87), (.ref a1)]))) st89 ?_
  obtain ⟨T90, h90, X90, e90, W90, st90⟩ := putF X89 hx hZ hown (host := "") (Or.inl (wd hw 30 rfl)) Via.refl e89 (pr2.ext E87) (pr1.ext E87) (Or.inr ⟨(wd hw 26 rfl), rfl, hnm⟩) (wd hw 11 rfl) (ty := (.array .byte)) (by decide) rfl rfl (g := (mkF m 14 #[.val (.ref a1), .val (.ref v1), .val (.int 0), .val (.int 0), .val .null, .unset] [(.ref lb87), (.ref a1)])) rfl rfl (hb hby d4_14)
  have N90 := Fr.snoc X90 N0 pr4
  have Sf91_a1 := Safe.wr W90 Sf88_a1 C88.1 Sf88_a1
  have C91 := C88.trans (CHr.wr W90 Sf88_a1 C88.1)
  have O91 := O88.wr W90 pr4
  have Z91 : n0 ≤ h90.size := Nat.le_trans Z88 (Keep.of_wr W90).1
  have F90 := (pr2.ext E87).same W90
  refine Go.by (B := (T90.setTop (mkF m 17 #[.val (.ref a1), .val (.ref v1), .val (.int 0), .val (.int 0), .val .null, .unset] []))) st90 ?_
  refine Go.by (B := (T90.setTop (mkF m 18 #[.val (.ref a1), .val (.ref v1), .val (.int 0), .val (.int 0), .val .null, .unset] [(.ref a1)]))) (fun _ k => XS.aloadN X90.here hx rfl (hb hby d4_17) rfl rfl k) ?_
  refine Go.by (B := (T90.setTop (mkF m 20 #[.val (.ref a1), .val (.ref v1), .val (.int 0), .val (.int 0), .val .null, .unset] [(.ref la87), (.ref a1)]))) (ldcAgain X90 hx hZ hown (wd hw 24 rfl) LI87 (g := (mkF m 18 #[.val (.ref a1), .val (.ref v1), .val (.int 0), .val (.int 0), .val .null, .unset] [(.ref a1)])) rfl (hb hby d4_18)) ?_
  have f92 := (FC87.other W90 (Or.inl (Ne.symm (SN87 _ Sf88_a1).1)))
  obtain ⟨T93, X93, e93, st93⟩ := getF X90 hx hZ hown (host := "") (Or.inl (wd hw 31 rfl)) Via.refl e90 f92 (g := (mkF m 20 #[.val (.ref a1), .val (.ref v1), .val (.int 0), .val (.int 0), .val .null, .unset] [(.ref la87), (.ref a1)])) rfl rfl (hb hby d4_20)
  refine Go.by (B := (T93.setTop (mkF m 23 #[.val (.ref a1), .val (.ref v1), .val (.int 0), .val (.int 0), .val .null, .unset] [(.int 0), (.ref a1)]))) st93 ?_
  have f94 := ((pr3.ext E87).other W90 (Or.inr (slot_ne (Or.inr (wd hw 27 rfl)) (Or.inr (wd hw 26 rfl)) (by decide) (t := .byte) (t' := (.array .byte)) (by decide) (by decide))))
  obtain ⟨T95, h95, X95, e95, W95, st95⟩ := putFN X93 hx hZ hown (wd hw 31 rfl) Via.refl e93 f94 ((pr1.ext E87).wr W90) (Or.inr ⟨(wd hw 27 rfl), rfl, hnm⟩) (wd hw 11 rfl) (ty := .byte) (v' := (.int 0)) (by decide) rfl rfl (g := (mkF m 23 #[.val (.ref a1), .val (.ref v1), .val (.int 0), .val (.int 0), .val .null, .unset] [(.int 0), (.ref a1)])) rfl rfl (hb hby d4_23)
  have N95 := Fr.snoc X95 N90 pr4
  have Sf96_a1 := Safe.wr W95 Sf91_a1 C91.1 Sf91_a1
  have C96 := C91.trans (CHr.wr W95 Sf91_a1 C91.1)
  have O96 := O91.wr W95 pr4
  have Z96 : n0 ≤ h95.size := Nat.le_trans Z91 (Keep.of_wr W95).1
  have F95 := f94.same W95
  refine Go.by (B := (T95.setTop (mkF m 26 #[.val (.ref a1), .val (.ref v1), .val (.int 0), .val (.int 0), .val .null, .unset] []))) st95 ?_
  have hkE97 : _ ≤ T95.heap.size := (by rw [e95]; exact (Nat.le_trans (Nat.le_trans hk (Keep.of_wr W90).1) (Keep.of_wr W95).1))
  have CE97 : CHr Z own_EL s.vm s.heap T87.vm T95.heap := (by rw [e95]; exact C96)
  refine Go.retVS X95 hx hlk hS hkE97 hZ hEL CE97 hret (hb hby d4_26) (by decide) (by decide) ?_
  rw [e95]
  exact ⟨lb87, kk87, rfl, N95, ((((Keep.refl h0 [a1]).ext E87).wr W90 (Or.inl (List.mem_of_getElem? (i := 0) rfl))).wr W95 (Or.inl (List.mem_of_getElem? (i := 0) rfl))), (((pr1.ext E87).wr W90).wr W95), (F90.other W95 (Or.inr (slot_ne (Or.inr (wd hw 26 rfl)) (Or.inr (wd hw 27 rfl)) (by decide) (t := (.array .byte)) (t' := .byte) (by decide) (by decide)))), F95, ((VA87.other W90 (Ne.symm (SN87 _ Sf88_a1).2)).other W95 (Ne.symm (SN87 _ Sf88_a1).2))⟩
theorem ef_rm_sC_0 (m : MethodId) (x0 : Addr) (x1 : Addr) : entryFrame m #[(.ref x0), (.ref x1)] 2 = mkF m 0 #[.val (.ref x0), .val (.ref x1)] [] := by first | (simp [entryFrame, mkF, argsToLocals, Value.category]; done) | rfl
def Q_rm_sC_0 (Z : State) (a1 : Addr) (v1 : Addr) (ka : ClassId) (h0 : Heap) (n0 : Nat) (vv : Option Value) (h : Heap) (L : List Loc) : Prop := ∃ t : Addr, ∃ k : ClassId, vv = none ∧ Fr n0 L ∧ Keep h0 h [a1] ∧ Exa Z h a1 "java/lang/String" ∧ Fld Z h a1 "java/lang/String" "value" "[B" (.ref t) ∧ Fld Z h a1 "java/lang/String" "coder" "B" (.int 0) ∧ Arv Z h t k .byte (0 : Int32) [] (.int 0)
set_option maxRecDepth 65536 in
set_option maxHeartbeats 40000000 in
theorem rm_sC_0 (l : Launch) (Z : State) (a0 : Array Value) (hw : ∀ d ∈ tables_1, d.before a0 Z = true) (ws : List Jvm.Cond) (a1 : Addr) (v1 : Addr) (ka : ClassId) (h0 : Heap) (n0 : Nat) (Z0 : n0 ≤ h0.size) (pr0 : Old Z n0 h0) (pr1 : Exa Z h0 a1 "java/lang/String") (pr2 : Fld Z h0 a1 "java/lang/String" "value" "[B" .null) (pr3 : Fld Z h0 a1 "java/lang/String" "coder" "B" (.int 0)) (pr4 : n0 ≤ a1) (pr5 : Arv Z h0 v1 ka .char (0 : Int32) [] (.int 0)) :
    MetS l Z own_EL (⟨"java/lang/String", "<init>", "([C)V"⟩ : MethodName) jdk_42_method_3_code 2 none ws ({ frames := 2, cells := 2, slots := 4, locals := 29 } : Room) #[(.ref a1), (.ref v1)] h0 (Q_rm_sC_0 Z a1 v1 ka h0 n0) := by
  refine MetS.enter (f0 := fun m => mkF m 0 #[.val (.ref a1), .val (.ref v1)] []) (plainFor_of_name pn_java_lang_String) (fun m => ef_rm_sC_0 m a1 v1) ?_
  intro p e s m below meth c s₁ hx hby hml hown hnm hret hlk hZ X0 e0 hS C0
  have hown : s.vm.findClass "java/lang/String" = some m.cls := hown
  have hnm : meth.name = "<init>" := hnm
  have hml : c.maxLocals = 2 := hml
  have hby : c.code = jdk_42_method_3_code := hby
  have N0 := Fr.nil n0
  have hk : h0.size ≤ h0.size := Nat.le_refl _
  have hEL : EW Z a0 own_EL := own_hEL hw
  have wS : ∀ a ∈ Bundle.stringAtoms, a.before a0 Z = true := own_wS hw
  refine Go.by (B := (s₁.setTop (mkF m 4 #[.val (.ref a1), .val (.ref v1)] [(.ref v1), (.int 0), (.ref v1), (.ref a1)]))) (fun _ k => XS.aloadN X0.here hx rfl (hb hby d3_0) rfl rfl (XS.aloadN X0.here hx rfl (hb hby d3_1) rfl rfl (XS.iconst X0.here hx rfl (hb hby d3_2) (XS.aloadN X0.here hx rfl (hb hby d3_3) rfl rfl k)))) ?_
  obtain ⟨cl98, Ar98, q98, S98, N_98, Hs98, G98⟩ := id pr5
  refine Go.by (B := (s₁.setTop (mkF m 5 #[.val (.ref a1), .val (.ref v1)] [(.int 0), (.int 0), (.ref v1), (.ref a1)]))) (fun _ k => X0.arraylength hx (by rw [e0]; exact Ar98.1) (State.isArrayOf_alike hZ.alike Ar98.2.1) (g := (mkF m 4 #[.val (.ref a1), .val (.ref v1)] [(.ref v1), (.int 0), (.ref v1), (.ref a1)])) rfl rfl (hb hby d3_4) _ (by rw [len_of S98 N_98]; exact k)) ?_
  refine Go.by (B := (s₁.setTop (mkF m 6 #[.val (.ref a1), .val (.ref v1)] [.null, (.int 0), (.int 0), (.ref v1), (.ref a1)]))) (fun _ k => XS.aconstNull X0.here hx rfl (hb hby d3_5) k) ?_
  have hkT99 : _ ≤ s₁.heap.size := (by rw [e0]; exact hk)
  obtain ⟨_, _, ⟨T99, L99, k99, n99⟩, -, X99, hSn99, hgr99, ⟨Lc99, hQ99, l99, y99, z99, CS99⟩, st99⟩ := X0.specialBackS hx (y := (⟨"java/lang/String", "<init>", "([CIILjava/lang/Void;)V"⟩ : MethodName)) rfl hown (mvT hZ (wd hw 17 rfl)) (mvT hZ (wd hw 18 rfl)) (mvT hZ (wd hw 20 rfl)) (by decide) (backOfSH (W := 0) (rm_sV_0 l Z a0 hw [] a1 v1 h0 n0 Z0 pr0 pr1 pr2 pr3 pr4) hZ (wd hw 20 rfl) (wd hw 12 rfl) (by decide) (by decide) hEL C0.1) (g := (mkF m 6 #[.val (.ref a1), .val (.ref v1)] [.null, (.int 0), (.int 0), (.ref v1), (.ref a1)])) rfl (by rw [hml]; rfl) (Steps.refl _) (a := a1) (argsL := [(.ref v1), (.int 0), (.int 0), .null]) (rest := []) (lenOf pd_3 rfl) rfl (by show 2 * 0 + _ ≤ _; exact Nat.le_of_eq rfl) (hb hby d3_6) (fun _ _ => ⟨rfl, e0, Nat.le_of_ble_eq_true rfl, Nat.le_of_ble_eq_true rfl⟩)
  dsimp only [Pt.U, Pt.locs, Pt.cells, Pt.slots] at X99 l99 y99 z99 st99 hQ99 hSn99 hgr99 CS99
  subst l99 y99 z99
  obtain ⟨X99, hS, hZ, hown⟩ := rebS hS hkT99 X99 hSn99 hgr99 hZ hown
  have hk : T99.heap.size ≤ T99.heap.size := Nat.le_refl _
  obtain ⟨t99, k99, rfl, Nq99, K99, p99_0, p99_1, p99_2, p99_3⟩ := hQ99
  have N99 := Fr.app N0 Nq99
  have C100 := C0.trans CS99
  have O100 := pr0.keep K99 (allS pr4 all0)
  have Z100 : n0 ≤ T99.heap.size := Nat.le_trans Z0 K99.1
  refine Go.by (B := (T99.setTop (mkF m 9 #[.val (.ref a1), .val (.ref v1)] []))) (fun _ k => st99.trans k) ?_
  have hkE101 : _ ≤ T99.heap.size := hk
  have CE101 : CHr Z own_EL s.vm s.heap T99.vm T99.heap := C100
  refine Go.retVS X99 hx hlk hS hkE101 hZ hEL CE101 hret (hb hby d3_9) (by decide) (by decide) ?_
  exact ⟨t99, k99, rfl, N99, ((Keep.refl h0 [a1]).trans K99 (allS (Or.inl (List.mem_of_getElem? (i := 0) rfl)) all0)), p99_0, p99_1, p99_2, p99_3⟩
theorem ef_rm_len (m : MethodId) (x0 : Int32) : entryFrame m #[(.int x0)] 1 = mkF m 0 #[.val (.int x0)] [] := by first | (simp [entryFrame, mkF, argsToLocals, Value.category]; done) | rfl
theorem d2_0 : decode method_2_code 0 = .ok (.iload_n 0, 1) := by decide +kernel
theorem d2_1 : decode method_2_code 1 = .ok (.iconst 3, 1) := by decide +kernel
theorem d2_2 : decode method_2_code 2 = .ok (.iand, 1) := by decide +kernel
theorem d2_3 : decode method_2_code 3 = .ok (.ireturn, 1) := by decide +kernel
theorem pn_com_example_breakwater_breakwater_engine_InstanceEqualsPinLaw : plainName "com/example/breakwater/breakwater/engine/InstanceEqualsPinLaw" = true := by first | (simp [plainName, overriddenIn]; done) | decide +kernel
def Q_rm_len (Z : State) (p1 : Int32) (h0 : Heap) (n0 : Nat) (vv : Option Value) (h : Heap) (L : List Loc) : Prop := vv = some (.int (p1 &&& (3 : Int32))) ∧ Fr n0 L ∧ h = h0
set_option maxRecDepth 65536 in
set_option maxHeartbeats 40000000 in
theorem rm_len (l : Launch) (Z : State) (a0 : Array Value) (hw : ∀ d ∈ tables_1, d.before a0 Z = true) (ws : List Jvm.Cond) (p1 : Int32) (h0 : Heap) (n0 : Nat) (Z0 : n0 ≤ h0.size) :
    Met l Z (⟨"com/example/breakwater/breakwater/engine/InstanceEqualsPinLaw", "len", "(I)I"⟩ : MethodName) method_2_code 1 (some .int) ws ({ frames := 0, cells := 0, slots := 0, locals := 0 } : Room) #[(.int p1)] h0 (Q_rm_len Z p1 h0 n0) := by
  refine Met.enter (f0 := fun m => mkF m 0 #[.val (.int p1)] []) (plainFor_of_name pn_com_example_breakwater_breakwater_engine_InstanceEqualsPinLaw) (fun m => ef_rm_len m p1) ?_
  intro p e s m below meth c s₁ hx hby hml hown hnm hret hlk hZ X0 e0
  have hown : s.vm.findClass "com/example/breakwater/breakwater/engine/InstanceEqualsPinLaw" = some m.cls := hown
  have hnm : meth.name = "len" := hnm
  have hml : c.maxLocals = 1 := hml
  have hby : c.code = method_2_code := hby
  have N0 := Fr.nil n0
  refine Go.by (B := (s₁.setTop (mkF m 3 #[.val (.int p1)] [(.int (p1 &&& (3 : Int32)))]))) (fun _ k => XS.iloadN X0.here hx rfl (hb hby d2_0) rfl (XS.iconst X0.here hx rfl (hb hby d2_1) (XS.iand X0.here hx rfl (hb hby d2_2) rfl k))) ?_
  refine Go.ret X0 hx hlk (t := .int) hret rfl (Or.inl ⟨rfl, by simp, _, rfl⟩) (hb hby d2_3) (by decide) (by decide) ?_
  rw [e0]
  exact ⟨rfl, N0, rfl⟩
theorem ef_rm_ch0 (m : MethodId) (x0 : Int32) : entryFrame m #[(.int x0), (.int 0)] 2 = mkF m 0 #[.val (.int x0), .val (.int 0)] [] := by first | (simp [entryFrame, mkF, argsToLocals, Value.category]; done) | rfl
theorem d6_0 : decode method_3_code 0 = .ok (.iload_n 0, 1) := by decide +kernel
theorem d6_1 : decode method_3_code 1 = .ok (.iconst 2, 1) := by decide +kernel
theorem d6_2 : decode method_3_code 2 = .ok (.bipush 8, 2) := by decide +kernel
theorem d6_4 : decode method_3_code 4 = .ok (.iload_n 1, 1) := by decide +kernel
theorem d6_5 : decode method_3_code 5 = .ok (.imul, 1) := by decide +kernel
theorem d6_6 : decode method_3_code 6 = .ok (.iadd, 1) := by decide +kernel
theorem d6_7 : decode method_3_code 7 = .ok (.iushr, 1) := by decide +kernel
theorem d6_8 : decode method_3_code 8 = .ok (.sipush 255, 3) := by decide +kernel
theorem d6_11 : decode method_3_code 11 = .ok (.iand, 1) := by decide +kernel
theorem d6_12 : decode method_3_code 12 = .ok (.i2c, 1) := by decide +kernel
theorem d6_13 : decode method_3_code 13 = .ok (.ireturn, 1) := by decide +kernel
def Q_rm_ch0 (Z : State) (p1 : Int32) (h0 : Heap) (n0 : Nat) (vv : Option Value) (h : Heap) (L : List Loc) : Prop := vv = some (.int (own_c p1 (2 : Int32))) ∧ Fr n0 L ∧ h = h0
set_option maxRecDepth 65536 in
set_option maxHeartbeats 40000000 in
theorem rm_ch0 (l : Launch) (Z : State) (a0 : Array Value) (hw : ∀ d ∈ tables_1, d.before a0 Z = true) (ws : List Jvm.Cond) (p1 : Int32) (h0 : Heap) (n0 : Nat) (Z0 : n0 ≤ h0.size) :
    Met l Z (⟨"com/example/breakwater/breakwater/engine/InstanceEqualsPinLaw", "ch", "(II)C"⟩ : MethodName) method_3_code 2 (some .char) ws ({ frames := 0, cells := 0, slots := 0, locals := 0 } : Room) #[(.int p1), (.int 0)] h0 (Q_rm_ch0 Z p1 h0 n0) := by
  refine Met.enter (f0 := fun m => mkF m 0 #[.val (.int p1), .val (.int 0)] []) (plainFor_of_name pn_com_example_breakwater_breakwater_engine_InstanceEqualsPinLaw) (fun m => ef_rm_ch0 m p1) ?_
  intro p e s m below meth c s₁ hx hby hml hown hnm hret hlk hZ X0 e0
  have hown : s.vm.findClass "com/example/breakwater/breakwater/engine/InstanceEqualsPinLaw" = some m.cls := hown
  have hnm : meth.name = "ch" := hnm
  have hml : c.maxLocals = 2 := hml
  have hby : c.code = method_3_code := hby
  have N0 := Fr.nil n0
  refine Go.by (B := (s₁.setTop (mkF m 11 #[.val (.int p1), .val (.int 0)] [(.int 255), (.int ((p1.toUInt32 >>> ((2 : Int32) &&& 31).toUInt32).toInt32))]))) (fun _ k => XS.iloadN X0.here hx rfl (hb hby d6_0) rfl (XS.iconst X0.here hx rfl (hb hby d6_1) (XS.bipush X0.here hx rfl (hb hby d6_2) (XS.iloadN X0.here hx rfl (hb hby d6_4) rfl (XS.imul X0.here hx rfl (hb hby d6_5) rfl (XS.iadd X0.here hx rfl (hb hby d6_6) rfl (XS.iushr X0.here hx rfl (hb hby d6_7) rfl (XS.sipush X0.here hx rfl (hb hby d6_8) k)))))))) ?_
  refine Go.by (B := (s₁.setTop (mkF m 13 #[.val (.int p1), .val (.int 0)] [(.int ((((p1.toUInt32 >>> ((2 : Int32) &&& 31).toUInt32).toInt32) &&& (255 : Int32)).toUInt32.toUInt16.toUInt32.toInt32))]))) (fun _ k => XS.iand X0.here hx rfl (hb hby d6_11) rfl (XS.i2c X0.here hx rfl (hb hby d6_12) rfl k)) ?_
  refine Go.retZ X0 hx hlk (t := .char) hret (by simp) (hb hby d6_13) (by decide) (by decide) ?_
  rw [e0]
  exact ⟨(congrArg (fun q => some (Value.int q)) (own_nar _)), N0, rfl⟩
theorem ef_rm_ch1 (m : MethodId) (x0 : Int32) : entryFrame m #[(.int x0), (.int 1)] 2 = mkF m 0 #[.val (.int x0), .val (.int 1)] [] := by first | (simp [entryFrame, mkF, argsToLocals, Value.category]; done) | rfl
def Q_rm_ch1 (Z : State) (p1 : Int32) (h0 : Heap) (n0 : Nat) (vv : Option Value) (h : Heap) (L : List Loc) : Prop := vv = some (.int (own_c p1 (10 : Int32))) ∧ Fr n0 L ∧ h = h0
set_option maxRecDepth 65536 in
set_option maxHeartbeats 40000000 in
theorem rm_ch1 (l : Launch) (Z : State) (a0 : Array Value) (hw : ∀ d ∈ tables_1, d.before a0 Z = true) (ws : List Jvm.Cond) (p1 : Int32) (h0 : Heap) (n0 : Nat) (Z0 : n0 ≤ h0.size) :
    Met l Z (⟨"com/example/breakwater/breakwater/engine/InstanceEqualsPinLaw", "ch", "(II)C"⟩ : MethodName) method_3_code 2 (some .char) ws ({ frames := 0, cells := 0, slots := 0, locals := 0 } : Room) #[(.int p1), (.int 1)] h0 (Q_rm_ch1 Z p1 h0 n0) := by
  refine Met.enter (f0 := fun m => mkF m 0 #[.val (.int p1), .val (.int 1)] []) (plainFor_of_name pn_com_example_breakwater_breakwater_engine_InstanceEqualsPinLaw) (fun m => ef_rm_ch1 m p1) ?_
  intro p e s m below meth c s₁ hx hby hml hown hnm hret hlk hZ X0 e0
  have hown : s.vm.findClass "com/example/breakwater/breakwater/engine/InstanceEqualsPinLaw" = some m.cls := hown
  have hnm : meth.name = "ch" := hnm
  have hml : c.maxLocals = 2 := hml
  have hby : c.code = method_3_code := hby
  have N0 := Fr.nil n0
  refine Go.by (B := (s₁.setTop (mkF m 11 #[.val (.int p1), .val (.int 1)] [(.int 255), (.int ((p1.toUInt32 >>> ((10 : Int32) &&& 31).toUInt32).toInt32))]))) (fun _ k => XS.iloadN X0.here hx rfl (hb hby d6_0) rfl (XS.iconst X0.here hx rfl (hb hby d6_1) (XS.bipush X0.here hx rfl (hb hby d6_2) (XS.iloadN X0.here hx rfl (hb hby d6_4) rfl (XS.imul X0.here hx rfl (hb hby d6_5) rfl (XS.iadd X0.here hx rfl (hb hby d6_6) rfl (XS.iushr X0.here hx rfl (hb hby d6_7) rfl (XS.sipush X0.here hx rfl (hb hby d6_8) k)))))))) ?_
  refine Go.by (B := (s₁.setTop (mkF m 13 #[.val (.int p1), .val (.int 1)] [(.int ((((p1.toUInt32 >>> ((10 : Int32) &&& 31).toUInt32).toInt32) &&& (255 : Int32)).toUInt32.toUInt16.toUInt32.toInt32))]))) (fun _ k => XS.iand X0.here hx rfl (hb hby d6_11) rfl (XS.i2c X0.here hx rfl (hb hby d6_12) rfl k)) ?_
  refine Go.retZ X0 hx hlk (t := .char) hret (by simp) (hb hby d6_13) (by decide) (by decide) ?_
  rw [e0]
  exact ⟨(congrArg (fun q => some (Value.int q)) (own_nar _)), N0, rfl⟩
theorem ef_rm_ch2 (m : MethodId) (x0 : Int32) : entryFrame m #[(.int x0), (.int 2)] 2 = mkF m 0 #[.val (.int x0), .val (.int 2)] [] := by first | (simp [entryFrame, mkF, argsToLocals, Value.category]; done) | rfl
def Q_rm_ch2 (Z : State) (p1 : Int32) (h0 : Heap) (n0 : Nat) (vv : Option Value) (h : Heap) (L : List Loc) : Prop := vv = some (.int (own_c p1 (18 : Int32))) ∧ Fr n0 L ∧ h = h0
set_option maxRecDepth 65536 in
set_option maxHeartbeats 40000000 in
theorem rm_ch2 (l : Launch) (Z : State) (a0 : Array Value) (hw : ∀ d ∈ tables_1, d.before a0 Z = true) (ws : List Jvm.Cond) (p1 : Int32) (h0 : Heap) (n0 : Nat) (Z0 : n0 ≤ h0.size) :
    Met l Z (⟨"com/example/breakwater/breakwater/engine/InstanceEqualsPinLaw", "ch", "(II)C"⟩ : MethodName) method_3_code 2 (some .char) ws ({ frames := 0, cells := 0, slots := 0, locals := 0 } : Room) #[(.int p1), (.int 2)] h0 (Q_rm_ch2 Z p1 h0 n0) := by
  refine Met.enter (f0 := fun m => mkF m 0 #[.val (.int p1), .val (.int 2)] []) (plainFor_of_name pn_com_example_breakwater_breakwater_engine_InstanceEqualsPinLaw) (fun m => ef_rm_ch2 m p1) ?_
  intro p e s m below meth c s₁ hx hby hml hown hnm hret hlk hZ X0 e0
  have hown : s.vm.findClass "com/example/breakwater/breakwater/engine/InstanceEqualsPinLaw" = some m.cls := hown
  have hnm : meth.name = "ch" := hnm
  have hml : c.maxLocals = 2 := hml
  have hby : c.code = method_3_code := hby
  have N0 := Fr.nil n0
  refine Go.by (B := (s₁.setTop (mkF m 11 #[.val (.int p1), .val (.int 2)] [(.int 255), (.int ((p1.toUInt32 >>> ((18 : Int32) &&& 31).toUInt32).toInt32))]))) (fun _ k => XS.iloadN X0.here hx rfl (hb hby d6_0) rfl (XS.iconst X0.here hx rfl (hb hby d6_1) (XS.bipush X0.here hx rfl (hb hby d6_2) (XS.iloadN X0.here hx rfl (hb hby d6_4) rfl (XS.imul X0.here hx rfl (hb hby d6_5) rfl (XS.iadd X0.here hx rfl (hb hby d6_6) rfl (XS.iushr X0.here hx rfl (hb hby d6_7) rfl (XS.sipush X0.here hx rfl (hb hby d6_8) k)))))))) ?_
  refine Go.by (B := (s₁.setTop (mkF m 13 #[.val (.int p1), .val (.int 2)] [(.int ((((p1.toUInt32 >>> ((18 : Int32) &&& 31).toUInt32).toInt32) &&& (255 : Int32)).toUInt32.toUInt16.toUInt32.toInt32))]))) (fun _ k => XS.iand X0.here hx rfl (hb hby d6_11) rfl (XS.i2c X0.here hx rfl (hb hby d6_12) rfl k)) ?_
  refine Go.retZ X0 hx hlk (t := .char) hret (by simp) (hb hby d6_13) (by decide) (by decide) ?_
  rw [e0]
  exact ⟨(congrArg (fun q => some (Value.int q)) (own_nar _)), N0, rfl⟩
theorem own_ok_c (p k : Int32) : ¬ (255 : Int32) < own_c p k := by
  have q := c_mask (p.toUInt32 >>> (k &&& 31).toUInt32).toInt32 255 8 (by decide) (by decide)
  have z : (255 : Int32).toInt = 255 := by decide
  rw [Int32.lt_iff_toInt_lt, z, own_c]
  omega

theorem ef_rm_str (m : MethodId) (x0 : Int32) : entryFrame m #[(.int x0)] 2 = mkF m 0 #[.val (.int x0), .unset] [] := by first | (simp [entryFrame, mkF, argsToLocals, Value.category]; done) | rfl
theorem d1_0 : decode method_4_code 0 = .ok (.iload_n 0, 1) := by decide +kernel
theorem d1_1 : decode method_4_code 1 = .ok (.invokestatic 7, 3) := by decide +kernel
theorem pd_4 : parseMethodDescriptor "(I)I" = some ⟨[.int], some .int⟩ := by decide +kernel
theorem d1_4 : decode method_4_code 4 = .ok (.istore_n 1, 1) := by decide +kernel
theorem d1_5 : decode method_4_code 5 = .ok (.iload_n 1, 1) := by decide +kernel
theorem d1_6 : decode method_4_code 6 = .ok (.ifCond .ne 14, 3) := by decide +kernel
theorem d1_9 : decode method_4_code 9 = .ok (.new 13, 3) := by decide +kernel
theorem d1_12 : decode method_4_code 12 = .ok (.dup, 1) := by decide +kernel
theorem d1_13 : decode method_4_code 13 = .ok (.iconst 0, 1) := by decide +kernel
theorem d1_14 : decode method_4_code 14 = .ok (.newarray .char, 2) := by decide +kernel
theorem d1_16 : decode method_4_code 16 = .ok (.invokespecial 15, 3) := by decide +kernel
theorem pd_5 : parseMethodDescriptor "([C)V" = some ⟨[(.array .char)], none⟩ := by decide +kernel
theorem d1_19 : decode method_4_code 19 = .ok (.areturn, 1) := by decide +kernel
theorem d1_20 : decode method_4_code 20 = .ok (.iload_n 1, 1) := by decide +kernel
theorem d1_21 : decode method_4_code 21 = .ok (.iconst 1, 1) := by decide +kernel
theorem d1_22 : decode method_4_code 22 = .ok (.if_icmp .ne 22, 3) := by decide +kernel
theorem d1_25 : decode method_4_code 25 = .ok (.new 13, 3) := by decide +kernel
theorem d1_28 : decode method_4_code 28 = .ok (.dup, 1) := by decide +kernel
theorem d1_29 : decode method_4_code 29 = .ok (.iconst 1, 1) := by decide +kernel
theorem d1_30 : decode method_4_code 30 = .ok (.newarray .char, 2) := by decide +kernel
theorem d1_32 : decode method_4_code 32 = .ok (.dup, 1) := by decide +kernel
theorem d1_33 : decode method_4_code 33 = .ok (.iconst 0, 1) := by decide +kernel
theorem d1_34 : decode method_4_code 34 = .ok (.iload_n 0, 1) := by decide +kernel
theorem d1_35 : decode method_4_code 35 = .ok (.iconst 0, 1) := by decide +kernel
theorem d1_36 : decode method_4_code 36 = .ok (.invokestatic 18, 3) := by decide +kernel
theorem pd_6 : parseMethodDescriptor "(II)C" = some ⟨[.int, .int], some .char⟩ := by decide +kernel
theorem d1_39 : decode method_4_code 39 = .ok (.castore, 1) := by decide +kernel
theorem d1_40 : decode method_4_code 40 = .ok (.invokespecial 15, 3) := by decide +kernel
theorem d1_43 : decode method_4_code 43 = .ok (.areturn, 1) := by decide +kernel
theorem d1_44 : decode method_4_code 44 = .ok (.iload_n 1, 1) := by decide +kernel
theorem d1_45 : decode method_4_code 45 = .ok (.iconst 2, 1) := by decide +kernel
theorem d1_46 : decode method_4_code 46 = .ok (.if_icmp .ne 30, 3) := by decide +kernel
theorem d1_49 : decode method_4_code 49 = .ok (.new 13, 3) := by decide +kernel
theorem d1_52 : decode method_4_code 52 = .ok (.dup, 1) := by decide +kernel
theorem d1_53 : decode method_4_code 53 = .ok (.iconst 2, 1) := by decide +kernel
theorem d1_54 : decode method_4_code 54 = .ok (.newarray .char, 2) := by decide +kernel
theorem d1_56 : decode method_4_code 56 = .ok (.dup, 1) := by decide +kernel
theorem d1_57 : decode method_4_code 57 = .ok (.iconst 0, 1) := by decide +kernel
theorem d1_58 : decode method_4_code 58 = .ok (.iload_n 0, 1) := by decide +kernel
theorem d1_59 : decode method_4_code 59 = .ok (.iconst 0, 1) := by decide +kernel
theorem d1_60 : decode method_4_code 60 = .ok (.invokestatic 18, 3) := by decide +kernel
theorem d1_63 : decode method_4_code 63 = .ok (.castore, 1) := by decide +kernel
theorem d1_64 : decode method_4_code 64 = .ok (.dup, 1) := by decide +kernel
theorem d1_65 : decode method_4_code 65 = .ok (.iconst 1, 1) := by decide +kernel
theorem d1_66 : decode method_4_code 66 = .ok (.iload_n 0, 1) := by decide +kernel
theorem d1_67 : decode method_4_code 67 = .ok (.iconst 1, 1) := by decide +kernel
theorem d1_68 : decode method_4_code 68 = .ok (.invokestatic 18, 3) := by decide +kernel
theorem d1_71 : decode method_4_code 71 = .ok (.castore, 1) := by decide +kernel
theorem d1_72 : decode method_4_code 72 = .ok (.invokespecial 15, 3) := by decide +kernel
theorem d1_75 : decode method_4_code 75 = .ok (.areturn, 1) := by decide +kernel
theorem d1_76 : decode method_4_code 76 = .ok (.new 13, 3) := by decide +kernel
theorem d1_79 : decode method_4_code 79 = .ok (.dup, 1) := by decide +kernel
theorem d1_80 : decode method_4_code 80 = .ok (.iconst 3, 1) := by decide +kernel
theorem d1_81 : decode method_4_code 81 = .ok (.newarray .char, 2) := by decide +kernel
theorem d1_83 : decode method_4_code 83 = .ok (.dup, 1) := by decide +kernel
theorem d1_84 : decode method_4_code 84 = .ok (.iconst 0, 1) := by decide +kernel
theorem d1_85 : decode method_4_code 85 = .ok (.iload_n 0, 1) := by decide +kernel
theorem d1_86 : decode method_4_code 86 = .ok (.iconst 0, 1) := by decide +kernel
theorem d1_87 : decode method_4_code 87 = .ok (.invokestatic 18, 3) := by decide +kernel
theorem d1_90 : decode method_4_code 90 = .ok (.castore, 1) := by decide +kernel
theorem d1_91 : decode method_4_code 91 = .ok (.dup, 1) := by decide +kernel
theorem d1_92 : decode method_4_code 92 = .ok (.iconst 1, 1) := by decide +kernel
theorem d1_93 : decode method_4_code 93 = .ok (.iload_n 0, 1) := by decide +kernel
theorem d1_94 : decode method_4_code 94 = .ok (.iconst 1, 1) := by decide +kernel
theorem d1_95 : decode method_4_code 95 = .ok (.invokestatic 18, 3) := by decide +kernel
theorem d1_98 : decode method_4_code 98 = .ok (.castore, 1) := by decide +kernel
theorem d1_99 : decode method_4_code 99 = .ok (.dup, 1) := by decide +kernel
theorem d1_100 : decode method_4_code 100 = .ok (.iconst 2, 1) := by decide +kernel
theorem d1_101 : decode method_4_code 101 = .ok (.iload_n 0, 1) := by decide +kernel
theorem d1_102 : decode method_4_code 102 = .ok (.iconst 2, 1) := by decide +kernel
theorem d1_103 : decode method_4_code 103 = .ok (.invokestatic 18, 3) := by decide +kernel
theorem d1_106 : decode method_4_code 106 = .ok (.castore, 1) := by decide +kernel
theorem d1_107 : decode method_4_code 107 = .ok (.invokespecial 15, 3) := by decide +kernel
theorem d1_110 : decode method_4_code 110 = .ok (.areturn, 1) := by decide +kernel
def Q_rm_str (Z : State) (p1 : Int32) (cs : Int32) (h0 : Heap) (n0 : Nat) (vv : Option Value) (h : Heap) (L : List Loc) : Prop := ∃ b : Addr, ∃ t : Addr, ∃ k : ClassId, vv = some (.ref b) ∧ Fr n0 L ∧ Keep h0 h [] ∧ Exa Z h b "java/lang/String" ∧ Fld Z h b "java/lang/String" "value" "[B" (.ref t) ∧ Fld Z h b "java/lang/String" "coder" "B" (.int 0) ∧ Arv Z h t k .byte (own_z (own_chars p1)) (own_vs (own_chars p1)) (.int 0) ∧ h0.size ≤ b
set_option maxRecDepth 65536 in
set_option maxHeartbeats 40000000 in
theorem rm_str (l : Launch) (Z : State) (a0 : Array Value) (hw : ∀ d ∈ tables_1, d.before a0 Z = true) (ws : List Jvm.Cond) (p1 : Int32) (cs : Int32) (h0 : Heap) (n0 : Nat) (Z0 : n0 ≤ h0.size) (pr0 : Old Z n0 h0) (pr1 : Sta Z Z.heap "java/lang/String" "COMPACT_STRINGS" "Z" (.int cs)) (hcs : ¬ (cs = (0 : Int32))) :
    MetS l Z own_EL (⟨"com/example/breakwater/breakwater/engine/InstanceEqualsPinLaw", "str", "(I)Ljava/lang/String;"⟩ : MethodName) method_4_code 2 (some (.object "java/lang/String")) ws ({ frames := 4, cells := 4, slots := 10, locals := 66 } : Room) #[(.int p1)] h0 (Q_rm_str Z p1 cs h0 n0) := by
  refine MetS.enter (f0 := fun m => mkF m 0 #[.val (.int p1), .unset] []) (plainFor_of_name pn_com_example_breakwater_breakwater_engine_InstanceEqualsPinLaw) (fun m => ef_rm_str m p1) ?_
  intro p e s m below meth c s₁ hx hby hml hown hnm hret hlk hZ X0 e0 hS C0
  have hown : s.vm.findClass "com/example/breakwater/breakwater/engine/InstanceEqualsPinLaw" = some m.cls := hown
  have hnm : meth.name = "str" := hnm
  have hml : c.maxLocals = 2 := hml
  have hby : c.code = method_4_code := hby
  have N0 := Fr.nil n0
  have hk : h0.size ≤ h0.size := Nat.le_refl _
  have hEL : EW Z a0 own_EL := own_hEL hw
  have wS : ∀ a ∈ Bundle.stringAtoms, a.before a0 Z = true := own_wS hw
  refine Go.by (B := (s₁.setTop (mkF m 1 #[.val (.int p1), .unset] [(.int p1)]))) (fun _ k => XS.iloadN X0.here hx rfl (hb hby d1_0) rfl k) ?_
  obtain ⟨_, _, ⟨T102, L102, k102, n102⟩, -, X102, ⟨Lc102, hQ102, l102, y102, z102⟩, st102⟩ := Jvm.LawKit.callS X0 hx (y := (⟨"com/example/breakwater/breakwater/engine/InstanceEqualsPinLaw", "len", "(I)I"⟩ : MethodName)) hown (mvT hZ (wd hw 7 rfl)) (mvT hZ (wd hw 8 rfl)) (mvT hZ (wd hw 5 rfl)) (mvT hZ (wd hw 9 rfl)) (by decide) (backOf (W := 0) (rm_len l Z a0 hw [] p1 h0 n0 Z0 ) hZ (wd hw 9 rfl) (wd hw 5 rfl) (by decide) (by decide)) (g := (mkF m 1 #[.val (.int p1), .unset] [(.int p1)])) rfl (by rw [hml]; rfl) (argsL := [(.int p1)]) (rest := []) (lenOf pd_4 rfl) rfl (by show 2 * 0 + _ ≤ _; exact Nat.le_of_eq rfl) (hb hby d1_1) (fun _ _ => ⟨rfl, e0, Nat.le_of_ble_eq_true rfl, Nat.le_of_ble_eq_true rfl⟩)
  dsimp only [Pt.U, Pt.locs, Pt.cells, Pt.slots] at X102 l102 y102 z102 st102 hQ102
  subst l102 y102 z102
  obtain ⟨rfl, Nq102, hh102⟩ := hQ102
  have N102 := Fr.app N0 Nq102
  refine Go.by (B := (T102.setTop (mkF m 4 #[.val (.int p1), .unset] [(.int (p1 &&& (3 : Int32)))]))) (fun _ k => st102 _ k) ?_
  obtain ⟨v103, hv103⟩ : ∃ v, v = (p1 &&& (3 : Int32)) := ⟨_, rfl⟩
  refine Go.by (B := (T102.setTop (mkF m 6 #[.val (.int p1), .val (.int v103)] [(.int v103)]))) (fun _ k => XS.istoreN (x := v103) (rest := []) X102.here hx rfl (hb hby d1_4) (by rw [hv103]) (l' := #[.val (.int p1), .val (.int v103)]) rfl (XS.iloadN X102.here hx rfl (hb hby d1_5) rfl k)) ?_
  by_cases c104 : v103 = (0 : Int32)
  · skip
    refine Go.by (B := (T102.setTop (mkF m 9 #[.val (.int p1), .val (.int v103)] []))) (fun _ k => XS.ifNo X102.here hx rfl (hb hby d1_6) rfl ((if0 _ _).trans (teq c104).2) k) ?_
    obtain ⟨T105, h105, X105, e105, E105, A105, D105, -, st105⟩ := newO X102 hx hZ hown (wd hw 10 rfl) (wd hw 11 rfl) (wd hw 12 rfl) hh102 (g := (mkF m 9 #[.val (.int p1), .val (.int v103)] [])) rfl (hb hby d1_9) (by decide) (by decide)
    obtain ⟨b105, g105⟩ : ∃ z, z = h0.size := ⟨_, rfl⟩
    rw [← g105] at A105 D105 st105
    have sz_b105 : h0.size ≤ b105 := Nat.le_of_eq g105.symm
    have C106 := C0.trans (CHr.ext E105 C0.1)
    have O106 := pr0.ext E105
    have Z106 : n0 ≤ h105.size := Nat.le_trans Z0 E105.1
    have Sf107_b105 : Safe Z own_EL s.vm h105 b105 := Safe.ext E105 C0.1 (Safe.new sz_b105)
    have F108 : Fld Z h105 b105 "java/lang/String" "value" "[B" .null := D105 (Or.inr (wd hw 26 rfl)) (ty := (.array .byte)) (by decide)
    have F109 : Fld Z h105 b105 "java/lang/String" "coder" "B" (.int 0) := D105 (Or.inr (wd hw 27 rfl)) (ty := .byte) (by decide)
    refine Go.by (B := (T105.setTop (mkF m 12 #[.val (.int p1), .val (.int v103)] [(.ref b105)]))) st105 ?_
    refine Go.by (B := (T105.setTop (mkF m 14 #[.val (.int p1), .val (.int v103)] [(.int 0), (.ref b105), (.ref b105)]))) (fun _ k => XS.dup X105.here hx rfl (hb hby d1_12) rfl rfl (XS.iconst X105.here hx rfl (hb hby d1_13) k)) ?_
    obtain ⟨T110, h110, k110, X110, e110, E110, A110, st110⟩ := newP X105 hx hZ (wd hw 13 rfl) e105 (g := (mkF m 14 #[.val (.int p1), .val (.int v103)] [(.int 0), (.ref b105), (.ref b105)])) rfl (hb hby d1_14) rfl (by decide) (cap := 0) (by decide) (by decide) (by decide) (by decide)
    obtain ⟨b110, g110⟩ : ∃ z, z = h105.size := ⟨_, rfl⟩
    rw [← g110] at A110 st110
    have sz_b110 : h105.size ≤ b110 := Nat.le_of_eq g110.symm
    have V110 : Arv Z h110 b110 k110 .char (0 : Int32) [] (.int 0) := (Arv.new A110 (by decide)).pad (pad_rep [] (.int 0) 0)
    have Sf111_b105 := Safe.ext E110 C106.1 Sf107_b105
    have C111 := C106.trans (CHr.ext E110 C106.1)
    have O111 := O106.ext E110
    have Z111 : n0 ≤ h110.size := Nat.le_trans Z106 E110.1
    refine Go.by (B := (T110.setTop (mkF m 16 #[.val (.int p1), .val (.int v103)] [(.ref b110), (.ref b105), (.ref b105)]))) st110 ?_
    have hkT112 : _ ≤ T110.heap.size := (by rw [e110]; exact (Nat.le_trans (Nat.le_trans hk E105.1) E110.1))
    obtain ⟨_, _, ⟨T112, L112, k112, n112⟩, -, X112, hSn112, hgr112, ⟨Lc112, hQ112, l112, y112, z112, CS112⟩, st112⟩ := X110.specialBackS hx (y := (⟨"java/lang/String", "<init>", "([C)V"⟩ : MethodName)) rfl hown (mvT hZ (wd hw 14 rfl)) (mvT hZ (wd hw 15 rfl)) (mvT hZ (wd hw 16 rfl)) (by decide) (backOfSH (W := 1) (rm_sC_0 l Z a0 hw [] b105 b110 k110 h110 n0 Z111 O111 (A105.ext E110) (F108.ext E110) (F109.ext E110) (Nat.le_trans Z0 sz_b105) V110) hZ (wd hw 16 rfl) (wd hw 12 rfl) (by decide) (by decide) hEL C111.1) (g := (mkF m 16 #[.val (.int p1), .val (.int v103)] [(.ref b110), (.ref b105), (.ref b105)])) rfl (by rw [hml]; rfl) (Steps.refl _) (a := b105) (argsL := [(.ref b110)]) (rest := [(.ref b105)]) (lenOf pd_5 rfl) rfl (by show 2 * 0 + _ ≤ _; exact Nat.le_of_eq rfl) (hb hby d1_16) (fun _ _ => ⟨rfl, e110, Nat.le_of_ble_eq_true rfl, Nat.le_of_ble_eq_true rfl⟩)
    dsimp only [Pt.U, Pt.locs, Pt.cells, Pt.slots] at X112 l112 y112 z112 st112 hQ112 hSn112 hgr112 CS112
    subst l112 y112 z112
    obtain ⟨X112, hS, hZ, hown⟩ := rebS hS hkT112 X112 hSn112 hgr112 hZ hown
    have hk : T112.heap.size ≤ T112.heap.size := Nat.le_refl _
    obtain ⟨t112, k112, rfl, Nq112, K112, p112_0, p112_1, p112_2, p112_3⟩ := hQ112
    have N112 := Fr.app N102 Nq112
    have Sf113_b105 := CHr.safe CS112 (A105.ext E110).lt Sf111_b105
    have C113 := C111.trans CS112
    have O113 := O111.keep K112 (allS (Nat.le_trans Z0 sz_b105) all0)
    have Z113 : n0 ≤ T112.heap.size := Nat.le_trans Z111 K112.1
    refine Go.by (B := (T112.setTop (mkF m 19 #[.val (.int p1), .val (.int v103)] [(.ref b105)]))) (fun _ k => st112.trans k) ?_
    have hkE114 : _ ≤ T112.heap.size := hk
    have CE114 : CHr Z own_EL s.vm s.heap T112.vm T112.heap := C113
    refine Go.retS X112 hx hlk hS hkE114 hZ hEL CE114 (t := (.object "java/lang/String")) hret rfl (Or.inr (Or.inr (Or.inr (Or.inr ⟨rfl, rfl, rfl⟩)))) (hb hby d1_19) (by decide) (by decide) ?_
    have ec115 : own_chars p1 = [own_c p1 2, own_c p1 10, own_c p1 18].take 0 := own_chz hv103 _ (by rw [(c104)]; rfl)
    have V115 : Arv Z T112.heap t112 k112 .byte (own_z (own_chars p1)) (own_vs (own_chars p1)) (.int 0) := by
      rw [ec115]
      have q := p112_3
      exact q
    exact ⟨b105, t112, k112, rfl, N112, ((((Keep.refl h0 []).ext E105).ext E110).trans K112 (allS (Or.inr (Nat.le_trans (Nat.le_refl _) sz_b105)) all0)), p112_0, p112_1, p112_2, V115, (Nat.le_trans (Nat.le_refl _) sz_b105)⟩
  · skip
    refine Go.by (B := (T102.setTop (mkF m 22 #[.val (.int p1), .val (.int v103)] [(.int 1), (.int v103)]))) (fun _ k => XS.ifYes X102.here hx rfl (pc0 := 6) (pc' := 20) rfl (hb hby d1_6) rfl ((if0 _ _).trans (feq c104).2) (by decide) (by decide) (XS.iloadN X102.here hx rfl (hb hby d1_20) rfl (XS.iconst X102.here hx rfl (hb hby d1_21) k))) ?_
    by_cases c116 : v103 = (1 : Int32)
    · skip
      refine Go.by (B := (T102.setTop (mkF m 25 #[.val (.int p1), .val (.int v103)] []))) (fun _ k => XS.icmpNo X102.here hx rfl (hb hby d1_22) rfl (teq c116).2 k) ?_
      obtain ⟨T117, h117, X117, e117, E117, A117, D117, -, st117⟩ := newO X102 hx hZ hown (wd hw 10 rfl) (wd hw 11 rfl) (wd hw 12 rfl) hh102 (g := (mkF m 25 #[.val (.int p1), .val (.int v103)] [])) rfl (hb hby d1_25) (by decide) (by decide)
      obtain ⟨b117, g117⟩ : ∃ z, z = h0.size := ⟨_, rfl⟩
      rw [← g117] at A117 D117 st117
      have sz_b117 : h0.size ≤ b117 := Nat.le_of_eq g117.symm
      have C118 := C0.trans (CHr.ext E117 C0.1)
      have O118 := pr0.ext E117
      have Z118 : n0 ≤ h117.size := Nat.le_trans Z0 E117.1
      have Sf119_b117 : Safe Z own_EL s.vm h117 b117 := Safe.ext E117 C0.1 (Safe.new sz_b117)
      have F120 : Fld Z h117 b117 "java/lang/String" "value" "[B" .null := D117 (Or.inr (wd hw 26 rfl)) (ty := (.array .byte)) (by decide)
      have F121 : Fld Z h117 b117 "java/lang/String" "coder" "B" (.int 0) := D117 (Or.inr (wd hw 27 rfl)) (ty := .byte) (by decide)
      refine Go.by (B := (T117.setTop (mkF m 28 #[.val (.int p1), .val (.int v103)] [(.ref b117)]))) st117 ?_
      refine Go.by (B := (T117.setTop (mkF m 30 #[.val (.int p1), .val (.int v103)] [(.int 1), (.ref b117), (.ref b117)]))) (fun _ k => XS.dup X117.here hx rfl (hb hby d1_28) rfl rfl (XS.iconst X117.here hx rfl (hb hby d1_29) k)) ?_
      obtain ⟨T122, h122, k122, X122, e122, E122, A122, st122⟩ := newP X117 hx hZ (wd hw 13 rfl) e117 (g := (mkF m 30 #[.val (.int p1), .val (.int v103)] [(.int 1), (.ref b117), (.ref b117)])) rfl (hb hby d1_30) rfl (by decide) (cap := 1) (by decide) (by decide) (by decide) (by decide)
      obtain ⟨b122, g122⟩ : ∃ z, z = h117.size := ⟨_, rfl⟩
      rw [← g122] at A122 st122
      have sz_b122 : h117.size ≤ b122 := Nat.le_of_eq g122.symm
      have V122 : Arv Z h122 b122 k122 .char (1 : Int32) [(.int 0)] (.int 0) := (Arv.new A122 (by decide)).pad (pad_rep [] (.int 0) 1)
      have Sf123_b117 := Safe.ext E122 C118.1 Sf119_b117
      have C123 := C118.trans (CHr.ext E122 C118.1)
      have O123 := O118.ext E122
      have Z123 : n0 ≤ h122.size := Nat.le_trans Z118 E122.1
      refine Go.by (B := (T122.setTop (mkF m 32 #[.val (.int p1), .val (.int v103)] [(.ref b122), (.ref b117), (.ref b117)]))) st122 ?_
      refine Go.by (B := (T122.setTop (mkF m 36 #[.val (.int p1), .val (.int v103)] [(.int 0), (.int p1), (.int 0), (.ref b122), (.ref b122), (.ref b117), (.ref b117)]))) (fun _ k => XS.dup X122.here hx rfl (hb hby d1_32) rfl rfl (XS.iconst X122.here hx rfl (hb hby d1_33) (XS.iloadN X122.here hx rfl (hb hby d1_34) rfl (XS.iconst X122.here hx rfl (hb hby d1_35) k)))) ?_
      obtain ⟨_, _, ⟨T124, L124, k124, n124⟩, -, X124, ⟨Lc124, hQ124, l124, y124, z124⟩, st124⟩ := Jvm.LawKit.callS X122 hx (y := (⟨"com/example/breakwater/breakwater/engine/InstanceEqualsPinLaw", "ch", "(II)C"⟩ : MethodName)) hown (mvT hZ (wd hw 32 rfl)) (mvT hZ (wd hw 33 rfl)) (mvT hZ (wd hw 5 rfl)) (mvT hZ (wd hw 34 rfl)) (by decide) (backOf (W := 5) (rm_ch0 l Z a0 hw [] p1 h122 n0 Z123 ) hZ (wd hw 34 rfl) (wd hw 5 rfl) (by decide) (by decide)) (g := (mkF m 36 #[.val (.int p1), .val (.int v103)] [(.int 0), (.int p1), (.int 0), (.ref b122), (.ref b122), (.ref b117), (.ref b117)])) rfl (by rw [hml]; rfl) (argsL := [(.int p1), (.int 0)]) (rest := [(.int 0), (.ref b122), (.ref b122), (.ref b117), (.ref b117)]) (lenOf pd_6 rfl) rfl (by show 2 * 0 + _ ≤ _; exact Nat.le_of_eq rfl) (hb hby d1_36) (fun _ _ => ⟨rfl, e122, Nat.le_of_ble_eq_true rfl, Nat.le_of_ble_eq_true rfl⟩)
      dsimp only [Pt.U, Pt.locs, Pt.cells, Pt.slots] at X124 l124 y124 z124 st124 hQ124
      subst l124 y124 z124
      obtain ⟨rfl, Nq124, hh124⟩ := hQ124
      have N124 := Fr.app N102 Nq124
      refine Go.by (B := (T124.setTop (mkF m 39 #[.val (.int p1), .val (.int v103)] [(.int (own_c p1 (2 : Int32))), (.int 0), (.ref b122), (.ref b122), (.ref b117), (.ref b117)]))) (fun _ k => st124 _ k) ?_
      obtain ⟨cl125, Ar125, q125, S125, N_125, Hs125, G125⟩ := id V122
      have hin126 : ¬ ((0 : Int32) < 0 ∨ cl125.slots.size ≤ ((0 : Int32)).toNatClampNeg) := inb_of S125 ⟨by decide, by decide⟩
      obtain ⟨T126, h126, X126, e126, W126, st126⟩ := stC X124 hx hZ hh124 Ar125 (j := (0 : Int32)) hin126 (g := (mkF m 39 #[.val (.int p1), .val (.int v103)] [(.int (own_c p1 (2 : Int32))), (.int 0), (.ref b122), (.ref b122), (.ref b117), (.ref b117)])) rfl rfl (hb hby d1_39)
      have Sf127_b117 := Safe.wr W126 (Safe.arv hZ.alike V122 nofun) C123.1 Sf123_b117
      have C127 := C123.trans (CHr.wr W126 (Safe.arv hZ.alike V122 nofun) C123.1)
      have O127 := O123.wr W126 (Nat.le_trans Z118 sz_b122)
      have Z127 : n0 ≤ h126.size := Nat.le_trans Z123 (Keep.of_wr W126).1
      have V126 : Arv Z h126 b122 k122 .char (1 : Int32) [(.int (nar .char (own_c p1 (2 : Int32))))] (.int 0) := Arv.set Ar125 q125 S125 N_125 Hs125 G125 (fits_nar_char _) W126 0 rfl (Nat.le_of_ble_eq_true rfl)
      have N126 := Fr.snoc X126 N124 (Nat.le_trans Z118 sz_b122)
      refine Go.by (B := (T126.setTop (mkF m 40 #[.val (.int p1), .val (.int v103)] [(.ref b122), (.ref b117), (.ref b117)]))) st126 ?_
      have f128 := ((F120.ext E122).other W126 (Or.inl (Nat.ne_of_lt (Nat.lt_of_lt_of_le A117.lt sz_b122))))
      have f129 := ((F121.ext E122).other W126 (Or.inl (Nat.ne_of_lt (Nat.lt_of_lt_of_le A117.lt sz_b122))))
      obtain ⟨_, _, ⟨T130, L130, k130, n130⟩, -, X130, ⟨Lc130, hQ130, l130, y130, z130⟩, st130⟩ := X126.specialBack hx (y := (⟨"java/lang/String", "<init>", "([C)V"⟩ : MethodName)) rfl hown (mvT hZ (wd hw 14 rfl)) (mvT hZ (wd hw 15 rfl)) (mvT hZ (wd hw 16 rfl)) (by decide) (backOf (W := 1) (rm_sC_1 l Z a0 hw [] b117 b122 k122 (nar .char (own_c p1 (2 : Int32))) cs h126 n0 Z127 O127 pr1 hcs ((A117.ext E122).wr W126) f128 f129 (Nat.le_trans Z0 sz_b117) V126 (by rw [own_cn]; exact (own_ok_c _ _))) hZ (wd hw 16 rfl) (wd hw 12 rfl) (by decide) (by decide)) (g := (mkF m 40 #[.val (.int p1), .val (.int v103)] [(.ref b122), (.ref b117), (.ref b117)])) rfl (by rw [hml]; rfl) (Steps.refl _) (a := b117) (argsL := [(.ref b122)]) (rest := [(.ref b117)]) (lenOf pd_5 rfl) rfl (by show 2 * 0 + _ ≤ _; exact Nat.le_of_eq rfl) (hb hby d1_40) (fun _ _ => ⟨rfl, e126, Nat.le_of_ble_eq_true rfl, Nat.le_of_ble_eq_true rfl⟩)
      dsimp only [Pt.U, Pt.locs, Pt.cells, Pt.slots] at X130 l130 y130 z130 st130 hQ130
      subst l130 y130 z130
      obtain ⟨t130, k130, rfl, Nq130, K130, p130_0, p130_1, p130_2, p130_3, p130_4⟩ := hQ130
      have N130 := Fr.app N126 Nq130
      have Sf131_b117 := Safe.keep K130 (sfS Sf127_b117 sf0) C127.1 Sf127_b117
      have C131 := C127.trans (CHr.keep K130 (sfS Sf127_b117 sf0) C127.1)
      have O131 := O127.keep K130 (allS (Nat.le_trans Z0 sz_b117) all0)
      have Z131 : n0 ≤ T130.heap.size := Nat.le_trans Z127 K130.1
      have sz_t130 : h126.size ≤ t130 := p130_4
      refine Go.by (B := (T130.setTop (mkF m 43 #[.val (.int p1), .val (.int v103)] [(.ref b117)]))) (fun _ k => st130.trans k) ?_
      have hkE132 : _ ≤ T130.heap.size := (Nat.le_trans (Nat.le_trans (Nat.le_trans (Nat.le_trans hk E117.1) E122.1) (Keep.of_wr W126).1) K130.1)
      have CE132 : CHr Z own_EL s.vm s.heap s.vm T130.heap := C131
      refine Go.retS X130 hx hlk hS hkE132 hZ hEL CE132 (t := (.object "java/lang/String")) hret rfl (Or.inr (Or.inr (Or.inr (Or.inr ⟨rfl, rfl, rfl⟩)))) (hb hby d1_43) (by decide) (by decide) ?_
      have ec133 : own_chars p1 = [own_c p1 2, own_c p1 10, own_c p1 18].take 1 := own_chz hv103 _ (by rw [(c116)]; rfl)
      have V133 : Arv Z T130.heap t130 k130 .byte (own_z (own_chars p1)) (own_vs (own_chars p1)) (.int 0) := by
        rw [ec133]
        have q := p130_3
        simp only [own_cb] at q
        exact q
      exact ⟨b117, t130, k130, rfl, N130, (((((Keep.refl h0 []).ext E117).ext E122).wr W126 (Or.inr (Nat.le_trans (Nat.le_trans (Nat.le_refl _) E117.1) sz_b122))).trans K130 (allS (Or.inr (Nat.le_trans (Nat.le_refl _) sz_b117)) all0)), p130_0, p130_1, p130_2, V133, (Nat.le_trans (Nat.le_refl _) sz_b117)⟩
    · skip
      refine Go.by (B := (T102.setTop (mkF m 46 #[.val (.int p1), .val (.int v103)] [(.int 2), (.int v103)]))) (fun _ k => XS.icmpYes X102.here hx rfl (pc0 := 22) (pc' := 44) rfl (hb hby d1_22) rfl (feq c116).2 (by decide) (by decide) (XS.iloadN X102.here hx rfl (hb hby d1_44) rfl (XS.iconst X102.here hx rfl (hb hby d1_45) k))) ?_
      by_cases c134 : v103 = (2 : Int32)
      · skip
        refine Go.by (B := (T102.setTop (mkF m 49 #[.val (.int p1), .val (.int v103)] []))) (fun _ k => XS.icmpNo X102.here hx rfl (hb hby d1_46) rfl (teq c134).2 k) ?_
        obtain ⟨T135, h135, X135, e135, E135, A135, D135, -, st135⟩ := newO X102 hx hZ hown (wd hw 10 rfl) (wd hw 11 rfl) (wd hw 12 rfl) hh102 (g := (mkF m 49 #[.val (.int p1), .val (.int v103)] [])) rfl (hb hby d1_49) (by decide) (by decide)
        obtain ⟨b135, g135⟩ : ∃ z, z = h0.size := ⟨_, rfl⟩
        rw [← g135] at A135 D135 st135
        have sz_b135 : h0.size ≤ b135 := Nat.le_of_eq g135.symm
        have C136 := C0.trans (CHr.ext E135 C0.1)
        have O136 := pr0.ext E135
        have Z136 : n0 ≤ h135.size := Nat.le_trans Z0 E135.1
        have Sf137_b135 : Safe Z own_EL s.vm h135 b135 := Safe.ext E135 C0.1 (Safe.new sz_b135)
        have F138 : Fld Z h135 b135 "java/lang/String" "value" "[B" .null := D135 (Or.inr (wd hw 26 rfl)) (ty := (.array .byte)) (by decide)
        have F139 : Fld Z h135 b135 "java/lang/String" "coder" "B" (.int 0) := D135 (Or.inr (wd hw 27 rfl)) (ty := .byte) (by decide)
        refine Go.by (B := (T135.setTop (mkF m 52 #[.val (.int p1), .val (.int v103)] [(.ref b135)]))) st135 ?_
        refine Go.by (B := (T135.setTop (mkF m 54 #[.val (.int p1), .val (.int v103)] [(.int 2), (.ref b135), (.ref b135)]))) (fun _ k => XS.dup X135.here hx rfl (hb hby d1_52) rfl rfl (XS.iconst X135.here hx rfl (hb hby d1_53) k)) ?_
        obtain ⟨T140, h140, k140, X140, e140, E140, A140, st140⟩ := newP X135 hx hZ (wd hw 13 rfl) e135 (g := (mkF m 54 #[.val (.int p1), .val (.int v103)] [(.int 2), (.ref b135), (.ref b135)])) rfl (hb hby d1_54) rfl (by decide) (cap := 2) (by decide) (by decide) (by decide) (by decide)
        obtain ⟨b140, g140⟩ : ∃ z, z = h135.size := ⟨_, rfl⟩
        rw [← g140] at A140 st140
        have sz_b140 : h135.size ≤ b140 := Nat.le_of_eq g140.symm
        have V140 : Arv Z h140 b140 k140 .char (2 : Int32) [(.int 0), (.int 0)] (.int 0) := (Arv.new A140 (by decide)).pad (pad_rep [] (.int 0) 2)
        have Sf141_b135 := Safe.ext E140 C136.1 Sf137_b135
        have C141 := C136.trans (CHr.ext E140 C136.1)
        have O141 := O136.ext E140
        have Z141 : n0 ≤ h140.size := Nat.le_trans Z136 E140.1
        refine Go.by (B := (T140.setTop (mkF m 56 #[.val (.int p1), .val (.int v103)] [(.ref b140), (.ref b135), (.ref b135)]))) st140 ?_
        refine Go.by (B := (T140.setTop (mkF m 60 #[.val (.int p1), .val (.int v103)] [(.int 0), (.int p1), (.int 0), (.ref b140), (.ref b140), (.ref b135), (.ref b135)]))) (fun _ k => XS.dup X140.here hx rfl (hb hby d1_56) rfl rfl (XS.iconst X140.here hx rfl (hb hby d1_57) (XS.iloadN X140.here hx rfl (hb hby d1_58) rfl (XS.iconst X140.here hx rfl (hb hby d1_59) k)))) ?_
        obtain ⟨_, _, ⟨T142, L142, k142, n142⟩, -, X142, ⟨Lc142, hQ142, l142, y142, z142⟩, st142⟩ := Jvm.LawKit.callS X140 hx (y := (⟨"com/example/breakwater/breakwater/engine/InstanceEqualsPinLaw", "ch", "(II)C"⟩ : MethodName)) hown (mvT hZ (wd hw 32 rfl)) (mvT hZ (wd hw 33 rfl)) (mvT hZ (wd hw 5 rfl)) (mvT hZ (wd hw 34 rfl)) (by decide) (backOf (W := 5) (rm_ch0 l Z a0 hw [] p1 h140 n0 Z141 ) hZ (wd hw 34 rfl) (wd hw 5 rfl) (by decide) (by decide)) (g := (mkF m 60 #[.val (.int p1), .val (.int v103)] [(.int 0), (.int p1), (.int 0), (.ref b140), (.ref b140), (.ref b135), (.ref b135)])) rfl (by rw [hml]; rfl) (argsL := [(.int p1), (.int 0)]) (rest := [(.int 0), (.ref b140), (.ref b140), (.ref b135), (.ref b135)]) (lenOf pd_6 rfl) rfl (by show 2 * 0 + _ ≤ _; exact Nat.le_of_eq rfl) (hb hby d1_60) (fun _ _ => ⟨rfl, e140, Nat.le_of_ble_eq_true rfl, Nat.le_of_ble_eq_true rfl⟩)
        dsimp only [Pt.U, Pt.locs, Pt.cells, Pt.slots] at X142 l142 y142 z142 st142 hQ142
        subst l142 y142 z142
        obtain ⟨rfl, Nq142, hh142⟩ := hQ142
        have N142 := Fr.app N102 Nq142
        refine Go.by (B := (T142.setTop (mkF m 63 #[.val (.int p1), .val (.int v103)] [(.int (own_c p1 (2 : Int32))), (.int 0), (.ref b140), (.ref b140), (.ref b135), (.ref b135)]))) (fun _ k => st142 _ k) ?_
        obtain ⟨cl143, Ar143, q143, S143, N_143, Hs143, G143⟩ := id V140
        have hin144 : ¬ ((0 : Int32) < 0 ∨ cl143.slots.size ≤ ((0 : Int32)).toNatClampNeg) := inb_of S143 ⟨by decide, by decide⟩
        obtain ⟨T144, h144, X144, e144, W144, st144⟩ := stC X142 hx hZ hh142 Ar143 (j := (0 : Int32)) hin144 (g := (mkF m 63 #[.val (.int p1), .val (.int v103)] [(.int (own_c p1 (2 : Int32))), (.int 0), (.ref b140), (.ref b140), (.ref b135), (.ref b135)])) rfl rfl (hb hby d1_63)
        have Sf145_b135 := Safe.wr W144 (Safe.arv hZ.alike V140 nofun) C141.1 Sf141_b135
        have C145 := C141.trans (CHr.wr W144 (Safe.arv hZ.alike V140 nofun) C141.1)
        have O145 := O141.wr W144 (Nat.le_trans Z136 sz_b140)
        have Z145 : n0 ≤ h144.size := Nat.le_trans Z141 (Keep.of_wr W144).1
        have V144 : Arv Z h144 b140 k140 .char (2 : Int32) [(.int (nar .char (own_c p1 (2 : Int32)))), (.int 0)] (.int 0) := Arv.set Ar143 q143 S143 N_143 Hs143 G143 (fits_nar_char _) W144 0 rfl (Nat.le_of_ble_eq_true rfl)
        have N144 := Fr.snoc X144 N142 (Nat.le_trans Z136 sz_b140)
        refine Go.by (B := (T144.setTop (mkF m 64 #[.val (.int p1), .val (.int v103)] [(.ref b140), (.ref b135), (.ref b135)]))) st144 ?_
        refine Go.by (B := (T144.setTop (mkF m 68 #[.val (.int p1), .val (.int v103)] [(.int 1), (.int p1), (.int 1), (.ref b140), (.ref b140), (.ref b135), (.ref b135)]))) (fun _ k => XS.dup X144.here hx rfl (hb hby d1_64) rfl rfl (XS.iconst X144.here hx rfl (hb hby d1_65) (XS.iloadN X144.here hx rfl (hb hby d1_66) rfl (XS.iconst X144.here hx rfl (hb hby d1_67) k)))) ?_
        obtain ⟨_, _, ⟨T146, L146, k146, n146⟩, -, X146, ⟨Lc146, hQ146, l146, y146, z146⟩, st146⟩ := Jvm.LawKit.callS X144 hx (y := (⟨"com/example/breakwater/breakwater/engine/InstanceEqualsPinLaw", "ch", "(II)C"⟩ : MethodName)) hown (mvT hZ (wd hw 32 rfl)) (mvT hZ (wd hw 33 rfl)) (mvT hZ (wd hw 5 rfl)) (mvT hZ (wd hw 34 rfl)) (by decide) (backOf (W := 5) (rm_ch1 l Z a0 hw [] p1 h144 n0 Z145 ) hZ (wd hw 34 rfl) (wd hw 5 rfl) (by decide) (by decide)) (g := (mkF m 68 #[.val (.int p1), .val (.int v103)] [(.int 1), (.int p1), (.int 1), (.ref b140), (.ref b140), (.ref b135), (.ref b135)])) rfl (by rw [hml]; rfl) (argsL := [(.int p1), (.int 1)]) (rest := [(.int 1), (.ref b140), (.ref b140), (.ref b135), (.ref b135)]) (lenOf pd_6 rfl) rfl (by show 2 * 0 + _ ≤ _; exact Nat.le_of_eq rfl) (hb hby d1_68) (fun _ _ => ⟨rfl, e144, Nat.le_of_ble_eq_true rfl, Nat.le_of_ble_eq_true rfl⟩)
        dsimp only [Pt.U, Pt.locs, Pt.cells, Pt.slots] at X146 l146 y146 z146 st146 hQ146
        subst l146 y146 z146
        obtain ⟨rfl, Nq146, hh146⟩ := hQ146
        have N146 := Fr.app N144 Nq146
        refine Go.by (B := (T146.setTop (mkF m 71 #[.val (.int p1), .val (.int v103)] [(.int (own_c p1 (10 : Int32))), (.int 1), (.ref b140), (.ref b140), (.ref b135), (.ref b135)]))) (fun _ k => st146 _ k) ?_
        obtain ⟨cl147, Ar147, q147, S147, N_147, Hs147, G147⟩ := id V144
        have hin148 : ¬ ((1 : Int32) < 0 ∨ cl147.slots.size ≤ ((1 : Int32)).toNatClampNeg) := inb_of S147 ⟨by decide, by decide⟩
        obtain ⟨T148, h148, X148, e148, W148, st148⟩ := stC X146 hx hZ hh146 Ar147 (j := (1 : Int32)) hin148 (g := (mkF m 71 #[.val (.int p1), .val (.int v103)] [(.int (own_c p1 (10 : Int32))), (.int 1), (.ref b140), (.ref b140), (.ref b135), (.ref b135)])) rfl rfl (hb hby d1_71)
        have Sf149_b135 := Safe.wr W148 (Safe.arv hZ.alike V144 nofun) C145.1 Sf145_b135
        have C149 := C145.trans (CHr.wr W148 (Safe.arv hZ.alike V144 nofun) C145.1)
        have O149 := O145.wr W148 (Nat.le_trans Z136 sz_b140)
        have Z149 : n0 ≤ h148.size := Nat.le_trans Z145 (Keep.of_wr W148).1
        have V148 : Arv Z h148 b140 k140 .char (2 : Int32) [(.int (nar .char (own_c p1 (2 : Int32)))), (.int (nar .char (own_c p1 (10 : Int32))))] (.int 0) := Arv.set Ar147 q147 S147 N_147 Hs147 G147 (fits_nar_char _) W148 1 rfl (Nat.le_of_ble_eq_true rfl)
        have N148 := Fr.snoc X148 N146 (Nat.le_trans Z136 sz_b140)
        refine Go.by (B := (T148.setTop (mkF m 72 #[.val (.int p1), .val (.int v103)] [(.ref b140), (.ref b135), (.ref b135)]))) st148 ?_
        have f150 := (((A135.ext E140).wr W144).wr W148)
        have f151 := (((F138.ext E140).other W144 (Or.inl (Nat.ne_of_lt (Nat.lt_of_lt_of_le A135.lt sz_b140)))).other W148 (Or.inl (Nat.ne_of_lt (Nat.lt_of_lt_of_le A135.lt sz_b140))))
        have f152 := (((F139.ext E140).other W144 (Or.inl (Nat.ne_of_lt (Nat.lt_of_lt_of_le A135.lt sz_b140)))).other W148 (Or.inl (Nat.ne_of_lt (Nat.lt_of_lt_of_le A135.lt sz_b140))))
        obtain ⟨_, _, ⟨T153, L153, k153, n153⟩, -, X153, ⟨Lc153, hQ153, l153, y153, z153⟩, st153⟩ := X148.specialBack hx (y := (⟨"java/lang/String", "<init>", "([C)V"⟩ : MethodName)) rfl hown (mvT hZ (wd hw 14 rfl)) (mvT hZ (wd hw 15 rfl)) (mvT hZ (wd hw 16 rfl)) (by decide) (backOf (W := 1) (rm_sC_2 l Z a0 hw [] b135 b140 k140 (nar .char (own_c p1 (2 : Int32))) (nar .char (own_c p1 (10 : Int32))) cs h148 n0 Z149 O149 pr1 hcs f150 f151 f152 (Nat.le_trans Z0 sz_b135) V148 (by rw [own_cn]; exact (own_ok_c _ _)) (by rw [own_cn]; exact (own_ok_c _ _))) hZ (wd hw 16 rfl) (wd hw 12 rfl) (by decide) (by decide)) (g := (mkF m 72 #[.val (.int p1), .val (.int v103)] [(.ref b140), (.ref b135), (.ref b135)])) rfl (by rw [hml]; rfl) (Steps.refl _) (a := b135) (argsL := [(.ref b140)]) (rest := [(.ref b135)]) (lenOf pd_5 rfl) rfl (by show 2 * 0 + _ ≤ _; exact Nat.le_of_eq rfl) (hb hby d1_72) (fun _ _ => ⟨rfl, e148, Nat.le_of_ble_eq_true rfl, Nat.le_of_ble_eq_true rfl⟩)
        dsimp only [Pt.U, Pt.locs, Pt.cells, Pt.slots] at X153 l153 y153 z153 st153 hQ153
        subst l153 y153 z153
        obtain ⟨t153, k153, rfl, Nq153, K153, p153_0, p153_1, p153_2, p153_3, p153_4⟩ := hQ153
        have N153 := Fr.app N148 Nq153
        have Sf154_b135 := Safe.keep K153 (sfS Sf149_b135 sf0) C149.1 Sf149_b135
        have C154 := C149.trans (CHr.keep K153 (sfS Sf149_b135 sf0) C149.1)
        have O154 := O149.keep K153 (allS (Nat.le_trans Z0 sz_b135) all0)
        have Z154 : n0 ≤ T153.heap.size := Nat.le_trans Z149 K153.1
        have sz_t153 : h148.size ≤ t153 := p153_4
        refine Go.by (B := (T153.setTop (mkF m 75 #[.val (.int p1), .val (.int v103)] [(.ref b135)]))) (fun _ k => st153.trans k) ?_
        have hkE155 : _ ≤ T153.heap.size := (Nat.le_trans (Nat.le_trans (Nat.le_trans (Nat.le_trans (Nat.le_trans hk E135.1) E140.1) (Keep.of_wr W144).1) (Keep.of_wr W148).1) K153.1)
        have CE155 : CHr Z own_EL s.vm s.heap s.vm T153.heap := C154
        refine Go.retS X153 hx hlk hS hkE155 hZ hEL CE155 (t := (.object "java/lang/String")) hret rfl (Or.inr (Or.inr (Or.inr (Or.inr ⟨rfl, rfl, rfl⟩)))) (hb hby d1_75) (by decide) (by decide) ?_
        have ec156 : own_chars p1 = [own_c p1 2, own_c p1 10, own_c p1 18].take 2 := own_chz hv103 _ (by rw [(c134)]; rfl)
        have V156 : Arv Z T153.heap t153 k153 .byte (own_z (own_chars p1)) (own_vs (own_chars p1)) (.int 0) := by
          rw [ec156]
          have q := p153_3
          simp only [own_cb] at q
          exact q
        exact ⟨b135, t153, k153, rfl, N153, ((((((Keep.refl h0 []).ext E135).ext E140).wr W144 (Or.inr (Nat.le_trans (Nat.le_trans (Nat.le_refl _) E135.1) sz_b140))).wr W148 (Or.inr (Nat.le_trans (Nat.le_trans (Nat.le_refl _) E135.1) sz_b140))).trans K153 (allS (Or.inr (Nat.le_trans (Nat.le_refl _) sz_b135)) all0)), p153_0, p153_1, p153_2, V156, (Nat.le_trans (Nat.le_refl _) sz_b135)⟩
      · skip
        refine Go.by (B := (T102.setTop (mkF m 76 #[.val (.int p1), .val (.int v103)] []))) (fun _ k => XS.icmpYes X102.here hx rfl (pc0 := 46) (pc' := 76) rfl (hb hby d1_46) rfl (feq c134).2 (by decide) (by decide) k) ?_
        obtain ⟨T157, h157, X157, e157, E157, A157, D157, -, st157⟩ := newO X102 hx hZ hown (wd hw 10 rfl) (wd hw 11 rfl) (wd hw 12 rfl) hh102 (g := (mkF m 76 #[.val (.int p1), .val (.int v103)] [])) rfl (hb hby d1_76) (by decide) (by decide)
        obtain ⟨b157, g157⟩ : ∃ z, z = h0.size := ⟨_, rfl⟩
        rw [← g157] at A157 D157 st157
        have sz_b157 : h0.size ≤ b157 := Nat.le_of_eq g157.symm
        have C158 := C0.trans (CHr.ext E157 C0.1)
        have O158 := pr0.ext E157
        have Z158 : n0 ≤ h157.size := Nat.le_trans Z0 E157.1
        have Sf159_b157 : Safe Z own_EL s.vm h157 b157 := Safe.ext E157 C0.1 (Safe.new sz_b157)
        have F160 : Fld Z h157 b157 "java/lang/String" "value" "[B" .null := D157 (Or.inr (wd hw 26 rfl)) (ty := (.array .byte)) (by decide)
        have F161 : Fld Z h157 b157 "java/lang/String" "coder" "B" (.int 0) := D157 (Or.inr (wd hw 27 rfl)) (ty := .byte) (by decide)
        refine Go.by (B := (T157.setTop (mkF m 79 #[.val (.int p1), .val (.int v103)] [(.ref b157)]))) st157 ?_
        refine Go.by (B := (T157.setTop (mkF m 81 #[.val (.int p1), .val (.int v103)] [(.int 3), (.ref b157), (.ref b157)]))) (fun _ k => XS.dup X157.here hx rfl (hb hby d1_79) rfl rfl (XS.iconst X157.here hx rfl (hb hby d1_80) k)) ?_
        obtain ⟨T162, h162, k162, X162, e162, E162, A162, st162⟩ := newP X157 hx hZ (wd hw 13 rfl) e157 (g := (mkF m 81 #[.val (.int p1), .val (.int v103)] [(.int 3), (.ref b157), (.ref b157)])) rfl (hb hby d1_81) rfl (by decide) (cap := 3) (by decide) (by decide) (by decide) (by decide)
        obtain ⟨b162, g162⟩ : ∃ z, z = h157.size := ⟨_, rfl⟩
        rw [← g162] at A162 st162
        have sz_b162 : h157.size ≤ b162 := Nat.le_of_eq g162.symm
        have V162 : Arv Z h162 b162 k162 .char (3 : Int32) [(.int 0), (.int 0), (.int 0)] (.int 0) := (Arv.new A162 (by decide)).pad (pad_rep [] (.int 0) 3)
        have Sf163_b157 := Safe.ext E162 C158.1 Sf159_b157
        have C163 := C158.trans (CHr.ext E162 C158.1)
        have O163 := O158.ext E162
        have Z163 : n0 ≤ h162.size := Nat.le_trans Z158 E162.1
        refine Go.by (B := (T162.setTop (mkF m 83 #[.val (.int p1), .val (.int v103)] [(.ref b162), (.ref b157), (.ref b157)]))) st162 ?_
        refine Go.by (B := (T162.setTop (mkF m 87 #[.val (.int p1), .val (.int v103)] [(.int 0), (.int p1), (.int 0), (.ref b162), (.ref b162), (.ref b157), (.ref b157)]))) (fun _ k => XS.dup X162.here hx rfl (hb hby d1_83) rfl rfl (XS.iconst X162.here hx rfl (hb hby d1_84) (XS.iloadN X162.here hx rfl (hb hby d1_85) rfl (XS.iconst X162.here hx rfl (hb hby d1_86) k)))) ?_
        obtain ⟨_, _, ⟨T164, L164, k164, n164⟩, -, X164, ⟨Lc164, hQ164, l164, y164, z164⟩, st164⟩ := Jvm.LawKit.callS X162 hx (y := (⟨"com/example/breakwater/breakwater/engine/InstanceEqualsPinLaw", "ch", "(II)C"⟩ : MethodName)) hown (mvT hZ (wd hw 32 rfl)) (mvT hZ (wd hw 33 rfl)) (mvT hZ (wd hw 5 rfl)) (mvT hZ (wd hw 34 rfl)) (by decide) (backOf (W := 5) (rm_ch0 l Z a0 hw [] p1 h162 n0 Z163 ) hZ (wd hw 34 rfl) (wd hw 5 rfl) (by decide) (by decide)) (g := (mkF m 87 #[.val (.int p1), .val (.int v103)] [(.int 0), (.int p1), (.int 0), (.ref b162), (.ref b162), (.ref b157), (.ref b157)])) rfl (by rw [hml]; rfl) (argsL := [(.int p1), (.int 0)]) (rest := [(.int 0), (.ref b162), (.ref b162), (.ref b157), (.ref b157)]) (lenOf pd_6 rfl) rfl (by show 2 * 0 + _ ≤ _; exact Nat.le_of_eq rfl) (hb hby d1_87) (fun _ _ => ⟨rfl, e162, Nat.le_of_ble_eq_true rfl, Nat.le_of_ble_eq_true rfl⟩)
        dsimp only [Pt.U, Pt.locs, Pt.cells, Pt.slots] at X164 l164 y164 z164 st164 hQ164
        subst l164 y164 z164
        obtain ⟨rfl, Nq164, hh164⟩ := hQ164
        have N164 := Fr.app N102 Nq164
        refine Go.by (B := (T164.setTop (mkF m 90 #[.val (.int p1), .val (.int v103)] [(.int (own_c p1 (2 : Int32))), (.int 0), (.ref b162), (.ref b162), (.ref b157), (.ref b157)]))) (fun _ k => st164 _ k) ?_
        obtain ⟨cl165, Ar165, q165, S165, N_165, Hs165, G165⟩ := id V162
        have hin166 : ¬ ((0 : Int32) < 0 ∨ cl165.slots.size ≤ ((0 : Int32)).toNatClampNeg) := inb_of S165 ⟨by decide, by decide⟩
        obtain ⟨T166, h166, X166, e166, W166, st166⟩ := stC X164 hx hZ hh164 Ar165 (j := (0 : Int32)) hin166 (g := (mkF m 90 #[.val (.int p1), .val (.int v103)] [(.int (own_c p1 (2 : Int32))), (.int 0), (.ref b162), (.ref b162), (.ref b157), (.ref b157)])) rfl rfl (hb hby d1_90)
        have Sf167_b157 := Safe.wr W166 (Safe.arv hZ.alike V162 nofun) C163.1 Sf163_b157
        have C167 := C163.trans (CHr.wr W166 (Safe.arv hZ.alike V162 nofun) C163.1)
        have O167 := O163.wr W166 (Nat.le_trans Z158 sz_b162)
        have Z167 : n0 ≤ h166.size := Nat.le_trans Z163 (Keep.of_wr W166).1
        have V166 : Arv Z h166 b162 k162 .char (3 : Int32) [(.int (nar .char (own_c p1 (2 : Int32)))), (.int 0), (.int 0)] (.int 0) := Arv.set Ar165 q165 S165 N_165 Hs165 G165 (fits_nar_char _) W166 0 rfl (Nat.le_of_ble_eq_true rfl)
        have N166 := Fr.snoc X166 N164 (Nat.le_trans Z158 sz_b162)
        refine Go.by (B := (T166.setTop (mkF m 91 #[.val (.int p1), .val (.int v103)] [(.ref b162), (.ref b157), (.ref b157)]))) st166 ?_
        refine Go.by (B := (T166.setTop (mkF m 95 #[.val (.int p1), .val (.int v103)] [(.int 1), (.int p1), (.int 1), (.ref b162), (.ref b162), (.ref b157), (.ref b157)]))) (fun _ k => XS.dup X166.here hx rfl (hb hby d1_91) rfl rfl (XS.iconst X166.here hx rfl (hb hby d1_92) (XS.iloadN X166.here hx rfl (hb hby d1_93) rfl (XS.iconst X166.here hx rfl (hb hby d1_94) k)))) ?_
        obtain ⟨_, _, ⟨T168, L168, k168, n168⟩, -, X168, ⟨Lc168, hQ168, l168, y168, z168⟩, st168⟩ := Jvm.LawKit.callS X166 hx (y := (⟨"com/example/breakwater/breakwater/engine/InstanceEqualsPinLaw", "ch", "(II)C"⟩ : MethodName)) hown (mvT hZ (wd hw 32 rfl)) (mvT hZ (wd hw 33 rfl)) (mvT hZ (wd hw 5 rfl)) (mvT hZ (wd hw 34 rfl)) (by decide) (backOf (W := 5) (rm_ch1 l Z a0 hw [] p1 h166 n0 Z167 ) hZ (wd hw 34 rfl) (wd hw 5 rfl) (by decide) (by decide)) (g := (mkF m 95 #[.val (.int p1), .val (.int v103)] [(.int 1), (.int p1), (.int 1), (.ref b162), (.ref b162), (.ref b157), (.ref b157)])) rfl (by rw [hml]; rfl) (argsL := [(.int p1), (.int 1)]) (rest := [(.int 1), (.ref b162), (.ref b162), (.ref b157), (.ref b157)]) (lenOf pd_6 rfl) rfl (by show 2 * 0 + _ ≤ _; exact Nat.le_of_eq rfl) (hb hby d1_95) (fun _ _ => ⟨rfl, e166, Nat.le_of_ble_eq_true rfl, Nat.le_of_ble_eq_true rfl⟩)
        dsimp only [Pt.U, Pt.locs, Pt.cells, Pt.slots] at X168 l168 y168 z168 st168 hQ168
        subst l168 y168 z168
        obtain ⟨rfl, Nq168, hh168⟩ := hQ168
        have N168 := Fr.app N166 Nq168
        refine Go.by (B := (T168.setTop (mkF m 98 #[.val (.int p1), .val (.int v103)] [(.int (own_c p1 (10 : Int32))), (.int 1), (.ref b162), (.ref b162), (.ref b157), (.ref b157)]))) (fun _ k => st168 _ k) ?_
        obtain ⟨cl169, Ar169, q169, S169, N_169, Hs169, G169⟩ := id V166
        have hin170 : ¬ ((1 : Int32) < 0 ∨ cl169.slots.size ≤ ((1 : Int32)).toNatClampNeg) := inb_of S169 ⟨by decide, by decide⟩
        obtain ⟨T170, h170, X170, e170, W170, st170⟩ := stC X168 hx hZ hh168 Ar169 (j := (1 : Int32)) hin170 (g := (mkF m 98 #[.val (.int p1), .val (.int v103)] [(.int (own_c p1 (10 : Int32))), (.int 1), (.ref b162), (.ref b162), (.ref b157), (.ref b157)])) rfl rfl (hb hby d1_98)
        have Sf171_b157 := Safe.wr W170 (Safe.arv hZ.alike V166 nofun) C167.1 Sf167_b157
        have C171 := C167.trans (CHr.wr W170 (Safe.arv hZ.alike V166 nofun) C167.1)
        have O171 := O167.wr W170 (Nat.le_trans Z158 sz_b162)
        have Z171 : n0 ≤ h170.size := Nat.le_trans Z167 (Keep.of_wr W170).1
        have V170 : Arv Z h170 b162 k162 .char (3 : Int32) [(.int (nar .char (own_c p1 (2 : Int32)))), (.int (nar .char (own_c p1 (10 : Int32)))), (.int 0)] (.int 0) := Arv.set Ar169 q169 S169 N_169 Hs169 G169 (fits_nar_char _) W170 1 rfl (Nat.le_of_ble_eq_true rfl)
        have N170 := Fr.snoc X170 N168 (Nat.le_trans Z158 sz_b162)
        refine Go.by (B := (T170.setTop (mkF m 99 #[.val (.int p1), .val (.int v103)] [(.ref b162), (.ref b157), (.ref b157)]))) st170 ?_
        refine Go.by (B := (T170.setTop (mkF m 103 #[.val (.int p1), .val (.int v103)] [(.int 2), (.int p1), (.int 2), (.ref b162), (.ref b162), (.ref b157), (.ref b157)]))) (fun _ k => XS.dup X170.here hx rfl (hb hby d1_99) rfl rfl (XS.iconst X170.here hx rfl (hb hby d1_100) (XS.iloadN X170.here hx rfl (hb hby d1_101) rfl (XS.iconst X170.here hx rfl (hb hby d1_102) k)))) ?_
        obtain ⟨_, _, ⟨T172, L172, k172, n172⟩, -, X172, ⟨Lc172, hQ172, l172, y172, z172⟩, st172⟩ := Jvm.LawKit.callS X170 hx (y := (⟨"com/example/breakwater/breakwater/engine/InstanceEqualsPinLaw", "ch", "(II)C"⟩ : MethodName)) hown (mvT hZ (wd hw 32 rfl)) (mvT hZ (wd hw 33 rfl)) (mvT hZ (wd hw 5 rfl)) (mvT hZ (wd hw 34 rfl)) (by decide) (backOf (W := 5) (rm_ch2 l Z a0 hw [] p1 h170 n0 Z171 ) hZ (wd hw 34 rfl) (wd hw 5 rfl) (by decide) (by decide)) (g := (mkF m 103 #[.val (.int p1), .val (.int v103)] [(.int 2), (.int p1), (.int 2), (.ref b162), (.ref b162), (.ref b157), (.ref b157)])) rfl (by rw [hml]; rfl) (argsL := [(.int p1), (.int 2)]) (rest := [(.int 2), (.ref b162), (.ref b162), (.ref b157), (.ref b157)]) (lenOf pd_6 rfl) rfl (by show 2 * 0 + _ ≤ _; exact Nat.le_of_eq rfl) (hb hby d1_103) (fun _ _ => ⟨rfl, e170, Nat.le_of_ble_eq_true rfl, Nat.le_of_ble_eq_true rfl⟩)
        dsimp only [Pt.U, Pt.locs, Pt.cells, Pt.slots] at X172 l172 y172 z172 st172 hQ172
        subst l172 y172 z172
        obtain ⟨rfl, Nq172, hh172⟩ := hQ172
        have N172 := Fr.app N170 Nq172
        refine Go.by (B := (T172.setTop (mkF m 106 #[.val (.int p1), .val (.int v103)] [(.int (own_c p1 (18 : Int32))), (.int 2), (.ref b162), (.ref b162), (.ref b157), (.ref b157)]))) (fun _ k => st172 _ k) ?_
        obtain ⟨cl173, Ar173, q173, S173, N_173, Hs173, G173⟩ := id V170
        have hin174 : ¬ ((2 : Int32) < 0 ∨ cl173.slots.size ≤ ((2 : Int32)).toNatClampNeg) := inb_of S173 ⟨by decide, by decide⟩
        obtain ⟨T174, h174, X174, e174, W174, st174⟩ := stC X172 hx hZ hh172 Ar173 (j := (2 : Int32)) hin174 (g := (mkF m 106 #[.val (.int p1), .val (.int v103)] [(.int (own_c p1 (18 : Int32))), (.int 2), (.ref b162), (.ref b162), (.ref b157), (.ref b157)])) rfl rfl (hb hby d1_106)
        have Sf175_b157 := Safe.wr W174 (Safe.arv hZ.alike V170 nofun) C171.1 Sf171_b157
        have C175 := C171.trans (CHr.wr W174 (Safe.arv hZ.alike V170 nofun) C171.1)
        have O175 := O171.wr W174 (Nat.le_trans Z158 sz_b162)
        have Z175 : n0 ≤ h174.size := Nat.le_trans Z171 (Keep.of_wr W174).1
        have V174 : Arv Z h174 b162 k162 .char (3 : Int32) [(.int (nar .char (own_c p1 (2 : Int32)))), (.int (nar .char (own_c p1 (10 : Int32)))), (.int (nar .char (own_c p1 (18 : Int32))))] (.int 0) := Arv.set Ar173 q173 S173 N_173 Hs173 G173 (fits_nar_char _) W174 2 rfl (Nat.le_of_ble_eq_true rfl)
        have N174 := Fr.snoc X174 N172 (Nat.le_trans Z158 sz_b162)
        refine Go.by (B := (T174.setTop (mkF m 107 #[.val (.int p1), .val (.int v103)] [(.ref b162), (.ref b157), (.ref b157)]))) st174 ?_
        have f176 := ((((A157.ext E162).wr W166).wr W170).wr W174)
        have f177 := ((((F160.ext E162).other W166 (Or.inl (Nat.ne_of_lt (Nat.lt_of_lt_of_le A157.lt sz_b162)))).other W170 (Or.inl (Nat.ne_of_lt (Nat.lt_of_lt_of_le A157.lt sz_b162)))).other W174 (Or.inl (Nat.ne_of_lt (Nat.lt_of_lt_of_le A157.lt sz_b162))))
        have f178 := ((((F161.ext E162).other W166 (Or.inl (Nat.ne_of_lt (Nat.lt_of_lt_of_le A157.lt sz_b162)))).other W170 (Or.inl (Nat.ne_of_lt (Nat.lt_of_lt_of_le A157.lt sz_b162)))).other W174 (Or.inl (Nat.ne_of_lt (Nat.lt_of_lt_of_le A157.lt sz_b162))))
        obtain ⟨_, _, ⟨T179, L179, k179, n179⟩, -, X179, ⟨Lc179, hQ179, l179, y179, z179⟩, st179⟩ := X174.specialBack hx (y := (⟨"java/lang/String", "<init>", "([C)V"⟩ : MethodName)) rfl hown (mvT hZ (wd hw 14 rfl)) (mvT hZ (wd hw 15 rfl)) (mvT hZ (wd hw 16 rfl)) (by decide) (backOf (W := 1) (rm_sC_3 l Z a0 hw [] b157 b162 k162 (nar .char (own_c p1 (2 : Int32))) (nar .char (own_c p1 (10 : Int32))) (nar .char (own_c p1 (18 : Int32))) cs h174 n0 Z175 O175 pr1 hcs f176 f177 f178 (Nat.le_trans Z0 sz_b157) V174 (by rw [own_cn]; exact (own_ok_c _ _)) (by rw [own_cn]; exact (own_ok_c _ _)) (by rw [own_cn]; exact (own_ok_c _ _))) hZ (wd hw 16 rfl) (wd hw 12 rfl) (by decide) (by decide)) (g := (mkF m 107 #[.val (.int p1), .val (.int v103)] [(.ref b162), (.ref b157), (.ref b157)])) rfl (by rw [hml]; rfl) (Steps.refl _) (a := b157) (argsL := [(.ref b162)]) (rest := [(.ref b157)]) (lenOf pd_5 rfl) rfl (by show 2 * 0 + _ ≤ _; exact Nat.le_of_eq rfl) (hb hby d1_107) (fun _ _ => ⟨rfl, e174, Nat.le_of_ble_eq_true rfl, Nat.le_of_ble_eq_true rfl⟩)
        dsimp only [Pt.U, Pt.locs, Pt.cells, Pt.slots] at X179 l179 y179 z179 st179 hQ179
        subst l179 y179 z179
        obtain ⟨t179, k179, rfl, Nq179, K179, p179_0, p179_1, p179_2, p179_3, p179_4⟩ := hQ179
        have N179 := Fr.app N174 Nq179
        have Sf180_b157 := Safe.keep K179 (sfS Sf175_b157 sf0) C175.1 Sf175_b157
        have C180 := C175.trans (CHr.keep K179 (sfS Sf175_b157 sf0) C175.1)
        have O180 := O175.keep K179 (allS (Nat.le_trans Z0 sz_b157) all0)
        have Z180 : n0 ≤ T179.heap.size := Nat.le_trans Z175 K179.1
        have sz_t179 : h174.size ≤ t179 := p179_4
        refine Go.by (B := (T179.setTop (mkF m 110 #[.val (.int p1), .val (.int v103)] [(.ref b157)]))) (fun _ k => st179.trans k) ?_
        have hkE181 : _ ≤ T179.heap.size := (Nat.le_trans (Nat.le_trans (Nat.le_trans (Nat.le_trans (Nat.le_trans (Nat.le_trans hk E157.1) E162.1) (Keep.of_wr W166).1) (Keep.of_wr W170).1) (Keep.of_wr W174).1) K179.1)
        have CE181 : CHr Z own_EL s.vm s.heap s.vm T179.heap := C180
        refine Go.retS X179 hx hlk hS hkE181 hZ hEL CE181 (t := (.object "java/lang/String")) hret rfl (Or.inr (Or.inr (Or.inr (Or.inr ⟨rfl, rfl, rfl⟩)))) (hb hby d1_110) (by decide) (by decide) ?_
        have ec182 : own_chars p1 = [own_c p1 2, own_c p1 10, own_c p1 18].take 3 := own_chz hv103 _ (by rw [(own_three hv103 c104 c116 c134)]; rfl)
        have V182 : Arv Z T179.heap t179 k179 .byte (own_z (own_chars p1)) (own_vs (own_chars p1)) (.int 0) := by
          rw [ec182]
          have q := p179_3
          simp only [own_cb] at q
          exact q
        exact ⟨b157, t179, k179, rfl, N179, (((((((Keep.refl h0 []).ext E157).ext E162).wr W166 (Or.inr (Nat.le_trans (Nat.le_trans (Nat.le_refl _) E157.1) sz_b162))).wr W170 (Or.inr (Nat.le_trans (Nat.le_trans (Nat.le_refl _) E157.1) sz_b162))).wr W174 (Or.inr (Nat.le_trans (Nat.le_trans (Nat.le_refl _) E157.1) sz_b162))).trans K179 (allS (Or.inr (Nat.le_trans (Nat.le_refl _) sz_b157)) all0)), p179_0, p179_1, p179_2, V182, (Nat.le_trans (Nat.le_refl _) sz_b157)⟩
theorem ef_rm_same (m : MethodId) (x0 : Int32) (x1 : Int32) : entryFrame m #[(.int x0), (.int x1)] 4 = mkF m 0 #[.val (.int x0), .val (.int x1), .unset, .unset] [] := by first | (simp [entryFrame, mkF, argsToLocals, Value.category]; done) | rfl
theorem d11_0 : decode method_5_code 0 = .ok (.iload_n 0, 1) := by decide +kernel
theorem d11_1 : decode method_5_code 1 = .ok (.invokestatic 7, 3) := by decide +kernel
theorem d11_4 : decode method_5_code 4 = .ok (.istore_n 2, 1) := by decide +kernel
theorem d11_5 : decode method_5_code 5 = .ok (.iload_n 1, 1) := by decide +kernel
theorem d11_6 : decode method_5_code 6 = .ok (.invokestatic 7, 3) := by decide +kernel
theorem d11_9 : decode method_5_code 9 = .ok (.istore_n 3, 1) := by decide +kernel
theorem d11_10 : decode method_5_code 10 = .ok (.iload_n 2, 1) := by decide +kernel
theorem d11_11 : decode method_5_code 11 = .ok (.iload_n 3, 1) := by decide +kernel
theorem d11_12 : decode method_5_code 12 = .ok (.if_icmp .eq 5, 3) := by decide +kernel
theorem d11_17 : decode method_5_code 17 = .ok (.iload_n 2, 1) := by decide +kernel
theorem d11_18 : decode method_5_code 18 = .ok (.iconst 1, 1) := by decide +kernel
theorem d11_19 : decode method_5_code 19 = .ok (.if_icmp .lt 18, 3) := by decide +kernel
theorem d11_37 : decode method_5_code 37 = .ok (.iload_n 2, 1) := by decide +kernel
theorem d11_38 : decode method_5_code 38 = .ok (.iconst 2, 1) := by decide +kernel
theorem d11_39 : decode method_5_code 39 = .ok (.if_icmp .lt 18, 3) := by decide +kernel
theorem d11_57 : decode method_5_code 57 = .ok (.iload_n 2, 1) := by decide +kernel
theorem d11_58 : decode method_5_code 58 = .ok (.iconst 3, 1) := by decide +kernel
theorem d11_59 : decode method_5_code 59 = .ok (.if_icmp .lt 18, 3) := by decide +kernel
theorem d11_77 : decode method_5_code 77 = .ok (.iconst 1, 1) := by decide +kernel
theorem d11_78 : decode method_5_code 78 = .ok (.ireturn, 1) := by decide +kernel
theorem d11_62 : decode method_5_code 62 = .ok (.iload_n 0, 1) := by decide +kernel
theorem d11_63 : decode method_5_code 63 = .ok (.iconst 2, 1) := by decide +kernel
theorem d11_64 : decode method_5_code 64 = .ok (.invokestatic 18, 3) := by decide +kernel
theorem d11_67 : decode method_5_code 67 = .ok (.iload_n 1, 1) := by decide +kernel
theorem d11_68 : decode method_5_code 68 = .ok (.iconst 2, 1) := by decide +kernel
theorem d11_69 : decode method_5_code 69 = .ok (.invokestatic 18, 3) := by decide +kernel
theorem d11_72 : decode method_5_code 72 = .ok (.if_icmp .eq 5, 3) := by decide +kernel
theorem d11_75 : decode method_5_code 75 = .ok (.iconst 0, 1) := by decide +kernel
theorem d11_76 : decode method_5_code 76 = .ok (.ireturn, 1) := by decide +kernel
theorem d11_42 : decode method_5_code 42 = .ok (.iload_n 0, 1) := by decide +kernel
theorem d11_43 : decode method_5_code 43 = .ok (.iconst 1, 1) := by decide +kernel
theorem d11_44 : decode method_5_code 44 = .ok (.invokestatic 18, 3) := by decide +kernel
theorem d11_47 : decode method_5_code 47 = .ok (.iload_n 1, 1) := by decide +kernel
theorem d11_48 : decode method_5_code 48 = .ok (.iconst 1, 1) := by decide +kernel
theorem d11_49 : decode method_5_code 49 = .ok (.invokestatic 18, 3) := by decide +kernel
theorem d11_52 : decode method_5_code 52 = .ok (.if_icmp .eq 5, 3) := by decide +kernel
theorem d11_55 : decode method_5_code 55 = .ok (.iconst 0, 1) := by decide +kernel
theorem d11_56 : decode method_5_code 56 = .ok (.ireturn, 1) := by decide +kernel
theorem d11_22 : decode method_5_code 22 = .ok (.iload_n 0, 1) := by decide +kernel
theorem d11_23 : decode method_5_code 23 = .ok (.iconst 0, 1) := by decide +kernel
theorem d11_24 : decode method_5_code 24 = .ok (.invokestatic 18, 3) := by decide +kernel
theorem d11_27 : decode method_5_code 27 = .ok (.iload_n 1, 1) := by decide +kernel
theorem d11_28 : decode method_5_code 28 = .ok (.iconst 0, 1) := by decide +kernel
theorem d11_29 : decode method_5_code 29 = .ok (.invokestatic 18, 3) := by decide +kernel
theorem d11_32 : decode method_5_code 32 = .ok (.if_icmp .eq 5, 3) := by decide +kernel
theorem d11_35 : decode method_5_code 35 = .ok (.iconst 0, 1) := by decide +kernel
theorem d11_36 : decode method_5_code 36 = .ok (.ireturn, 1) := by decide +kernel
theorem d11_15 : decode method_5_code 15 = .ok (.iconst 0, 1) := by decide +kernel
theorem d11_16 : decode method_5_code 16 = .ok (.ireturn, 1) := by decide +kernel
def Q_rm_same (Z : State) (p1 : Int32) (p2 : Int32) (h0 : Heap) (n0 : Nat) (vv : Option Value) (h : Heap) (L : List Loc) : Prop := ∃ v : Int32, vv = some (.int v) ∧ Fr n0 L ∧ h = h0 ∧ ((v = 1 ∧ own_chars p1 = own_chars p2) ∨ (v = 0 ∧ ¬ own_chars p1 = own_chars p2))
set_option maxRecDepth 65536 in
set_option maxHeartbeats 40000000 in
theorem rm_same (l : Launch) (Z : State) (a0 : Array Value) (hw : ∀ d ∈ tables_1, d.before a0 Z = true) (ws : List Jvm.Cond) (p1 : Int32) (p2 : Int32) (h0 : Heap) (n0 : Nat) (Z0 : n0 ≤ h0.size) :
    Met l Z (⟨"com/example/breakwater/breakwater/engine/InstanceEqualsPinLaw", "sameStr", "(II)Z"⟩ : MethodName) method_5_code 4 (some .boolean) ws ({ frames := 1, cells := 0, slots := 0, locals := 14 } : Room) #[(.int p1), (.int p2)] h0 (Q_rm_same Z p1 p2 h0 n0) := by
  refine Met.enter (f0 := fun m => mkF m 0 #[.val (.int p1), .val (.int p2), .unset, .unset] []) (plainFor_of_name pn_com_example_breakwater_breakwater_engine_InstanceEqualsPinLaw) (fun m => ef_rm_same m p1 p2) ?_
  intro p e s m below meth c s₁ hx hby hml hown hnm hret hlk hZ X0 e0
  have hown : s.vm.findClass "com/example/breakwater/breakwater/engine/InstanceEqualsPinLaw" = some m.cls := hown
  have hnm : meth.name = "sameStr" := hnm
  have hml : c.maxLocals = 4 := hml
  have hby : c.code = method_5_code := hby
  have N0 := Fr.nil n0
  refine Go.by (B := (s₁.setTop (mkF m 1 #[.val (.int p1), .val (.int p2), .unset, .unset] [(.int p1)]))) (fun _ k => XS.iloadN X0.here hx rfl (hb hby d11_0) rfl k) ?_
  obtain ⟨_, _, ⟨T183, L183, k183, n183⟩, -, X183, ⟨Lc183, hQ183, l183, y183, z183⟩, st183⟩ := Jvm.LawKit.callS X0 hx (y := (⟨"com/example/breakwater/breakwater/engine/InstanceEqualsPinLaw", "len", "(I)I"⟩ : MethodName)) hown (mvT hZ (wd hw 7 rfl)) (mvT hZ (wd hw 8 rfl)) (mvT hZ (wd hw 5 rfl)) (mvT hZ (wd hw 9 rfl)) (by decide) (backOf (W := 0) (rm_len l Z a0 hw [] p1 h0 n0 Z0 ) hZ (wd hw 9 rfl) (wd hw 5 rfl) (by decide) (by decide)) (g := (mkF m 1 #[.val (.int p1), .val (.int p2), .unset, .unset] [(.int p1)])) rfl (by rw [hml]; rfl) (argsL := [(.int p1)]) (rest := []) (lenOf pd_4 rfl) rfl (by show 2 * 0 + _ ≤ _; exact Nat.le_of_eq rfl) (hb hby d11_1) (fun _ _ => ⟨rfl, e0, Nat.le_of_ble_eq_true rfl, Nat.le_of_ble_eq_true rfl⟩)
  dsimp only [Pt.U, Pt.locs, Pt.cells, Pt.slots] at X183 l183 y183 z183 st183 hQ183
  subst l183 y183 z183
  obtain ⟨rfl, Nq183, hh183⟩ := hQ183
  have N183 := Fr.app N0 Nq183
  refine Go.by (B := (T183.setTop (mkF m 4 #[.val (.int p1), .val (.int p2), .unset, .unset] [(.int (p1 &&& (3 : Int32)))]))) (fun _ k => st183 _ k) ?_
  obtain ⟨v184, hv184⟩ : ∃ v, v = (p1 &&& (3 : Int32)) := ⟨_, rfl⟩
  refine Go.by (B := (T183.setTop (mkF m 6 #[.val (.int p1), .val (.int p2), .val (.int v184), .unset] [(.int p2)]))) (fun _ k => XS.istoreN (x := v184) (rest := []) X183.here hx rfl (hb hby d11_4) (by rw [hv184]) (l' := #[.val (.int p1), .val (.int p2), .val (.int v184), .unset]) rfl (XS.iloadN X183.here hx rfl (hb hby d11_5) rfl k)) ?_
  obtain ⟨_, _, ⟨T185, L185, k185, n185⟩, -, X185, ⟨Lc185, hQ185, l185, y185, z185⟩, st185⟩ := Jvm.LawKit.callS X183 hx (y := (⟨"com/example/breakwater/breakwater/engine/InstanceEqualsPinLaw", "len", "(I)I"⟩ : MethodName)) hown (mvT hZ (wd hw 7 rfl)) (mvT hZ (wd hw 8 rfl)) (mvT hZ (wd hw 5 rfl)) (mvT hZ (wd hw 9 rfl)) (by decide) (backOf (W := 0) (rm_len l Z a0 hw [] p2 h0 n0 Z0 ) hZ (wd hw 9 rfl) (wd hw 5 rfl) (by decide) (by decide)) (g := (mkF m 6 #[.val (.int p1), .val (.int p2), .val (.int v184), .unset] [(.int p2)])) rfl (by rw [hml]; rfl) (argsL := [(.int p2)]) (rest := []) (lenOf pd_4 rfl) rfl (by show 2 * 0 + _ ≤ _; exact Nat.le_of_eq rfl) (hb hby d11_6) (fun _ _ => ⟨rfl, hh183, Nat.le_of_ble_eq_true rfl, Nat.le_of_ble_eq_true rfl⟩)
  dsimp only [Pt.U, Pt.locs, Pt.cells, Pt.slots] at X185 l185 y185 z185 st185 hQ185
  subst l185 y185 z185
  obtain ⟨rfl, Nq185, hh185⟩ := hQ185
  have N185 := Fr.app N183 Nq185
  refine Go.by (B := (T185.setTop (mkF m 9 #[.val (.int p1), .val (.int p2), .val (.int v184), .unset] [(.int (p2 &&& (3 : Int32)))]))) (fun _ k => st185 _ k) ?_
  obtain ⟨v186, hv186⟩ : ∃ v, v = (p2 &&& (3 : Int32)) := ⟨_, rfl⟩
  refine Go.by (B := (T185.setTop (mkF m 12 #[.val (.int p1), .val (.int p2), .val (.int v184), .val (.int v186)] [(.int v186), (.int v184)]))) (fun _ k => XS.istoreN (x := v186) (rest := []) X185.here hx rfl (hb hby d11_9) (by rw [hv186]) (l' := #[.val (.int p1), .val (.int p2), .val (.int v184), .val (.int v186)]) rfl (XS.iloadN X185.here hx rfl (hb hby d11_10) rfl (XS.iloadN X185.here hx rfl (hb hby d11_11) rfl k))) ?_
  by_cases c187 : v184 = v186
  · skip
    refine Go.by (B := (T185.setTop (mkF m 19 #[.val (.int p1), .val (.int p2), .val (.int v184), .val (.int v186)] [(.int 1), (.int v184)]))) (fun _ k => XS.icmpYes X185.here hx rfl (pc0 := 12) (pc' := 17) rfl (hb hby d11_12) rfl (teq c187).1 (by decide) (by decide) (XS.iloadN X185.here hx rfl (hb hby d11_17) rfl (XS.iconst X185.here hx rfl (hb hby d11_18) k))) ?_
    by_cases c188 : v184 < (1 : Int32)
    · skip
      refine Go.by (B := (T185.setTop (mkF m 39 #[.val (.int p1), .val (.int p2), .val (.int v184), .val (.int v186)] [(.int 2), (.int v184)]))) (fun _ k => XS.icmpYes X185.here hx rfl (pc0 := 19) (pc' := 37) rfl (hb hby d11_19) rfl (tlt c188).1 (by decide) (by decide) (XS.iloadN X185.here hx rfl (hb hby d11_37) rfl (XS.iconst X185.here hx rfl (hb hby d11_38) k))) ?_
      by_cases c189 : v184 < (2 : Int32)
      · skip
        refine Go.by (B := (T185.setTop (mkF m 59 #[.val (.int p1), .val (.int p2), .val (.int v184), .val (.int v186)] [(.int 3), (.int v184)]))) (fun _ k => XS.icmpYes X185.here hx rfl (pc0 := 39) (pc' := 57) rfl (hb hby d11_39) rfl (tlt c189).1 (by decide) (by decide) (XS.iloadN X185.here hx rfl (hb hby d11_57) rfl (XS.iconst X185.here hx rfl (hb hby d11_58) k))) ?_
        by_cases c190 : v184 < (3 : Int32)
        · skip
          refine Go.by (B := (T185.setTop (mkF m 78 #[.val (.int p1), .val (.int p2), .val (.int v184), .val (.int v186)] [(.int 1)]))) (fun _ k => XS.icmpYes X185.here hx rfl (pc0 := 59) (pc' := 77) rfl (hb hby d11_59) rfl (tlt c190).1 (by decide) (by decide) (XS.iconst X185.here hx rfl (hb hby d11_77) k)) ?_
          refine Go.ret X185 hx hlk (t := .boolean) hret rfl (Or.inl ⟨rfl, by simp, _, rfl⟩) (hb hby d11_78) (by decide) (by decide) ?_
          rw [hh185]
          exact ⟨(1 : Int32), rfl, N185, rfl, (Or.inl ⟨rfl, (own_same hv184 hv186).mpr ⟨c187, (fun q => absurd c188 q), (fun q => absurd c189 q), (fun q => absurd c190 q)⟩⟩)⟩
        · skip
          refine Go.by (B := (T185.setTop (mkF m 64 #[.val (.int p1), .val (.int p2), .val (.int v184), .val (.int v186)] [(.int 2), (.int p1)]))) (fun _ k => XS.icmpNo X185.here hx rfl (hb hby d11_59) rfl (flt c190).1 (XS.iloadN X185.here hx rfl (hb hby d11_62) rfl (XS.iconst X185.here hx rfl (hb hby d11_63) k))) ?_
          obtain ⟨_, _, ⟨T191, L191, k191, n191⟩, -, X191, ⟨Lc191, hQ191, l191, y191, z191⟩, st191⟩ := Jvm.LawKit.callS X185 hx (y := (⟨"com/example/breakwater/breakwater/engine/InstanceEqualsPinLaw", "ch", "(II)C"⟩ : MethodName)) hown (mvT hZ (wd hw 32 rfl)) (mvT hZ (wd hw 33 rfl)) (mvT hZ (wd hw 5 rfl)) (mvT hZ (wd hw 34 rfl)) (by decide) (backOf (W := 0) (rm_ch2 l Z a0 hw [] p1 h0 n0 Z0 ) hZ (wd hw 34 rfl) (wd hw 5 rfl) (by decide) (by decide)) (g := (mkF m 64 #[.val (.int p1), .val (.int p2), .val (.int v184), .val (.int v186)] [(.int 2), (.int p1)])) rfl (by rw [hml]; rfl) (argsL := [(.int p1), (.int 2)]) (rest := []) (lenOf pd_6 rfl) rfl (by show 2 * 0 + _ ≤ _; exact Nat.le_of_eq rfl) (hb hby d11_64) (fun _ _ => ⟨rfl, hh185, Nat.le_of_ble_eq_true rfl, Nat.le_of_ble_eq_true rfl⟩)
          dsimp only [Pt.U, Pt.locs, Pt.cells, Pt.slots] at X191 l191 y191 z191 st191 hQ191
          subst l191 y191 z191
          obtain ⟨rfl, Nq191, hh191⟩ := hQ191
          have N191 := Fr.app N185 Nq191
          refine Go.by (B := (T191.setTop (mkF m 67 #[.val (.int p1), .val (.int p2), .val (.int v184), .val (.int v186)] [(.int (own_c p1 (18 : Int32)))]))) (fun _ k => st191 _ k) ?_
          refine Go.by (B := (T191.setTop (mkF m 69 #[.val (.int p1), .val (.int p2), .val (.int v184), .val (.int v186)] [(.int 2), (.int p2), (.int (own_c p1 (18 : Int32)))]))) (fun _ k => XS.iloadN X191.here hx rfl (hb hby d11_67) rfl (XS.iconst X191.here hx rfl (hb hby d11_68) k)) ?_
          obtain ⟨_, _, ⟨T192, L192, k192, n192⟩, -, X192, ⟨Lc192, hQ192, l192, y192, z192⟩, st192⟩ := Jvm.LawKit.callS X191 hx (y := (⟨"com/example/breakwater/breakwater/engine/InstanceEqualsPinLaw", "ch", "(II)C"⟩ : MethodName)) hown (mvT hZ (wd hw 32 rfl)) (mvT hZ (wd hw 33 rfl)) (mvT hZ (wd hw 5 rfl)) (mvT hZ (wd hw 34 rfl)) (by decide) (backOf (W := 1) (rm_ch2 l Z a0 hw [] p2 h0 n0 Z0 ) hZ (wd hw 34 rfl) (wd hw 5 rfl) (by decide) (by decide)) (g := (mkF m 69 #[.val (.int p1), .val (.int p2), .val (.int v184), .val (.int v186)] [(.int 2), (.int p2), (.int (own_c p1 (18 : Int32)))])) rfl (by rw [hml]; rfl) (argsL := [(.int p2), (.int 2)]) (rest := [(.int (own_c p1 (18 : Int32)))]) (lenOf pd_6 rfl) rfl (by show 2 * 0 + _ ≤ _; exact Nat.le_of_eq rfl) (hb hby d11_69) (fun _ _ => ⟨rfl, hh191, Nat.le_of_ble_eq_true rfl, Nat.le_of_ble_eq_true rfl⟩)
          dsimp only [Pt.U, Pt.locs, Pt.cells, Pt.slots] at X192 l192 y192 z192 st192 hQ192
          subst l192 y192 z192
          obtain ⟨rfl, Nq192, hh192⟩ := hQ192
          have N192 := Fr.app N191 Nq192
          refine Go.by (B := (T192.setTop (mkF m 72 #[.val (.int p1), .val (.int p2), .val (.int v184), .val (.int v186)] [(.int (own_c p2 (18 : Int32))), (.int (own_c p1 (18 : Int32)))]))) (fun _ k => st192 _ k) ?_
          by_cases c193 : (own_c p1 (18 : Int32)) = (own_c p2 (18 : Int32))
          · skip
            refine Go.by (B := (T192.setTop (mkF m 78 #[.val (.int p1), .val (.int p2), .val (.int v184), .val (.int v186)] [(.int 1)]))) (fun _ k => XS.icmpYes X192.here hx rfl (pc0 := 72) (pc' := 77) rfl (hb hby d11_72) rfl (teq c193).1 (by decide) (by decide) (XS.iconst X192.here hx rfl (hb hby d11_77) k)) ?_
            refine Go.ret X192 hx hlk (t := .boolean) hret rfl (Or.inl ⟨rfl, by simp, _, rfl⟩) (hb hby d11_78) (by decide) (by decide) ?_
            rw [hh192]
            exact ⟨(1 : Int32), rfl, N192, rfl, (Or.inl ⟨rfl, (own_same hv184 hv186).mpr ⟨c187, (fun q => absurd c188 q), (fun q => absurd c189 q), (fun _ => c193)⟩⟩)⟩
          · skip
            refine Go.by (B := (T192.setTop (mkF m 76 #[.val (.int p1), .val (.int p2), .val (.int v184), .val (.int v186)] [(.int 0)]))) (fun _ k => XS.icmpNo X192.here hx rfl (hb hby d11_72) rfl (feq c193).1 (XS.iconst X192.here hx rfl (hb hby d11_75) k)) ?_
            refine Go.ret X192 hx hlk (t := .boolean) hret rfl (Or.inl ⟨rfl, by simp, _, rfl⟩) (hb hby d11_76) (by decide) (by decide) ?_
            rw [hh192]
            exact ⟨(0 : Int32), rfl, N192, rfl, (Or.inr ⟨rfl, fun q => c193 (((own_same hv184 hv186).mp q).2.2.2 c190)⟩)⟩
      · skip
        refine Go.by (B := (T185.setTop (mkF m 44 #[.val (.int p1), .val (.int p2), .val (.int v184), .val (.int v186)] [(.int 1), (.int p1)]))) (fun _ k => XS.icmpNo X185.here hx rfl (hb hby d11_39) rfl (flt c189).1 (XS.iloadN X185.here hx rfl (hb hby d11_42) rfl (XS.iconst X185.here hx rfl (hb hby d11_43) k))) ?_
        obtain ⟨_, _, ⟨T194, L194, k194, n194⟩, -, X194, ⟨Lc194, hQ194, l194, y194, z194⟩, st194⟩ := Jvm.LawKit.callS X185 hx (y := (⟨"com/example/breakwater/breakwater/engine/InstanceEqualsPinLaw", "ch", "(II)C"⟩ : MethodName)) hown (mvT hZ (wd hw 32 rfl)) (mvT hZ (wd hw 33 rfl)) (mvT hZ (wd hw 5 rfl)) (mvT hZ (wd hw 34 rfl)) (by decide) (backOf (W := 0) (rm_ch1 l Z a0 hw [] p1 h0 n0 Z0 ) hZ (wd hw 34 rfl) (wd hw 5 rfl) (by decide) (by decide)) (g := (mkF m 44 #[.val (.int p1), .val (.int p2), .val (.int v184), .val (.int v186)] [(.int 1), (.int p1)])) rfl (by rw [hml]; rfl) (argsL := [(.int p1), (.int 1)]) (rest := []) (lenOf pd_6 rfl) rfl (by show 2 * 0 + _ ≤ _; exact Nat.le_of_eq rfl) (hb hby d11_44) (fun _ _ => ⟨rfl, hh185, Nat.le_of_ble_eq_true rfl, Nat.le_of_ble_eq_true rfl⟩)
        dsimp only [Pt.U, Pt.locs, Pt.cells, Pt.slots] at X194 l194 y194 z194 st194 hQ194
        subst l194 y194 z194
        obtain ⟨rfl, Nq194, hh194⟩ := hQ194
        have N194 := Fr.app N185 Nq194
        refine Go.by (B := (T194.setTop (mkF m 47 #[.val (.int p1), .val (.int p2), .val (.int v184), .val (.int v186)] [(.int (own_c p1 (10 : Int32)))]))) (fun _ k => st194 _ k) ?_
        refine Go.by (B := (T194.setTop (mkF m 49 #[.val (.int p1), .val (.int p2), .val (.int v184), .val (.int v186)] [(.int 1), (.int p2), (.int (own_c p1 (10 : Int32)))]))) (fun _ k => XS.iloadN X194.here hx rfl (hb hby d11_47) rfl (XS.iconst X194.here hx rfl (hb hby d11_48) k)) ?_
        obtain ⟨_, _, ⟨T195, L195, k195, n195⟩, -, X195, ⟨Lc195, hQ195, l195, y195, z195⟩, st195⟩ := Jvm.LawKit.callS X194 hx (y := (⟨"com/example/breakwater/breakwater/engine/InstanceEqualsPinLaw", "ch", "(II)C"⟩ : MethodName)) hown (mvT hZ (wd hw 32 rfl)) (mvT hZ (wd hw 33 rfl)) (mvT hZ (wd hw 5 rfl)) (mvT hZ (wd hw 34 rfl)) (by decide) (backOf (W := 1) (rm_ch1 l Z a0 hw [] p2 h0 n0 Z0 ) hZ (wd hw 34 rfl) (wd hw 5 rfl) (by decide) (by decide)) (g := (mkF m 49 #[.val (.int p1), .val (.int p2), .val (.int v184), .val (.int v186)] [(.int 1), (.int p2), (.int (own_c p1 (10 : Int32)))])) rfl (by rw [hml]; rfl) (argsL := [(.int p2), (.int 1)]) (rest := [(.int (own_c p1 (10 : Int32)))]) (lenOf pd_6 rfl) rfl (by show 2 * 0 + _ ≤ _; exact Nat.le_of_eq rfl) (hb hby d11_49) (fun _ _ => ⟨rfl, hh194, Nat.le_of_ble_eq_true rfl, Nat.le_of_ble_eq_true rfl⟩)
        dsimp only [Pt.U, Pt.locs, Pt.cells, Pt.slots] at X195 l195 y195 z195 st195 hQ195
        subst l195 y195 z195
        obtain ⟨rfl, Nq195, hh195⟩ := hQ195
        have N195 := Fr.app N194 Nq195
        refine Go.by (B := (T195.setTop (mkF m 52 #[.val (.int p1), .val (.int p2), .val (.int v184), .val (.int v186)] [(.int (own_c p2 (10 : Int32))), (.int (own_c p1 (10 : Int32)))]))) (fun _ k => st195 _ k) ?_
        by_cases c196 : (own_c p1 (10 : Int32)) = (own_c p2 (10 : Int32))
        · skip
          refine Go.by (B := (T195.setTop (mkF m 59 #[.val (.int p1), .val (.int p2), .val (.int v184), .val (.int v186)] [(.int 3), (.int v184)]))) (fun _ k => XS.icmpYes X195.here hx rfl (pc0 := 52) (pc' := 57) rfl (hb hby d11_52) rfl (teq c196).1 (by decide) (by decide) (XS.iloadN X195.here hx rfl (hb hby d11_57) rfl (XS.iconst X195.here hx rfl (hb hby d11_58) k))) ?_
          by_cases c197 : v184 < (3 : Int32)
          · skip
            refine Go.by (B := (T195.setTop (mkF m 78 #[.val (.int p1), .val (.int p2), .val (.int v184), .val (.int v186)] [(.int 1)]))) (fun _ k => XS.icmpYes X195.here hx rfl (pc0 := 59) (pc' := 77) rfl (hb hby d11_59) rfl (tlt c197).1 (by decide) (by decide) (XS.iconst X195.here hx rfl (hb hby d11_77) k)) ?_
            refine Go.ret X195 hx hlk (t := .boolean) hret rfl (Or.inl ⟨rfl, by simp, _, rfl⟩) (hb hby d11_78) (by decide) (by decide) ?_
            rw [hh195]
            exact ⟨(1 : Int32), rfl, N195, rfl, (Or.inl ⟨rfl, (own_same hv184 hv186).mpr ⟨c187, (fun q => absurd c188 q), (fun _ => c196), (fun q => absurd c197 q)⟩⟩)⟩
          · skip
            refine Go.by (B := (T195.setTop (mkF m 64 #[.val (.int p1), .val (.int p2), .val (.int v184), .val (.int v186)] [(.int 2), (.int p1)]))) (fun _ k => XS.icmpNo X195.here hx rfl (hb hby d11_59) rfl (flt c197).1 (XS.iloadN X195.here hx rfl (hb hby d11_62) rfl (XS.iconst X195.here hx rfl (hb hby d11_63) k))) ?_
            obtain ⟨_, _, ⟨T198, L198, k198, n198⟩, -, X198, ⟨Lc198, hQ198, l198, y198, z198⟩, st198⟩ := Jvm.LawKit.callS X195 hx (y := (⟨"com/example/breakwater/breakwater/engine/InstanceEqualsPinLaw", "ch", "(II)C"⟩ : MethodName)) hown (mvT hZ (wd hw 32 rfl)) (mvT hZ (wd hw 33 rfl)) (mvT hZ (wd hw 5 rfl)) (mvT hZ (wd hw 34 rfl)) (by decide) (backOf (W := 0) (rm_ch2 l Z a0 hw [] p1 h0 n0 Z0 ) hZ (wd hw 34 rfl) (wd hw 5 rfl) (by decide) (by decide)) (g := (mkF m 64 #[.val (.int p1), .val (.int p2), .val (.int v184), .val (.int v186)] [(.int 2), (.int p1)])) rfl (by rw [hml]; rfl) (argsL := [(.int p1), (.int 2)]) (rest := []) (lenOf pd_6 rfl) rfl (by show 2 * 0 + _ ≤ _; exact Nat.le_of_eq rfl) (hb hby d11_64) (fun _ _ => ⟨rfl, hh195, Nat.le_of_ble_eq_true rfl, Nat.le_of_ble_eq_true rfl⟩)
            dsimp only [Pt.U, Pt.locs, Pt.cells, Pt.slots] at X198 l198 y198 z198 st198 hQ198
            subst l198 y198 z198
            obtain ⟨rfl, Nq198, hh198⟩ := hQ198
            have N198 := Fr.app N195 Nq198
            refine Go.by (B := (T198.setTop (mkF m 67 #[.val (.int p1), .val (.int p2), .val (.int v184), .val (.int v186)] [(.int (own_c p1 (18 : Int32)))]))) (fun _ k => st198 _ k) ?_
            refine Go.by (B := (T198.setTop (mkF m 69 #[.val (.int p1), .val (.int p2), .val (.int v184), .val (.int v186)] [(.int 2), (.int p2), (.int (own_c p1 (18 : Int32)))]))) (fun _ k => XS.iloadN X198.here hx rfl (hb hby d11_67) rfl (XS.iconst X198.here hx rfl (hb hby d11_68) k)) ?_
            obtain ⟨_, _, ⟨T199, L199, k199, n199⟩, -, X199, ⟨Lc199, hQ199, l199, y199, z199⟩, st199⟩ := Jvm.LawKit.callS X198 hx (y := (⟨"com/example/breakwater/breakwater/engine/InstanceEqualsPinLaw", "ch", "(II)C"⟩ : MethodName)) hown (mvT hZ (wd hw 32 rfl)) (mvT hZ (wd hw 33 rfl)) (mvT hZ (wd hw 5 rfl)) (mvT hZ (wd hw 34 rfl)) (by decide) (backOf (W := 1) (rm_ch2 l Z a0 hw [] p2 h0 n0 Z0 ) hZ (wd hw 34 rfl) (wd hw 5 rfl) (by decide) (by decide)) (g := (mkF m 69 #[.val (.int p1), .val (.int p2), .val (.int v184), .val (.int v186)] [(.int 2), (.int p2), (.int (own_c p1 (18 : Int32)))])) rfl (by rw [hml]; rfl) (argsL := [(.int p2), (.int 2)]) (rest := [(.int (own_c p1 (18 : Int32)))]) (lenOf pd_6 rfl) rfl (by show 2 * 0 + _ ≤ _; exact Nat.le_of_eq rfl) (hb hby d11_69) (fun _ _ => ⟨rfl, hh198, Nat.le_of_ble_eq_true rfl, Nat.le_of_ble_eq_true rfl⟩)
            dsimp only [Pt.U, Pt.locs, Pt.cells, Pt.slots] at X199 l199 y199 z199 st199 hQ199
            subst l199 y199 z199
            obtain ⟨rfl, Nq199, hh199⟩ := hQ199
            have N199 := Fr.app N198 Nq199
            refine Go.by (B := (T199.setTop (mkF m 72 #[.val (.int p1), .val (.int p2), .val (.int v184), .val (.int v186)] [(.int (own_c p2 (18 : Int32))), (.int (own_c p1 (18 : Int32)))]))) (fun _ k => st199 _ k) ?_
            by_cases c200 : (own_c p1 (18 : Int32)) = (own_c p2 (18 : Int32))
            · skip
              refine Go.by (B := (T199.setTop (mkF m 78 #[.val (.int p1), .val (.int p2), .val (.int v184), .val (.int v186)] [(.int 1)]))) (fun _ k => XS.icmpYes X199.here hx rfl (pc0 := 72) (pc' := 77) rfl (hb hby d11_72) rfl (teq c200).1 (by decide) (by decide) (XS.iconst X199.here hx rfl (hb hby d11_77) k)) ?_
              refine Go.ret X199 hx hlk (t := .boolean) hret rfl (Or.inl ⟨rfl, by simp, _, rfl⟩) (hb hby d11_78) (by decide) (by decide) ?_
              rw [hh199]
              exact ⟨(1 : Int32), rfl, N199, rfl, (Or.inl ⟨rfl, (own_same hv184 hv186).mpr ⟨c187, (fun q => absurd c188 q), (fun _ => c196), (fun _ => c200)⟩⟩)⟩
            · skip
              refine Go.by (B := (T199.setTop (mkF m 76 #[.val (.int p1), .val (.int p2), .val (.int v184), .val (.int v186)] [(.int 0)]))) (fun _ k => XS.icmpNo X199.here hx rfl (hb hby d11_72) rfl (feq c200).1 (XS.iconst X199.here hx rfl (hb hby d11_75) k)) ?_
              refine Go.ret X199 hx hlk (t := .boolean) hret rfl (Or.inl ⟨rfl, by simp, _, rfl⟩) (hb hby d11_76) (by decide) (by decide) ?_
              rw [hh199]
              exact ⟨(0 : Int32), rfl, N199, rfl, (Or.inr ⟨rfl, fun q => c200 (((own_same hv184 hv186).mp q).2.2.2 c197)⟩)⟩
        · skip
          refine Go.by (B := (T195.setTop (mkF m 56 #[.val (.int p1), .val (.int p2), .val (.int v184), .val (.int v186)] [(.int 0)]))) (fun _ k => XS.icmpNo X195.here hx rfl (hb hby d11_52) rfl (feq c196).1 (XS.iconst X195.here hx rfl (hb hby d11_55) k)) ?_
          refine Go.ret X195 hx hlk (t := .boolean) hret rfl (Or.inl ⟨rfl, by simp, _, rfl⟩) (hb hby d11_56) (by decide) (by decide) ?_
          rw [hh195]
          exact ⟨(0 : Int32), rfl, N195, rfl, (Or.inr ⟨rfl, fun q => c196 (((own_same hv184 hv186).mp q).2.2.1 c189)⟩)⟩
    · skip
      refine Go.by (B := (T185.setTop (mkF m 24 #[.val (.int p1), .val (.int p2), .val (.int v184), .val (.int v186)] [(.int 0), (.int p1)]))) (fun _ k => XS.icmpNo X185.here hx rfl (hb hby d11_19) rfl (flt c188).1 (XS.iloadN X185.here hx rfl (hb hby d11_22) rfl (XS.iconst X185.here hx rfl (hb hby d11_23) k))) ?_
      obtain ⟨_, _, ⟨T201, L201, k201, n201⟩, -, X201, ⟨Lc201, hQ201, l201, y201, z201⟩, st201⟩ := Jvm.LawKit.callS X185 hx (y := (⟨"com/example/breakwater/breakwater/engine/InstanceEqualsPinLaw", "ch", "(II)C"⟩ : MethodName)) hown (mvT hZ (wd hw 32 rfl)) (mvT hZ (wd hw 33 rfl)) (mvT hZ (wd hw 5 rfl)) (mvT hZ (wd hw 34 rfl)) (by decide) (backOf (W := 0) (rm_ch0 l Z a0 hw [] p1 h0 n0 Z0 ) hZ (wd hw 34 rfl) (wd hw 5 rfl) (by decide) (by decide)) (g := (mkF m 24 #[.val (.int p1), .val (.int p2), .val (.int v184), .val (.int v186)] [(.int 0), (.int p1)])) rfl (by rw [hml]; rfl) (argsL := [(.int p1), (.int 0)]) (rest := []) (lenOf pd_6 rfl) rfl (by show 2 * 0 + _ ≤ _; exact Nat.le_of_eq rfl) (hb hby d11_24) (fun _ _ => ⟨rfl, hh185, Nat.le_of_ble_eq_true rfl, Nat.le_of_ble_eq_true rfl⟩)
      dsimp only [Pt.U, Pt.locs, Pt.cells, Pt.slots] at X201 l201 y201 z201 st201 hQ201
      subst l201 y201 z201
      obtain ⟨rfl, Nq201, hh201⟩ := hQ201
      have N201 := Fr.app N185 Nq201
      refine Go.by (B := (T201.setTop (mkF m 27 #[.val (.int p1), .val (.int p2), .val (.int v184), .val (.int v186)] [(.int (own_c p1 (2 : Int32)))]))) (fun _ k => st201 _ k) ?_
      refine Go.by (B := (T201.setTop (mkF m 29 #[.val (.int p1), .val (.int p2), .val (.int v184), .val (.int v186)] [(.int 0), (.int p2), (.int (own_c p1 (2 : Int32)))]))) (fun _ k => XS.iloadN X201.here hx rfl (hb hby d11_27) rfl (XS.iconst X201.here hx rfl (hb hby d11_28) k)) ?_
      obtain ⟨_, _, ⟨T202, L202, k202, n202⟩, -, X202, ⟨Lc202, hQ202, l202, y202, z202⟩, st202⟩ := Jvm.LawKit.callS X201 hx (y := (⟨"com/example/breakwater/breakwater/engine/InstanceEqualsPinLaw", "ch", "(II)C"⟩ : MethodName)) hown (mvT hZ (wd hw 32 rfl)) (mvT hZ (wd hw 33 rfl)) (mvT hZ (wd hw 5 rfl)) (mvT hZ (wd hw 34 rfl)) (by decide) (backOf (W := 1) (rm_ch0 l Z a0 hw [] p2 h0 n0 Z0 ) hZ (wd hw 34 rfl) (wd hw 5 rfl) (by decide) (by decide)) (g := (mkF m 29 #[.val (.int p1), .val (.int p2), .val (.int v184), .val (.int v186)] [(.int 0), (.int p2), (.int (own_c p1 (2 : Int32)))])) rfl (by rw [hml]; rfl) (argsL := [(.int p2), (.int 0)]) (rest := [(.int (own_c p1 (2 : Int32)))]) (lenOf pd_6 rfl) rfl (by show 2 * 0 + _ ≤ _; exact Nat.le_of_eq rfl) (hb hby d11_29) (fun _ _ => ⟨rfl, hh201, Nat.le_of_ble_eq_true rfl, Nat.le_of_ble_eq_true rfl⟩)
      dsimp only [Pt.U, Pt.locs, Pt.cells, Pt.slots] at X202 l202 y202 z202 st202 hQ202
      subst l202 y202 z202
      obtain ⟨rfl, Nq202, hh202⟩ := hQ202
      have N202 := Fr.app N201 Nq202
      refine Go.by (B := (T202.setTop (mkF m 32 #[.val (.int p1), .val (.int p2), .val (.int v184), .val (.int v186)] [(.int (own_c p2 (2 : Int32))), (.int (own_c p1 (2 : Int32)))]))) (fun _ k => st202 _ k) ?_
      by_cases c203 : (own_c p1 (2 : Int32)) = (own_c p2 (2 : Int32))
      · skip
        refine Go.by (B := (T202.setTop (mkF m 39 #[.val (.int p1), .val (.int p2), .val (.int v184), .val (.int v186)] [(.int 2), (.int v184)]))) (fun _ k => XS.icmpYes X202.here hx rfl (pc0 := 32) (pc' := 37) rfl (hb hby d11_32) rfl (teq c203).1 (by decide) (by decide) (XS.iloadN X202.here hx rfl (hb hby d11_37) rfl (XS.iconst X202.here hx rfl (hb hby d11_38) k))) ?_
        by_cases c204 : v184 < (2 : Int32)
        · skip
          refine Go.by (B := (T202.setTop (mkF m 59 #[.val (.int p1), .val (.int p2), .val (.int v184), .val (.int v186)] [(.int 3), (.int v184)]))) (fun _ k => XS.icmpYes X202.here hx rfl (pc0 := 39) (pc' := 57) rfl (hb hby d11_39) rfl (tlt c204).1 (by decide) (by decide) (XS.iloadN X202.here hx rfl (hb hby d11_57) rfl (XS.iconst X202.here hx rfl (hb hby d11_58) k))) ?_
          by_cases c205 : v184 < (3 : Int32)
          · skip
            refine Go.by (B := (T202.setTop (mkF m 78 #[.val (.int p1), .val (.int p2), .val (.int v184), .val (.int v186)] [(.int 1)]))) (fun _ k => XS.icmpYes X202.here hx rfl (pc0 := 59) (pc' := 77) rfl (hb hby d11_59) rfl (tlt c205).1 (by decide) (by decide) (XS.iconst X202.here hx rfl (hb hby d11_77) k)) ?_
            refine Go.ret X202 hx hlk (t := .boolean) hret rfl (Or.inl ⟨rfl, by simp, _, rfl⟩) (hb hby d11_78) (by decide) (by decide) ?_
            rw [hh202]
            exact ⟨(1 : Int32), rfl, N202, rfl, (Or.inl ⟨rfl, (own_same hv184 hv186).mpr ⟨c187, (fun _ => c203), (fun q => absurd c204 q), (fun q => absurd c205 q)⟩⟩)⟩
          · skip
            refine Go.by (B := (T202.setTop (mkF m 64 #[.val (.int p1), .val (.int p2), .val (.int v184), .val (.int v186)] [(.int 2), (.int p1)]))) (fun _ k => XS.icmpNo X202.here hx rfl (hb hby d11_59) rfl (flt c205).1 (XS.iloadN X202.here hx rfl (hb hby d11_62) rfl (XS.iconst X202.here hx rfl (hb hby d11_63) k))) ?_
            obtain ⟨_, _, ⟨T206, L206, k206, n206⟩, -, X206, ⟨Lc206, hQ206, l206, y206, z206⟩, st206⟩ := Jvm.LawKit.callS X202 hx (y := (⟨"com/example/breakwater/breakwater/engine/InstanceEqualsPinLaw", "ch", "(II)C"⟩ : MethodName)) hown (mvT hZ (wd hw 32 rfl)) (mvT hZ (wd hw 33 rfl)) (mvT hZ (wd hw 5 rfl)) (mvT hZ (wd hw 34 rfl)) (by decide) (backOf (W := 0) (rm_ch2 l Z a0 hw [] p1 h0 n0 Z0 ) hZ (wd hw 34 rfl) (wd hw 5 rfl) (by decide) (by decide)) (g := (mkF m 64 #[.val (.int p1), .val (.int p2), .val (.int v184), .val (.int v186)] [(.int 2), (.int p1)])) rfl (by rw [hml]; rfl) (argsL := [(.int p1), (.int 2)]) (rest := []) (lenOf pd_6 rfl) rfl (by show 2 * 0 + _ ≤ _; exact Nat.le_of_eq rfl) (hb hby d11_64) (fun _ _ => ⟨rfl, hh202, Nat.le_of_ble_eq_true rfl, Nat.le_of_ble_eq_true rfl⟩)
            dsimp only [Pt.U, Pt.locs, Pt.cells, Pt.slots] at X206 l206 y206 z206 st206 hQ206
            subst l206 y206 z206
            obtain ⟨rfl, Nq206, hh206⟩ := hQ206
            have N206 := Fr.app N202 Nq206
            refine Go.by (B := (T206.setTop (mkF m 67 #[.val (.int p1), .val (.int p2), .val (.int v184), .val (.int v186)] [(.int (own_c p1 (18 : Int32)))]))) (fun _ k => st206 _ k) ?_
            refine Go.by (B := (T206.setTop (mkF m 69 #[.val (.int p1), .val (.int p2), .val (.int v184), .val (.int v186)] [(.int 2), (.int p2), (.int (own_c p1 (18 : Int32)))]))) (fun _ k => XS.iloadN X206.here hx rfl (hb hby d11_67) rfl (XS.iconst X206.here hx rfl (hb hby d11_68) k)) ?_
            obtain ⟨_, _, ⟨T207, L207, k207, n207⟩, -, X207, ⟨Lc207, hQ207, l207, y207, z207⟩, st207⟩ := Jvm.LawKit.callS X206 hx (y := (⟨"com/example/breakwater/breakwater/engine/InstanceEqualsPinLaw", "ch", "(II)C"⟩ : MethodName)) hown (mvT hZ (wd hw 32 rfl)) (mvT hZ (wd hw 33 rfl)) (mvT hZ (wd hw 5 rfl)) (mvT hZ (wd hw 34 rfl)) (by decide) (backOf (W := 1) (rm_ch2 l Z a0 hw [] p2 h0 n0 Z0 ) hZ (wd hw 34 rfl) (wd hw 5 rfl) (by decide) (by decide)) (g := (mkF m 69 #[.val (.int p1), .val (.int p2), .val (.int v184), .val (.int v186)] [(.int 2), (.int p2), (.int (own_c p1 (18 : Int32)))])) rfl (by rw [hml]; rfl) (argsL := [(.int p2), (.int 2)]) (rest := [(.int (own_c p1 (18 : Int32)))]) (lenOf pd_6 rfl) rfl (by show 2 * 0 + _ ≤ _; exact Nat.le_of_eq rfl) (hb hby d11_69) (fun _ _ => ⟨rfl, hh206, Nat.le_of_ble_eq_true rfl, Nat.le_of_ble_eq_true rfl⟩)
            dsimp only [Pt.U, Pt.locs, Pt.cells, Pt.slots] at X207 l207 y207 z207 st207 hQ207
            subst l207 y207 z207
            obtain ⟨rfl, Nq207, hh207⟩ := hQ207
            have N207 := Fr.app N206 Nq207
            refine Go.by (B := (T207.setTop (mkF m 72 #[.val (.int p1), .val (.int p2), .val (.int v184), .val (.int v186)] [(.int (own_c p2 (18 : Int32))), (.int (own_c p1 (18 : Int32)))]))) (fun _ k => st207 _ k) ?_
            by_cases c208 : (own_c p1 (18 : Int32)) = (own_c p2 (18 : Int32))
            · skip
              refine Go.by (B := (T207.setTop (mkF m 78 #[.val (.int p1), .val (.int p2), .val (.int v184), .val (.int v186)] [(.int 1)]))) (fun _ k => XS.icmpYes X207.here hx rfl (pc0 := 72) (pc' := 77) rfl (hb hby d11_72) rfl (teq c208).1 (by decide) (by decide) (XS.iconst X207.here hx rfl (hb hby d11_77) k)) ?_
              refine Go.ret X207 hx hlk (t := .boolean) hret rfl (Or.inl ⟨rfl, by simp, _, rfl⟩) (hb hby d11_78) (by decide) (by decide) ?_
              rw [hh207]
              exact ⟨(1 : Int32), rfl, N207, rfl, (Or.inl ⟨rfl, (own_same hv184 hv186).mpr ⟨c187, (fun _ => c203), (fun q => absurd c204 q), (fun _ => c208)⟩⟩)⟩
            · skip
              refine Go.by (B := (T207.setTop (mkF m 76 #[.val (.int p1), .val (.int p2), .val (.int v184), .val (.int v186)] [(.int 0)]))) (fun _ k => XS.icmpNo X207.here hx rfl (hb hby d11_72) rfl (feq c208).1 (XS.iconst X207.here hx rfl (hb hby d11_75) k)) ?_
              refine Go.ret X207 hx hlk (t := .boolean) hret rfl (Or.inl ⟨rfl, by simp, _, rfl⟩) (hb hby d11_76) (by decide) (by decide) ?_
              rw [hh207]
              exact ⟨(0 : Int32), rfl, N207, rfl, (Or.inr ⟨rfl, fun q => c208 (((own_same hv184 hv186).mp q).2.2.2 c205)⟩)⟩
        · skip
          refine Go.by (B := (T202.setTop (mkF m 44 #[.val (.int p1), .val (.int p2), .val (.int v184), .val (.int v186)] [(.int 1), (.int p1)]))) (fun _ k => XS.icmpNo X202.here hx rfl (hb hby d11_39) rfl (flt c204).1 (XS.iloadN X202.here hx rfl (hb hby d11_42) rfl (XS.iconst X202.here hx rfl (hb hby d11_43) k))) ?_
          obtain ⟨_, _, ⟨T209, L209, k209, n209⟩, -, X209, ⟨Lc209, hQ209, l209, y209, z209⟩, st209⟩ := Jvm.LawKit.callS X202 hx (y := (⟨"com/example/breakwater/breakwater/engine/InstanceEqualsPinLaw", "ch", "(II)C"⟩ : MethodName)) hown (mvT hZ (wd hw 32 rfl)) (mvT hZ (wd hw 33 rfl)) (mvT hZ (wd hw 5 rfl)) (mvT hZ (wd hw 34 rfl)) (by decide) (backOf (W := 0) (rm_ch1 l Z a0 hw [] p1 h0 n0 Z0 ) hZ (wd hw 34 rfl) (wd hw 5 rfl) (by decide) (by decide)) (g := (mkF m 44 #[.val (.int p1), .val (.int p2), .val (.int v184), .val (.int v186)] [(.int 1), (.int p1)])) rfl (by rw [hml]; rfl) (argsL := [(.int p1), (.int 1)]) (rest := []) (lenOf pd_6 rfl) rfl (by show 2 * 0 + _ ≤ _; exact Nat.le_of_eq rfl) (hb hby d11_44) (fun _ _ => ⟨rfl, hh202, Nat.le_of_ble_eq_true rfl, Nat.le_of_ble_eq_true rfl⟩)
          dsimp only [Pt.U, Pt.locs, Pt.cells, Pt.slots] at X209 l209 y209 z209 st209 hQ209
          subst l209 y209 z209
          obtain ⟨rfl, Nq209, hh209⟩ := hQ209
          have N209 := Fr.app N202 Nq209
          refine Go.by (B := (T209.setTop (mkF m 47 #[.val (.int p1), .val (.int p2), .val (.int v184), .val (.int v186)] [(.int (own_c p1 (10 : Int32)))]))) (fun _ k => st209 _ k) ?_
          refine Go.by (B := (T209.setTop (mkF m 49 #[.val (.int p1), .val (.int p2), .val (.int v184), .val (.int v186)] [(.int 1), (.int p2), (.int (own_c p1 (10 : Int32)))]))) (fun _ k => XS.iloadN X209.here hx rfl (hb hby d11_47) rfl (XS.iconst X209.here hx rfl (hb hby d11_48) k)) ?_
          obtain ⟨_, _, ⟨T210, L210, k210, n210⟩, -, X210, ⟨Lc210, hQ210, l210, y210, z210⟩, st210⟩ := Jvm.LawKit.callS X209 hx (y := (⟨"com/example/breakwater/breakwater/engine/InstanceEqualsPinLaw", "ch", "(II)C"⟩ : MethodName)) hown (mvT hZ (wd hw 32 rfl)) (mvT hZ (wd hw 33 rfl)) (mvT hZ (wd hw 5 rfl)) (mvT hZ (wd hw 34 rfl)) (by decide) (backOf (W := 1) (rm_ch1 l Z a0 hw [] p2 h0 n0 Z0 ) hZ (wd hw 34 rfl) (wd hw 5 rfl) (by decide) (by decide)) (g := (mkF m 49 #[.val (.int p1), .val (.int p2), .val (.int v184), .val (.int v186)] [(.int 1), (.int p2), (.int (own_c p1 (10 : Int32)))])) rfl (by rw [hml]; rfl) (argsL := [(.int p2), (.int 1)]) (rest := [(.int (own_c p1 (10 : Int32)))]) (lenOf pd_6 rfl) rfl (by show 2 * 0 + _ ≤ _; exact Nat.le_of_eq rfl) (hb hby d11_49) (fun _ _ => ⟨rfl, hh209, Nat.le_of_ble_eq_true rfl, Nat.le_of_ble_eq_true rfl⟩)
          dsimp only [Pt.U, Pt.locs, Pt.cells, Pt.slots] at X210 l210 y210 z210 st210 hQ210
          subst l210 y210 z210
          obtain ⟨rfl, Nq210, hh210⟩ := hQ210
          have N210 := Fr.app N209 Nq210
          refine Go.by (B := (T210.setTop (mkF m 52 #[.val (.int p1), .val (.int p2), .val (.int v184), .val (.int v186)] [(.int (own_c p2 (10 : Int32))), (.int (own_c p1 (10 : Int32)))]))) (fun _ k => st210 _ k) ?_
          by_cases c211 : (own_c p1 (10 : Int32)) = (own_c p2 (10 : Int32))
          · skip
            refine Go.by (B := (T210.setTop (mkF m 59 #[.val (.int p1), .val (.int p2), .val (.int v184), .val (.int v186)] [(.int 3), (.int v184)]))) (fun _ k => XS.icmpYes X210.here hx rfl (pc0 := 52) (pc' := 57) rfl (hb hby d11_52) rfl (teq c211).1 (by decide) (by decide) (XS.iloadN X210.here hx rfl (hb hby d11_57) rfl (XS.iconst X210.here hx rfl (hb hby d11_58) k))) ?_
            by_cases c212 : v184 < (3 : Int32)
            · skip
              refine Go.by (B := (T210.setTop (mkF m 78 #[.val (.int p1), .val (.int p2), .val (.int v184), .val (.int v186)] [(.int 1)]))) (fun _ k => XS.icmpYes X210.here hx rfl (pc0 := 59) (pc' := 77) rfl (hb hby d11_59) rfl (tlt c212).1 (by decide) (by decide) (XS.iconst X210.here hx rfl (hb hby d11_77) k)) ?_
              refine Go.ret X210 hx hlk (t := .boolean) hret rfl (Or.inl ⟨rfl, by simp, _, rfl⟩) (hb hby d11_78) (by decide) (by decide) ?_
              rw [hh210]
              exact ⟨(1 : Int32), rfl, N210, rfl, (Or.inl ⟨rfl, (own_same hv184 hv186).mpr ⟨c187, (fun _ => c203), (fun _ => c211), (fun q => absurd c212 q)⟩⟩)⟩
            · skip
              refine Go.by (B := (T210.setTop (mkF m 64 #[.val (.int p1), .val (.int p2), .val (.int v184), .val (.int v186)] [(.int 2), (.int p1)]))) (fun _ k => XS.icmpNo X210.here hx rfl (hb hby d11_59) rfl (flt c212).1 (XS.iloadN X210.here hx rfl (hb hby d11_62) rfl (XS.iconst X210.here hx rfl (hb hby d11_63) k))) ?_
              obtain ⟨_, _, ⟨T213, L213, k213, n213⟩, -, X213, ⟨Lc213, hQ213, l213, y213, z213⟩, st213⟩ := Jvm.LawKit.callS X210 hx (y := (⟨"com/example/breakwater/breakwater/engine/InstanceEqualsPinLaw", "ch", "(II)C"⟩ : MethodName)) hown (mvT hZ (wd hw 32 rfl)) (mvT hZ (wd hw 33 rfl)) (mvT hZ (wd hw 5 rfl)) (mvT hZ (wd hw 34 rfl)) (by decide) (backOf (W := 0) (rm_ch2 l Z a0 hw [] p1 h0 n0 Z0 ) hZ (wd hw 34 rfl) (wd hw 5 rfl) (by decide) (by decide)) (g := (mkF m 64 #[.val (.int p1), .val (.int p2), .val (.int v184), .val (.int v186)] [(.int 2), (.int p1)])) rfl (by rw [hml]; rfl) (argsL := [(.int p1), (.int 2)]) (rest := []) (lenOf pd_6 rfl) rfl (by show 2 * 0 + _ ≤ _; exact Nat.le_of_eq rfl) (hb hby d11_64) (fun _ _ => ⟨rfl, hh210, Nat.le_of_ble_eq_true rfl, Nat.le_of_ble_eq_true rfl⟩)
              dsimp only [Pt.U, Pt.locs, Pt.cells, Pt.slots] at X213 l213 y213 z213 st213 hQ213
              subst l213 y213 z213
              obtain ⟨rfl, Nq213, hh213⟩ := hQ213
              have N213 := Fr.app N210 Nq213
              refine Go.by (B := (T213.setTop (mkF m 67 #[.val (.int p1), .val (.int p2), .val (.int v184), .val (.int v186)] [(.int (own_c p1 (18 : Int32)))]))) (fun _ k => st213 _ k) ?_
              refine Go.by (B := (T213.setTop (mkF m 69 #[.val (.int p1), .val (.int p2), .val (.int v184), .val (.int v186)] [(.int 2), (.int p2), (.int (own_c p1 (18 : Int32)))]))) (fun _ k => XS.iloadN X213.here hx rfl (hb hby d11_67) rfl (XS.iconst X213.here hx rfl (hb hby d11_68) k)) ?_
              obtain ⟨_, _, ⟨T214, L214, k214, n214⟩, -, X214, ⟨Lc214, hQ214, l214, y214, z214⟩, st214⟩ := Jvm.LawKit.callS X213 hx (y := (⟨"com/example/breakwater/breakwater/engine/InstanceEqualsPinLaw", "ch", "(II)C"⟩ : MethodName)) hown (mvT hZ (wd hw 32 rfl)) (mvT hZ (wd hw 33 rfl)) (mvT hZ (wd hw 5 rfl)) (mvT hZ (wd hw 34 rfl)) (by decide) (backOf (W := 1) (rm_ch2 l Z a0 hw [] p2 h0 n0 Z0 ) hZ (wd hw 34 rfl) (wd hw 5 rfl) (by decide) (by decide)) (g := (mkF m 69 #[.val (.int p1), .val (.int p2), .val (.int v184), .val (.int v186)] [(.int 2), (.int p2), (.int (own_c p1 (18 : Int32)))])) rfl (by rw [hml]; rfl) (argsL := [(.int p2), (.int 2)]) (rest := [(.int (own_c p1 (18 : Int32)))]) (lenOf pd_6 rfl) rfl (by show 2 * 0 + _ ≤ _; exact Nat.le_of_eq rfl) (hb hby d11_69) (fun _ _ => ⟨rfl, hh213, Nat.le_of_ble_eq_true rfl, Nat.le_of_ble_eq_true rfl⟩)
              dsimp only [Pt.U, Pt.locs, Pt.cells, Pt.slots] at X214 l214 y214 z214 st214 hQ214
              subst l214 y214 z214
              obtain ⟨rfl, Nq214, hh214⟩ := hQ214
              have N214 := Fr.app N213 Nq214
              refine Go.by (B := (T214.setTop (mkF m 72 #[.val (.int p1), .val (.int p2), .val (.int v184), .val (.int v186)] [(.int (own_c p2 (18 : Int32))), (.int (own_c p1 (18 : Int32)))]))) (fun _ k => st214 _ k) ?_
              by_cases c215 : (own_c p1 (18 : Int32)) = (own_c p2 (18 : Int32))
              · skip
                refine Go.by (B := (T214.setTop (mkF m 78 #[.val (.int p1), .val (.int p2), .val (.int v184), .val (.int v186)] [(.int 1)]))) (fun _ k => XS.icmpYes X214.here hx rfl (pc0 := 72) (pc' := 77) rfl (hb hby d11_72) rfl (teq c215).1 (by decide) (by decide) (XS.iconst X214.here hx rfl (hb hby d11_77) k)) ?_
                refine Go.ret X214 hx hlk (t := .boolean) hret rfl (Or.inl ⟨rfl, by simp, _, rfl⟩) (hb hby d11_78) (by decide) (by decide) ?_
                rw [hh214]
                exact ⟨(1 : Int32), rfl, N214, rfl, (Or.inl ⟨rfl, (own_same hv184 hv186).mpr ⟨c187, (fun _ => c203), (fun _ => c211), (fun _ => c215)⟩⟩)⟩
              · skip
                refine Go.by (B := (T214.setTop (mkF m 76 #[.val (.int p1), .val (.int p2), .val (.int v184), .val (.int v186)] [(.int 0)]))) (fun _ k => XS.icmpNo X214.here hx rfl (hb hby d11_72) rfl (feq c215).1 (XS.iconst X214.here hx rfl (hb hby d11_75) k)) ?_
                refine Go.ret X214 hx hlk (t := .boolean) hret rfl (Or.inl ⟨rfl, by simp, _, rfl⟩) (hb hby d11_76) (by decide) (by decide) ?_
                rw [hh214]
                exact ⟨(0 : Int32), rfl, N214, rfl, (Or.inr ⟨rfl, fun q => c215 (((own_same hv184 hv186).mp q).2.2.2 c212)⟩)⟩
          · skip
            refine Go.by (B := (T210.setTop (mkF m 56 #[.val (.int p1), .val (.int p2), .val (.int v184), .val (.int v186)] [(.int 0)]))) (fun _ k => XS.icmpNo X210.here hx rfl (hb hby d11_52) rfl (feq c211).1 (XS.iconst X210.here hx rfl (hb hby d11_55) k)) ?_
            refine Go.ret X210 hx hlk (t := .boolean) hret rfl (Or.inl ⟨rfl, by simp, _, rfl⟩) (hb hby d11_56) (by decide) (by decide) ?_
            rw [hh210]
            exact ⟨(0 : Int32), rfl, N210, rfl, (Or.inr ⟨rfl, fun q => c211 (((own_same hv184 hv186).mp q).2.2.1 c204)⟩)⟩
      · skip
        refine Go.by (B := (T202.setTop (mkF m 36 #[.val (.int p1), .val (.int p2), .val (.int v184), .val (.int v186)] [(.int 0)]))) (fun _ k => XS.icmpNo X202.here hx rfl (hb hby d11_32) rfl (feq c203).1 (XS.iconst X202.here hx rfl (hb hby d11_35) k)) ?_
        refine Go.ret X202 hx hlk (t := .boolean) hret rfl (Or.inl ⟨rfl, by simp, _, rfl⟩) (hb hby d11_36) (by decide) (by decide) ?_
        rw [hh202]
        exact ⟨(0 : Int32), rfl, N202, rfl, (Or.inr ⟨rfl, fun q => c203 (((own_same hv184 hv186).mp q).2.1 c188)⟩)⟩
  · skip
    refine Go.by (B := (T185.setTop (mkF m 16 #[.val (.int p1), .val (.int p2), .val (.int v184), .val (.int v186)] [(.int 0)]))) (fun _ k => XS.icmpNo X185.here hx rfl (hb hby d11_12) rfl (feq c187).1 (XS.iconst X185.here hx rfl (hb hby d11_15) k)) ?_
    refine Go.ret X185 hx hlk (t := .boolean) hret rfl (Or.inl ⟨rfl, by simp, _, rfl⟩) (hb hby d11_16) (by decide) (by decide) ?_
    rw [hh185]
    exact ⟨(0 : Int32), rfl, N185, rfl, (Or.inr ⟨rfl, fun q => c187 ((own_same hv184 hv186).mp q).1⟩)⟩
theorem ef_rm_inst (m : MethodId) (x0 : Addr) (x1 : Addr) (x2 : Addr) : entryFrame m #[(.ref x0), (.ref x1), (.ref x2)] 3 = mkF m 0 #[.val (.ref x0), .val (.ref x1), .val (.ref x2)] [] := by first | (simp [entryFrame, mkF, argsToLocals, Value.category]; done) | rfl
theorem d10_0 : decode prog_13_method_1_code 0 = .ok (.aload_n 0, 1) := by decide +kernel
theorem d10_1 : decode prog_13_method_1_code 1 = .ok (.invokespecial 1, 3) := by decide +kernel
theorem d10_4 : decode prog_13_method_1_code 4 = .ok (.aload_n 0, 1) := by decide +kernel
theorem d10_5 : decode prog_13_method_1_code 5 = .ok (.aload_n 1, 1) := by decide +kernel
theorem d10_6 : decode prog_13_method_1_code 6 = .ok (.putfield 7, 3) := by decide +kernel
theorem d10_9 : decode prog_13_method_1_code 9 = .ok (.aload_n 0, 1) := by decide +kernel
theorem d10_10 : decode prog_13_method_1_code 10 = .ok (.aload_n 2, 1) := by decide +kernel
theorem d10_11 : decode prog_13_method_1_code 11 = .ok (.putfield 13, 3) := by decide +kernel
theorem d10_14 : decode prog_13_method_1_code 14 = .ok (.return_, 1) := by decide +kernel
theorem pn_com_example_breakwater_breakwater_engine_Instance : plainName "com/example/breakwater/breakwater/engine/Instance" = true := by first | (simp [plainName, overriddenIn]; done) | decide +kernel
def Q_rm_inst (Z : State) (a1 : Addr) (x1 : Addr) (x2 : Addr) (h0 : Heap) (n0 : Nat) (vv : Option Value) (h : Heap) (L : List Loc) : Prop := vv = none ∧ Fr n0 L ∧ Keep h0 h [a1] ∧ Exa Z h a1 "com/example/breakwater/breakwater/engine/Instance" ∧ Fld Z h a1 "com/example/breakwater/breakwater/engine/Instance" "node" "Ljava/lang/String;" (.ref x1) ∧ Fld Z h a1 "com/example/breakwater/breakwater/engine/Instance" "url" "Ljava/lang/String;" (.ref x2)
set_option maxRecDepth 65536 in
set_option maxHeartbeats 40000000 in
theorem rm_inst (l : Launch) (Z : State) (a0 : Array Value) (hw : ∀ d ∈ tables_1, d.before a0 Z = true) (ws : List Jvm.Cond) (a1 : Addr) (x1 : Addr) (x2 : Addr) (h0 : Heap) (n0 : Nat) (Z0 : n0 ≤ h0.size) (pr0 : Old Z n0 h0) (pr1 : Exa Z h0 a1 "com/example/breakwater/breakwater/engine/Instance") (pr2 : Fld Z h0 a1 "com/example/breakwater/breakwater/engine/Instance" "node" "Ljava/lang/String;" .null) (pr3 : Fld Z h0 a1 "com/example/breakwater/breakwater/engine/Instance" "url" "Ljava/lang/String;" .null) (pr4 : n0 ≤ a1) :
    Met l Z (⟨"com/example/breakwater/breakwater/engine/Instance", "<init>", "(Ljava/lang/String;Ljava/lang/String;)V"⟩ : MethodName) prog_13_method_1_code 3 none ws ({ frames := 1, cells := 0, slots := 0, locals := 12 } : Room) #[(.ref a1), (.ref x1), (.ref x2)] h0 (Q_rm_inst Z a1 x1 x2 h0 n0) := by
  refine Met.enter (f0 := fun m => mkF m 0 #[.val (.ref a1), .val (.ref x1), .val (.ref x2)] []) (plainFor_of_name pn_com_example_breakwater_breakwater_engine_Instance) (fun m => ef_rm_inst m a1 x1 x2) ?_
  intro p e s m below meth c s₁ hx hby hml hown hnm hret hlk hZ X0 e0
  have hown : s.vm.findClass "com/example/breakwater/breakwater/engine/Instance" = some m.cls := hown
  have hnm : meth.name = "<init>" := hnm
  have hml : c.maxLocals = 3 := hml
  have hby : c.code = prog_13_method_1_code := hby
  have N0 := Fr.nil n0
  refine Go.by (B := (s₁.setTop (mkF m 1 #[.val (.ref a1), .val (.ref x1), .val (.ref x2)] [(.ref a1)]))) (fun _ k => XS.aloadN X0.here hx rfl (hb hby d10_0) rfl rfl k) ?_
  obtain ⟨T216, X216, e216, st216⟩ := initO X0 hx hZ hown (wd hw 49 rfl) (wd hw 22 rfl) (wd hw 23 rfl) e0 (g := (mkF m 1 #[.val (.ref a1), .val (.ref x1), .val (.ref x2)] [(.ref a1)])) rfl (by rw [hml]; rfl) rfl (hb hby d10_1) (by decide) (W := 0) (by show 2 * 0 + _ ≤ _; exact Nat.le_of_eq rfl) (by decide)
  refine Go.by (B := (T216.setTop (mkF m 4 #[.val (.ref a1), .val (.ref x1), .val (.ref x2)] []))) st216 ?_
  refine Go.by (B := (T216.setTop (mkF m 6 #[.val (.ref a1), .val (.ref x1), .val (.ref x2)] [(.ref x1), (.ref a1)]))) (fun _ k => XS.aloadN X216.here hx rfl (hb hby d10_4) rfl rfl (XS.aloadN X216.here hx rfl (hb hby d10_5) rfl rfl k)) ?_
  obtain ⟨T217, h217, X217, e217, W217, st217⟩ := putF X216 hx hZ hown (host := "") (Or.inl (wd hw 50 rfl)) Via.refl e216 pr2 pr1 (Or.inr ⟨(wd hw 51 rfl), rfl, hnm⟩) (wd hw 1 rfl) (ty := (.object "java/lang/String")) (by decide) rfl rfl (g := (mkF m 6 #[.val (.ref a1), .val (.ref x1), .val (.ref x2)] [(.ref x1), (.ref a1)])) rfl rfl (hb hby d10_6)
  have N217 := Fr.snoc X217 N0 pr4
  have O218 := pr0.wr W217 pr4
  have Z218 : n0 ≤ h217.size := Nat.le_trans Z0 (Keep.of_wr W217).1
  have F217 := pr2.same W217
  refine Go.by (B := (T217.setTop (mkF m 9 #[.val (.ref a1), .val (.ref x1), .val (.ref x2)] []))) st217 ?_
  refine Go.by (B := (T217.setTop (mkF m 11 #[.val (.ref a1), .val (.ref x1), .val (.ref x2)] [(.ref x2), (.ref a1)]))) (fun _ k => XS.aloadN X217.here hx rfl (hb hby d10_9) rfl rfl (XS.aloadN X217.here hx rfl (hb hby d10_10) rfl rfl k)) ?_
  have f219 := (pr3.other W217 (Or.inr (slot_ne (Or.inr (wd hw 53 rfl)) (Or.inr (wd hw 51 rfl)) (by decide) (t := (.object "java/lang/String")) (t' := (.object "java/lang/String")) (by decide) (by decide))))
  obtain ⟨T220, h220, X220, e220, W220, st220⟩ := putF X217 hx hZ hown (host := "") (Or.inl (wd hw 52 rfl)) Via.refl e217 f219 (pr1.wr W217) (Or.inr ⟨(wd hw 53 rfl), rfl, hnm⟩) (wd hw 1 rfl) (ty := (.object "java/lang/String")) (by decide) rfl rfl (g := (mkF m 11 #[.val (.ref a1), .val (.ref x1), .val (.ref x2)] [(.ref x2), (.ref a1)])) rfl rfl (hb hby d10_11)
  have N220 := Fr.snoc X220 N217 pr4
  have O221 := O218.wr W220 pr4
  have Z221 : n0 ≤ h220.size := Nat.le_trans Z218 (Keep.of_wr W220).1
  have F220 := f219.same W220
  refine Go.by (B := (T220.setTop (mkF m 14 #[.val (.ref a1), .val (.ref x1), .val (.ref x2)] []))) st220 ?_
  refine Go.retV X220 hx hlk hret (hb hby d10_14) (by decide) (by decide) ?_
  rw [e220]
  exact ⟨rfl, N220, (((Keep.refl h0 [a1]).wr W217 (Or.inl (List.mem_of_getElem? (i := 0) rfl))).wr W220 (Or.inl (List.mem_of_getElem? (i := 0) rfl))), ((pr1.wr W217).wr W220), (F217.other W220 (Or.inr (slot_ne (Or.inr (wd hw 51 rfl)) (Or.inr (wd hw 53 rfl)) (by decide) (t := (.object "java/lang/String")) (t' := (.object "java/lang/String")) (by decide) (by decide)))), F220⟩
theorem ef_rm_eq_s (m : MethodId) (x0 : Addr) (x1 : Addr) : entryFrame m #[(.ref x0), (.ref x1)] 3 = mkF m 0 #[.val (.ref x0), .val (.ref x1), .unset] [] := by first | (simp [entryFrame, mkF, argsToLocals, Value.category]; done) | rfl
theorem d12_0 : decode prog_13_method_4_code 0 = .ok (.aload_n 0, 1) := by decide +kernel
theorem d12_1 : decode prog_13_method_4_code 1 = .ok (.aload_n 1, 1) := by decide +kernel
theorem d12_2 : decode prog_13_method_4_code 2 = .ok (.if_acmp .ne 5, 3) := by decide +kernel
theorem d12_5 : decode prog_13_method_4_code 5 = .ok (.iconst 1, 1) := by decide +kernel
theorem d12_6 : decode prog_13_method_4_code 6 = .ok (.ireturn, 1) := by decide +kernel
def Q_rm_eq_s (Z : State) (a1 : Addr) (h0 : Heap) (n0 : Nat) (vv : Option Value) (h : Heap) (L : List Loc) : Prop := vv = some (.int 1) ∧ Fr n0 L ∧ h = h0
set_option maxRecDepth 65536 in
set_option maxHeartbeats 40000000 in
theorem rm_eq_s (l : Launch) (Z : State) (a0 : Array Value) (hw : ∀ d ∈ tables_1, d.before a0 Z = true) (ws : List Jvm.Cond) (a1 : Addr) (h0 : Heap) (n0 : Nat) (Z0 : n0 ≤ h0.size) :
    Met l Z (⟨"com/example/breakwater/breakwater/engine/Instance", "equals", "(Ljava/lang/Object;)Z"⟩ : MethodName) prog_13_method_4_code 3 (some .boolean) ws ({ frames := 0, cells := 0, slots := 0, locals := 0 } : Room) #[(.ref a1), (.ref a1)] h0 (Q_rm_eq_s Z a1 h0 n0) := by
  refine Met.enter (f0 := fun m => mkF m 0 #[.val (.ref a1), .val (.ref a1), .unset] []) (plainFor_of_name pn_com_example_breakwater_breakwater_engine_Instance) (fun m => ef_rm_eq_s m a1 a1) ?_
  intro p e s m below meth c s₁ hx hby hml hown hnm hret hlk hZ X0 e0
  have hown : s.vm.findClass "com/example/breakwater/breakwater/engine/Instance" = some m.cls := hown
  have hnm : meth.name = "equals" := hnm
  have hml : c.maxLocals = 3 := hml
  have hby : c.code = prog_13_method_4_code := hby
  have N0 := Fr.nil n0
  refine Go.by (B := (s₁.setTop (mkF m 6 #[.val (.ref a1), .val (.ref a1), .unset] [(.int 1)]))) (fun _ k => XS.aloadN X0.here hx rfl (hb hby d12_0) rfl rfl (XS.aloadN X0.here hx rfl (hb hby d12_1) rfl rfl (Jvm.RoadKit.acmp (g := (mkF m 2 #[.val (.ref a1), .val (.ref a1), .unset] [(.ref a1), (.ref a1)])) X0 hx rfl rfl rfl (pc0 := 2) (pc' := 5) (same := true) rfl (hb hby d12_2) rfl (decide_eq_true rfl) (by decide) (by decide) (XS.iconst X0.here hx rfl (hb hby d12_5) k)))) ?_
  refine Go.ret X0 hx hlk (t := .boolean) hret rfl (Or.inl ⟨rfl, by simp, _, rfl⟩) (hb hby d12_6) (by decide) (by decide) ?_
  rw [e0]
  exact ⟨rfl, N0, rfl⟩
theorem ef_rm_eq_n (m : MethodId) (x0 : Addr) : entryFrame m #[(.ref x0), .null] 3 = mkF m 0 #[.val (.ref x0), .val .null, .unset] [] := by first | (simp [entryFrame, mkF, argsToLocals, Value.category]; done) | rfl
theorem d12_7 : decode prog_13_method_4_code 7 = .ok (.aload_n 1, 1) := by decide +kernel
theorem d12_8 : decode prog_13_method_4_code 8 = .ok (.instanceof 8, 3) := by decide +kernel
theorem d12_11 : decode prog_13_method_4_code 11 = .ok (.ifCond .eq 11, 3) := by decide +kernel
theorem d12_22 : decode prog_13_method_4_code 22 = .ok (.iconst 0, 1) := by decide +kernel
theorem d12_23 : decode prog_13_method_4_code 23 = .ok (.ireturn, 1) := by decide +kernel
def Q_rm_eq_n (Z : State) (a1 : Addr) (h0 : Heap) (n0 : Nat) (vv : Option Value) (h : Heap) (L : List Loc) : Prop := vv = some (.int 0) ∧ Fr n0 L ∧ h = h0
set_option maxRecDepth 65536 in
set_option maxHeartbeats 40000000 in
theorem rm_eq_n (l : Launch) (Z : State) (a0 : Array Value) (hw : ∀ d ∈ tables_1, d.before a0 Z = true) (ws : List Jvm.Cond) (a1 : Addr) (h0 : Heap) (n0 : Nat) (Z0 : n0 ≤ h0.size) :
    Met l Z (⟨"com/example/breakwater/breakwater/engine/Instance", "equals", "(Ljava/lang/Object;)Z"⟩ : MethodName) prog_13_method_4_code 3 (some .boolean) ws ({ frames := 0, cells := 0, slots := 0, locals := 0 } : Room) #[(.ref a1), .null] h0 (Q_rm_eq_n Z a1 h0 n0) := by
  refine Met.enter (f0 := fun m => mkF m 0 #[.val (.ref a1), .val .null, .unset] []) (plainFor_of_name pn_com_example_breakwater_breakwater_engine_Instance) (fun m => ef_rm_eq_n m a1) ?_
  intro p e s m below meth c s₁ hx hby hml hown hnm hret hlk hZ X0 e0
  have hown : s.vm.findClass "com/example/breakwater/breakwater/engine/Instance" = some m.cls := hown
  have hnm : meth.name = "equals" := hnm
  have hml : c.maxLocals = 3 := hml
  have hby : c.code = prog_13_method_4_code := hby
  have N0 := Fr.nil n0
  refine Go.by (B := (s₁.setTop (mkF m 23 #[.val (.ref a1), .val .null, .unset] [(.int 0)]))) (fun _ k => XS.aloadN X0.here hx rfl (hb hby d12_0) rfl rfl (XS.aloadN X0.here hx rfl (hb hby d12_1) rfl rfl (Jvm.RoadKit.acmp (g := (mkF m 2 #[.val (.ref a1), .val .null, .unset] [.null, (.ref a1)])) X0 hx rfl rfl rfl (pc0 := 2) (pc' := 7) (same := false) rfl (hb hby d12_2) rfl (decide_eq_false nofun) (by decide) (by decide) (XS.aloadN X0.here hx rfl (hb hby d12_7) rfl rfl (X0.instanceofNull hx (g := (mkF m 8 #[.val (.ref a1), .val .null, .unset] [.null])) rfl rfl (hb hby d12_8) _ (XS.ifYes X0.here hx rfl (pc0 := 11) (pc' := 22) rfl (hb hby d12_11) rfl ((if0 _ _).trans (teq (by decide : (0 : Int32) = (0 : Int32))).1) (by decide) (by decide) (XS.iconst X0.here hx rfl (hb hby d12_22) k))))))) ?_
  refine Go.ret X0 hx hlk (t := .boolean) hret rfl (Or.inl ⟨rfl, by simp, _, rfl⟩) (hb hby d12_23) (by decide) (by decide) ?_
  rw [e0]
  exact ⟨rfl, N0, rfl⟩
theorem ef_rm_eq_o (m : MethodId) (x0 : Addr) (x1 : Addr) : entryFrame m #[(.ref x0), (.ref x1)] 3 = mkF m 0 #[.val (.ref x0), .val (.ref x1), .unset] [] := by first | (simp [entryFrame, mkF, argsToLocals, Value.category]; done) | rfl
def Q_rm_eq_o (Z : State) (a1 : Addr) (a2 : Addr) (h0 : Heap) (n0 : Nat) (vv : Option Value) (h : Heap) (L : List Loc) : Prop := vv = some (.int 0) ∧ Fr n0 L ∧ h = h0
set_option maxRecDepth 65536 in
set_option maxHeartbeats 40000000 in
theorem rm_eq_o (l : Launch) (Z : State) (a0 : Array Value) (hw : ∀ d ∈ tables_1, d.before a0 Z = true) (ws : List Jvm.Cond) (a1 : Addr) (a2 : Addr) (h0 : Heap) (n0 : Nat) (Z0 : n0 ≤ h0.size) (pr0 : Exa Z h0 a1 "com/example/breakwater/breakwater/engine/Instance") (pr1 : Exa Z h0 a2 "java/lang/String") :
    Met l Z (⟨"com/example/breakwater/breakwater/engine/Instance", "equals", "(Ljava/lang/Object;)Z"⟩ : MethodName) prog_13_method_4_code 3 (some .boolean) ws ({ frames := 0, cells := 0, slots := 0, locals := 0 } : Room) #[(.ref a1), (.ref a2)] h0 (Q_rm_eq_o Z a1 a2 h0 n0) := by
  refine Met.enter (f0 := fun m => mkF m 0 #[.val (.ref a1), .val (.ref a2), .unset] []) (plainFor_of_name pn_com_example_breakwater_breakwater_engine_Instance) (fun m => ef_rm_eq_o m a1 a2) ?_
  intro p e s m below meth c s₁ hx hby hml hown hnm hret hlk hZ X0 e0
  have hown : s.vm.findClass "com/example/breakwater/breakwater/engine/Instance" = some m.cls := hown
  have hnm : meth.name = "equals" := hnm
  have hml : c.maxLocals = 3 := hml
  have hby : c.code = prog_13_method_4_code := hby
  have N0 := Fr.nil n0
  refine Go.by (B := (s₁.setTop (mkF m 8 #[.val (.ref a1), .val (.ref a2), .unset] [(.ref a2)]))) (fun _ k => XS.aloadN X0.here hx rfl (hb hby d12_0) rfl rfl (XS.aloadN X0.here hx rfl (hb hby d12_1) rfl rfl (Jvm.RoadKit.acmp (g := (mkF m 2 #[.val (.ref a1), .val (.ref a2), .unset] [(.ref a2), (.ref a1)])) X0 hx rfl rfl rfl (pc0 := 2) (pc' := 7) (same := false) rfl (hb hby d12_2) rfl (decide_eq_false fun q => (ne_exa pr0 pr1 (by decide)) (Value.ref.inj q)) (by decide) (by decide) (XS.aloadN X0.here hx rfl (hb hby d12_7) rfl rfl k)))) ?_
  obtain ⟨T222, X222, e222, st222⟩ := instNo X0 hx hZ hown (wd hw 62 rfl) e0 pr1 (own_notsub (wd hw 74 rfl) (wd hw 75 rfl) (wd hw 1 rfl) (by decide) (by decide)) (g := (mkF m 8 #[.val (.ref a1), .val (.ref a2), .unset] [(.ref a2)])) rfl rfl (hb hby d12_8)
  refine Go.by (B := (T222.setTop (mkF m 11 #[.val (.ref a1), .val (.ref a2), .unset] [(.int 0)]))) st222 ?_
  refine Go.by (B := (T222.setTop (mkF m 23 #[.val (.ref a1), .val (.ref a2), .unset] [(.int 0)]))) (fun _ k => XS.ifYes X222.here hx rfl (pc0 := 11) (pc' := 22) rfl (hb hby d12_11) rfl ((if0 _ _).trans (teq (by decide : (0 : Int32) = (0 : Int32))).1) (by decide) (by decide) (XS.iconst X222.here hx rfl (hb hby d12_22) k)) ?_
  refine Go.ret X222 hx hlk (t := .boolean) hret rfl (Or.inl ⟨rfl, by simp, _, rfl⟩) (hb hby d12_23) (by decide) (by decide) ?_
  rw [e222]
  exact ⟨rfl, N0, rfl⟩
theorem ef_rm_eq_i (m : MethodId) (x0 : Addr) (x1 : Addr) : entryFrame m #[(.ref x0), (.ref x1)] 3 = mkF m 0 #[.val (.ref x0), .val (.ref x1), .unset] [] := by first | (simp [entryFrame, mkF, argsToLocals, Value.category]; done) | rfl
theorem d12_14 : decode prog_13_method_4_code 14 = .ok (.aload_n 1, 1) := by decide +kernel
theorem d12_15 : decode prog_13_method_4_code 15 = .ok (.checkcast 8, 3) := by decide +kernel
theorem d12_18 : decode prog_13_method_4_code 18 = .ok (.astore_n 2, 1) := by decide +kernel
theorem d12_19 : decode prog_13_method_4_code 19 = .ok (.goto 5, 3) := by decide +kernel
theorem d12_24 : decode prog_13_method_4_code 24 = .ok (.aload_n 0, 1) := by decide +kernel
theorem d12_25 : decode prog_13_method_4_code 25 = .ok (.getfield 7, 3) := by decide +kernel
theorem d12_28 : decode prog_13_method_4_code 28 = .ok (.aload_n 2, 1) := by decide +kernel
theorem d12_29 : decode prog_13_method_4_code 29 = .ok (.getfield 7, 3) := by decide +kernel
theorem d12_32 : decode prog_13_method_4_code 32 = .ok (.invokevirtual 16, 3) := by decide +kernel
theorem pd_7 : parseMethodDescriptor "(Ljava/lang/Object;)Z" = some ⟨[(.object "java/lang/Object")], some .boolean⟩ := by decide +kernel
theorem d12_35 : decode prog_13_method_4_code 35 = .ok (.ifCond .eq 21, 3) := by decide +kernel
theorem d12_38 : decode prog_13_method_4_code 38 = .ok (.aload_n 0, 1) := by decide +kernel
theorem d12_39 : decode prog_13_method_4_code 39 = .ok (.getfield 13, 3) := by decide +kernel
theorem d12_42 : decode prog_13_method_4_code 42 = .ok (.aload_n 2, 1) := by decide +kernel
theorem d12_43 : decode prog_13_method_4_code 43 = .ok (.getfield 13, 3) := by decide +kernel
theorem d12_46 : decode prog_13_method_4_code 46 = .ok (.invokevirtual 16, 3) := by decide +kernel
theorem d12_49 : decode prog_13_method_4_code 49 = .ok (.ifCond .eq 7, 3) := by decide +kernel
theorem d12_52 : decode prog_13_method_4_code 52 = .ok (.iconst 1, 1) := by decide +kernel
theorem d12_53 : decode prog_13_method_4_code 53 = .ok (.goto 4, 3) := by decide +kernel
theorem d12_57 : decode prog_13_method_4_code 57 = .ok (.ireturn, 1) := by decide +kernel
theorem d12_56 : decode prog_13_method_4_code 56 = .ok (.iconst 0, 1) := by decide +kernel
def Q_rm_eq_i (Z : State) (a1 : Addr) (a2 : Addr) (n1 : Addr) (u1 : Addr) (nt1 : Addr) (nk1 : ClassId) (ut1 : Addr) (uk1 : ClassId) (nc1 : List Int32) (uc1 : List Int32) (n2 : Addr) (u2 : Addr) (nt2 : Addr) (nk2 : ClassId) (ut2 : Addr) (uk2 : ClassId) (nc2 : List Int32) (uc2 : List Int32) (cs : Int32) (h0 : Heap) (n0 : Nat) (vv : Option Value) (h : Heap) (L : List Loc) : Prop := ∃ v : Int32, vv = some (.int v) ∧ Fr n0 L ∧ h = h0 ∧ ((v = 1 ∧ (nc1 = nc2 ∧ uc1 = uc2)) ∨ (v = 0 ∧ ¬ (nc1 = nc2 ∧ uc1 = uc2)))
set_option maxRecDepth 65536 in
set_option maxHeartbeats 40000000 in
theorem rm_eq_i (l : Launch) (Z : State) (a0 : Array Value) (hw : ∀ d ∈ tables_1, d.before a0 Z = true) (ws : List Jvm.Cond) (a1 : Addr) (a2 : Addr) (n1 : Addr) (u1 : Addr) (nt1 : Addr) (nk1 : ClassId) (ut1 : Addr) (uk1 : ClassId) (nc1 : List Int32) (uc1 : List Int32) (n2 : Addr) (u2 : Addr) (nt2 : Addr) (nk2 : ClassId) (ut2 : Addr) (uk2 : ClassId) (nc2 : List Int32) (uc2 : List Int32) (cs : Int32) (h0 : Heap) (n0 : Nat) (Z0 : n0 ≤ h0.size) (pr0 : Old Z n0 h0) (pr1 : Sta Z Z.heap "java/lang/String" "COMPACT_STRINGS" "Z" (.int cs)) (hcs : ¬ (cs = (0 : Int32))) (pr3 : Exa Z h0 a1 "com/example/breakwater/breakwater/engine/Instance") (pr4 : Fld Z h0 a1 "com/example/breakwater/breakwater/engine/Instance" "node" "Ljava/lang/String;" (.ref n1)) (pr5 : Fld Z h0 a1 "com/example/breakwater/breakwater/engine/Instance" "url" "Ljava/lang/String;" (.ref u1)) (pr6 : Exa Z h0 n1 "java/lang/String") (pr7 : Fld Z h0 n1 "java/lang/String" "value" "[B" (.ref nt1)) (pr8 : Fld Z h0 n1 "java/lang/String" "coder" "B" (.int 0)) (pr9 : Arv Z h0 nt1 nk1 .byte (own_z nc1) (own_vs nc1) (.int 0)) (pr10 : Exa Z h0 u1 "java/lang/String") (pr11 : Fld Z h0 u1 "java/lang/String" "value" "[B" (.ref ut1)) (pr12 : Fld Z h0 u1 "java/lang/String" "coder" "B" (.int 0)) (pr13 : Arv Z h0 ut1 uk1 .byte (own_z uc1) (own_vs uc1) (.int 0)) (okn1 : own_ok nc1) (oku1 : own_ok uc1) (pr16 : Exa Z h0 a2 "com/example/breakwater/breakwater/engine/Instance") (pr17 : Fld Z h0 a2 "com/example/breakwater/breakwater/engine/Instance" "node" "Ljava/lang/String;" (.ref n2)) (pr18 : Fld Z h0 a2 "com/example/breakwater/breakwater/engine/Instance" "url" "Ljava/lang/String;" (.ref u2)) (pr19 : Exa Z h0 n2 "java/lang/String") (pr20 : Fld Z h0 n2 "java/lang/String" "value" "[B" (.ref nt2)) (pr21 : Fld Z h0 n2 "java/lang/String" "coder" "B" (.int 0)) (pr22 : Arv Z h0 nt2 nk2 .byte (own_z nc2) (own_vs nc2) (.int 0)) (pr23 : Exa Z h0 u2 "java/lang/String") (pr24 : Fld Z h0 u2 "java/lang/String" "value" "[B" (.ref ut2)) (pr25 : Fld Z h0 u2 "java/lang/String" "coder" "B" (.int 0)) (pr26 : Arv Z h0 ut2 uk2 .byte (own_z uc2) (own_vs uc2) (.int 0)) (okn2 : own_ok nc2) (oku2 : own_ok uc2) (pr29 : a1 ≠ a2) :
    Met l Z (⟨"com/example/breakwater/breakwater/engine/Instance", "equals", "(Ljava/lang/Object;)Z"⟩ : MethodName) prog_13_method_4_code 3 (some .boolean) ws ({ frames := 2, cells := 0, slots := 0, locals := 28 } : Room) #[(.ref a1), (.ref a2)] h0 (Q_rm_eq_i Z a1 a2 n1 u1 nt1 nk1 ut1 uk1 nc1 uc1 n2 u2 nt2 nk2 ut2 uk2 nc2 uc2 cs h0 n0) := by
  refine Met.enter (f0 := fun m => mkF m 0 #[.val (.ref a1), .val (.ref a2), .unset] []) (plainFor_of_name pn_com_example_breakwater_breakwater_engine_Instance) (fun m => ef_rm_eq_i m a1 a2) ?_
  intro p e s m below meth c s₁ hx hby hml hown hnm hret hlk hZ X0 e0
  have hown : s.vm.findClass "com/example/breakwater/breakwater/engine/Instance" = some m.cls := hown
  have hnm : meth.name = "equals" := hnm
  have hml : c.maxLocals = 3 := hml
  have hby : c.code = prog_13_method_4_code := hby
  have N0 := Fr.nil n0
  refine Go.by (B := (s₁.setTop (mkF m 8 #[.val (.ref a1), .val (.ref a2), .unset] [(.ref a2)]))) (fun _ k => XS.aloadN X0.here hx rfl (hb hby d12_0) rfl rfl (XS.aloadN X0.here hx rfl (hb hby d12_1) rfl rfl (Jvm.RoadKit.acmp (g := (mkF m 2 #[.val (.ref a1), .val (.ref a2), .unset] [(.ref a2), (.ref a1)])) X0 hx rfl rfl rfl (pc0 := 2) (pc' := 7) (same := false) rfl (hb hby d12_2) rfl (decide_eq_false fun q => pr29 (Value.ref.inj q)) (by decide) (by decide) (XS.aloadN X0.here hx rfl (hb hby d12_7) rfl rfl k)))) ?_
  obtain ⟨T223, X223, e223, st223⟩ := instY X0 hx hZ hown (wd hw 62 rfl) e0 (Ins.self pr16) (g := (mkF m 8 #[.val (.ref a1), .val (.ref a2), .unset] [(.ref a2)])) rfl rfl (hb hby d12_8)
  refine Go.by (B := (T223.setTop (mkF m 11 #[.val (.ref a1), .val (.ref a2), .unset] [(.int 1)]))) st223 ?_
  refine Go.by (B := (T223.setTop (mkF m 15 #[.val (.ref a1), .val (.ref a2), .unset] [(.ref a2)]))) (fun _ k => XS.ifNo X223.here hx rfl (hb hby d12_11) rfl ((if0 _ _).trans (feq (by decide : ¬ ((1 : Int32) = (0 : Int32)))).1) (XS.aloadN X223.here hx rfl (hb hby d12_14) rfl rfl k)) ?_
  obtain ⟨T224, X224, e224, st224⟩ := castY X223 hx hZ hown (wd hw 62 rfl) e223 (Ins.self pr16) (g := (mkF m 15 #[.val (.ref a1), .val (.ref a2), .unset] [(.ref a2)])) rfl rfl (hb hby d12_15)
  refine Go.by (B := (T224.setTop (mkF m 18 #[.val (.ref a1), .val (.ref a2), .unset] [(.ref a2)]))) st224 ?_
  refine Go.by (B := (T224.setTop (mkF m 25 #[.val (.ref a1), .val (.ref a2), .val (.ref a2)] [(.ref a1)]))) (fun _ k => XS.astoreN X224.here hx rfl (hb hby d12_18) rfl rfl (l' := #[.val (.ref a1), .val (.ref a2), .val (.ref a2)]) rfl (XS.goto X224.here hx rfl (pc0 := 19) (pc' := 24) rfl (hb hby d12_19) (by decide) (by decide) (XS.aloadN X224.here hx rfl (hb hby d12_24) rfl rfl k))) ?_
  obtain ⟨T225, X225, e225, st225⟩ := getF X224 hx hZ hown (host := "") (Or.inl (wd hw 50 rfl)) Via.refl e224 pr4 (g := (mkF m 25 #[.val (.ref a1), .val (.ref a2), .val (.ref a2)] [(.ref a1)])) rfl rfl (hb hby d12_25)
  refine Go.by (B := (T225.setTop (mkF m 28 #[.val (.ref a1), .val (.ref a2), .val (.ref a2)] [(.ref n1)]))) st225 ?_
  refine Go.by (B := (T225.setTop (mkF m 29 #[.val (.ref a1), .val (.ref a2), .val (.ref a2)] [(.ref a2), (.ref n1)]))) (fun _ k => XS.aloadN X225.here hx rfl (hb hby d12_28) rfl rfl k) ?_
  obtain ⟨T226, X226, e226, st226⟩ := getF X225 hx hZ hown (host := "") (Or.inl (wd hw 50 rfl)) Via.refl e225 pr17 (g := (mkF m 29 #[.val (.ref a1), .val (.ref a2), .val (.ref a2)] [(.ref a2), (.ref n1)])) rfl rfl (hb hby d12_29)
  refine Go.by (B := (T226.setTop (mkF m 32 #[.val (.ref a1), .val (.ref a2), .val (.ref a2)] [(.ref n2), (.ref n1)]))) st226 ?_
  obtain ⟨cq227, kq227, q227a, q227b, q227c⟩ := isOf hZ e226 pr6
  obtain ⟨_, _, ⟨T227, L227, k227, n227⟩, -, X227, ⟨Lc227, hQ227, l227, y227, z227⟩, st227⟩ := X226.virtualBack hx (y := (⟨"java/lang/String", "equals", "(Ljava/lang/Object;)Z"⟩ : MethodName)) (z := (⟨"java/lang/String", "equals", "(Ljava/lang/Object;)Z"⟩ : MethodName)) hown (mvT hZ (wd hw 64 rfl)) (mvT hZ (wd hw 65 rfl)) (notFace_of_selects (args := #[]) (mvT hZ (wd hw 67 rfl))) (mvT hZ (wd hw 67 rfl)) (mvT hZ (wd hw 66 rfl)) (by decide) (StrChars.Road.eqW (W := 0) hZ (own_heq hw) (kI := 4) (wd hw 11 rfl) pr6 pr7 pr8 pr9 (own_cod okn1) (own_up okn1) okn1.2 pr19 pr20 pr21 pr22 (own_cod okn2) (own_up okn2) okn2.2 (pr1.ext pr0.2) hcs (by decide) (by decide)) q227a q227c (g := (mkF m 32 #[.val (.ref a1), .val (.ref a2), .val (.ref a2)] [(.ref n2), (.ref n1)])) rfl (by rw [hml]; rfl) (Steps.refl _) (argsL := [(.ref n2)]) (rest := []) (lenOf pd_7 rfl) rfl (by show 2 * 0 + _ ≤ _; exact Nat.le_of_eq rfl) (hb hby d12_32) (fun _ _ => ⟨rfl, e226, Nat.le_of_ble_eq_true rfl, Nat.le_of_ble_eq_true rfl⟩)
  dsimp only [Pt.U, Pt.locs, Pt.cells, Pt.slots] at X227 l227 y227 z227 st227 hQ227
  subst l227 y227 z227
  obtain ⟨hv227, hL227, hh227⟩ := hQ227
  subst hL227
  have N227 := Fr.app N0 (Fr.nil n0)
  rcases hv227 with ⟨rfl, e228⟩ | ⟨rfl, e228⟩
  · skip
    refine Go.by (B := (T227.setTop (mkF m 35 #[.val (.ref a1), .val (.ref a2), .val (.ref a2)] [(.int 1)]))) (fun _ k => st227.trans k) ?_
    refine Go.by (B := (T227.setTop (mkF m 39 #[.val (.ref a1), .val (.ref a2), .val (.ref a2)] [(.ref a1)]))) (fun _ k => XS.ifNo X227.here hx rfl (hb hby d12_35) rfl ((if0 _ _).trans (feq (by decide : ¬ ((1 : Int32) = (0 : Int32)))).1) (XS.aloadN X227.here hx rfl (hb hby d12_38) rfl rfl k)) ?_
    obtain ⟨T229, X229, e229, st229⟩ := getF X227 hx hZ hown (host := "") (Or.inl (wd hw 52 rfl)) Via.refl hh227 pr5 (g := (mkF m 39 #[.val (.ref a1), .val (.ref a2), .val (.ref a2)] [(.ref a1)])) rfl rfl (hb hby d12_39)
    refine Go.by (B := (T229.setTop (mkF m 42 #[.val (.ref a1), .val (.ref a2), .val (.ref a2)] [(.ref u1)]))) st229 ?_
    refine Go.by (B := (T229.setTop (mkF m 43 #[.val (.ref a1), .val (.ref a2), .val (.ref a2)] [(.ref a2), (.ref u1)]))) (fun _ k => XS.aloadN X229.here hx rfl (hb hby d12_42) rfl rfl k) ?_
    obtain ⟨T230, X230, e230, st230⟩ := getF X229 hx hZ hown (host := "") (Or.inl (wd hw 52 rfl)) Via.refl e229 pr18 (g := (mkF m 43 #[.val (.ref a1), .val (.ref a2), .val (.ref a2)] [(.ref a2), (.ref u1)])) rfl rfl (hb hby d12_43)
    refine Go.by (B := (T230.setTop (mkF m 46 #[.val (.ref a1), .val (.ref a2), .val (.ref a2)] [(.ref u2), (.ref u1)]))) st230 ?_
    obtain ⟨cq231, kq231, q231a, q231b, q231c⟩ := isOf hZ e230 pr10
    obtain ⟨_, _, ⟨T231, L231, k231, n231⟩, -, X231, ⟨Lc231, hQ231, l231, y231, z231⟩, st231⟩ := X230.virtualBack hx (y := (⟨"java/lang/String", "equals", "(Ljava/lang/Object;)Z"⟩ : MethodName)) (z := (⟨"java/lang/String", "equals", "(Ljava/lang/Object;)Z"⟩ : MethodName)) hown (mvT hZ (wd hw 64 rfl)) (mvT hZ (wd hw 65 rfl)) (notFace_of_selects (args := #[]) (mvT hZ (wd hw 67 rfl))) (mvT hZ (wd hw 67 rfl)) (mvT hZ (wd hw 66 rfl)) (by decide) (StrChars.Road.eqW (W := 0) hZ (own_heq hw) (kI := 4) (wd hw 11 rfl) pr10 pr11 pr12 pr13 (own_cod oku1) (own_up oku1) oku1.2 pr23 pr24 pr25 pr26 (own_cod oku2) (own_up oku2) oku2.2 (pr1.ext pr0.2) hcs (by decide) (by decide)) q231a q231c (g := (mkF m 46 #[.val (.ref a1), .val (.ref a2), .val (.ref a2)] [(.ref u2), (.ref u1)])) rfl (by rw [hml]; rfl) (Steps.refl _) (argsL := [(.ref u2)]) (rest := []) (lenOf pd_7 rfl) rfl (by show 2 * 0 + _ ≤ _; exact Nat.le_of_eq rfl) (hb hby d12_46) (fun _ _ => ⟨rfl, e230, Nat.le_of_ble_eq_true rfl, Nat.le_of_ble_eq_true rfl⟩)
    dsimp only [Pt.U, Pt.locs, Pt.cells, Pt.slots] at X231 l231 y231 z231 st231 hQ231
    subst l231 y231 z231
    obtain ⟨hv231, hL231, hh231⟩ := hQ231
    subst hL231
    have N231 := Fr.app N227 (Fr.nil n0)
    rcases hv231 with ⟨rfl, e232⟩ | ⟨rfl, e232⟩
    · skip
      refine Go.by (B := (T231.setTop (mkF m 49 #[.val (.ref a1), .val (.ref a2), .val (.ref a2)] [(.int 1)]))) (fun _ k => st231.trans k) ?_
      refine Go.by (B := (T231.setTop (mkF m 57 #[.val (.ref a1), .val (.ref a2), .val (.ref a2)] [(.int 1)]))) (fun _ k => XS.ifNo X231.here hx rfl (hb hby d12_49) rfl ((if0 _ _).trans (feq (by decide : ¬ ((1 : Int32) = (0 : Int32)))).1) (XS.iconst X231.here hx rfl (hb hby d12_52) (XS.goto X231.here hx rfl (pc0 := 53) (pc' := 57) rfl (hb hby d12_53) (by decide) (by decide) k))) ?_
      refine Go.ret X231 hx hlk (t := .boolean) hret rfl (Or.inl ⟨rfl, by simp, _, rfl⟩) (hb hby d12_57) (by decide) (by decide) ?_
      rw [hh231]
      exact ⟨(1 : Int32), rfl, N231, rfl, (Or.inl ⟨rfl, e228, e232⟩)⟩
    · skip
      refine Go.by (B := (T231.setTop (mkF m 49 #[.val (.ref a1), .val (.ref a2), .val (.ref a2)] [(.int 0)]))) (fun _ k => st231.trans k) ?_
      refine Go.by (B := (T231.setTop (mkF m 57 #[.val (.ref a1), .val (.ref a2), .val (.ref a2)] [(.int 0)]))) (fun _ k => XS.ifYes X231.here hx rfl (pc0 := 49) (pc' := 56) rfl (hb hby d12_49) rfl ((if0 _ _).trans (teq (by decide : (0 : Int32) = (0 : Int32))).1) (by decide) (by decide) (XS.iconst X231.here hx rfl (hb hby d12_56) k)) ?_
      refine Go.ret X231 hx hlk (t := .boolean) hret rfl (Or.inl ⟨rfl, by simp, _, rfl⟩) (hb hby d12_57) (by decide) (by decide) ?_
      rw [hh231]
      exact ⟨(0 : Int32), rfl, N231, rfl, (Or.inr ⟨rfl, fun q => e232 q.2⟩)⟩
  · skip
    refine Go.by (B := (T227.setTop (mkF m 35 #[.val (.ref a1), .val (.ref a2), .val (.ref a2)] [(.int 0)]))) (fun _ k => st227.trans k) ?_
    refine Go.by (B := (T227.setTop (mkF m 57 #[.val (.ref a1), .val (.ref a2), .val (.ref a2)] [(.int 0)]))) (fun _ k => XS.ifYes X227.here hx rfl (pc0 := 35) (pc' := 56) rfl (hb hby d12_35) rfl ((if0 _ _).trans (teq (by decide : (0 : Int32) = (0 : Int32))).1) (by decide) (by decide) (XS.iconst X227.here hx rfl (hb hby d12_56) k)) ?_
    refine Go.ret X227 hx hlk (t := .boolean) hret rfl (Or.inl ⟨rfl, by simp, _, rfl⟩) (hb hby d12_57) (by decide) (by decide) ?_
    rw [hh227]
    exact ⟨(0 : Int32), rfl, N227, rfl, (Or.inr ⟨rfl, fun q => e228 q.1⟩)⟩
theorem ef_rm0 (m : MethodId) (x0 : Int32) (x1 : Int32) (x2 : Int32) (x3 : Int32) (x4 : Int32) : entryFrame m #[(.int x0), (.int x1), (.int x2), (.int x3), (.int x4)] maxLocals = mkF m 0 #[.val (.int x0), .val (.int x1), .val (.int x2), .val (.int x3), .val (.int x4), .unset, .unset, .unset, .unset] [] := by first | (simp [entryFrame, mkF, argsToLocals, Value.category, maxLocals]; done) | rfl
theorem pd_8 : parseMethodDescriptor "(I)Ljava/lang/String;" = some ⟨[.int], some (.object "java/lang/String")⟩ := by decide +kernel
theorem pd_9 : parseMethodDescriptor "(Ljava/lang/String;Ljava/lang/String;)V" = some ⟨[(.object "java/lang/String"), (.object "java/lang/String")], none⟩ := by decide +kernel
theorem pd_10 : parseMethodDescriptor "(II)Z" = some ⟨[.int, .int], some .boolean⟩ := by decide +kernel
def Q_rm0 (Z : State) (p1 : Int32) (p2 : Int32) (p3 : Int32) (p4 : Int32) (p5 : Int32) (cs : Int32) (h0 : Heap) (n0 : Nat) (vv : Option Value) (h : Heap) (L : List Loc) : Prop := vv = some (.int 1) ∧ Fr n0 L
set_option maxRecDepth 65536 in
set_option maxHeartbeats 40000000 in
theorem rm0 (l : Launch) (Z : State) (a0 : Array Value) (hw : ∀ d ∈ tables_1, d.before a0 Z = true) (ws : List Jvm.Cond) (p1 : Int32) (p2 : Int32) (p3 : Int32) (p4 : Int32) (p5 : Int32) (cs : Int32) (h0 : Heap) (n0 : Nat) (Z0 : n0 ≤ h0.size) (pr0 : Old Z n0 h0) (pr1 : Sta Z Z.heap "java/lang/String" "COMPACT_STRINGS" "Z" (.int cs)) (hcs : ¬ (cs = (0 : Int32))) :
    MetS l Z own_EL x code maxLocals ret ws room_1 #[(.int p1), (.int p2), (.int p3), (.int p4), (.int p5)] h0 (Q_rm0 Z p1 p2 p3 p4 p5 cs h0 n0) := by
  refine MetS.enter (f0 := fun m => mkF m 0 #[.val (.int p1), .val (.int p2), .val (.int p3), .val (.int p4), .val (.int p5), .unset, .unset, .unset, .unset] []) (plainFor_of_name pn_com_example_breakwater_breakwater_engine_InstanceEqualsPinLaw) (fun m => ef_rm0 m p1 p2 p3 p4 p5) ?_
  intro p e s m below meth c s₁ hx hby hml hown hnm hret hlk hZ X0 e0 hS C0
  have hown : s.vm.findClass "com/example/breakwater/breakwater/engine/InstanceEqualsPinLaw" = some m.cls := hown
  have hnm : meth.name = "law" := hnm
  have hml : c.maxLocals = 9 := hml
  have hby : c.code = code := hby
  have N0 := Fr.nil n0
  have hk : h0.size ≤ h0.size := Nat.le_refl _
  have hEL : EW Z a0 own_EL := own_hEL hw
  have wS : ∀ a ∈ Bundle.stringAtoms, a.before a0 Z = true := own_wS hw
  obtain ⟨lc233, X233, N233⟩ : ∃ lc, Stand p l e room_1 (s.setVm s.vm) m #[(.int p1), (.int p2), (.int p3), (.int p4), (.int p5)] below meth c s₁ lc 0 0 ∧ Fr n0 lc := ⟨_, X0, N0⟩
  have e233 : s₁.heap = h0 := e0
  have J233 : ∀ (T234 : State) (X234 : Stand p l e room_1 (s.setVm s.vm) m #[(.int p1), (.int p2), (.int p3), (.int p4), (.int p5)] below meth c T234 lc233 0 0) (e234 : T234.heap = h0) (cc234 : Int32), Go p e below (PostS Z own_EL s room_1.cells room_1.slots (Q_rm0 Z p1 p2 p3 p4 p5 cs h0 n0)) (T234.setTop (mkF m 9 #[.val (.int p1), .val (.int p2), .val (.int cc234), .val (.int p4), .val (.int p5), .unset, .unset, .unset, .unset] [])) := by
    intro T234 X234 e234 cc234
    obtain ⟨lc235, X235, N235⟩ : ∃ lc, Stand p l e room_1 (s.setVm s.vm) m #[(.int p1), (.int p2), (.int p3), (.int p4), (.int p5)] below meth c T234 lc 0 0 ∧ Fr n0 lc := ⟨_, X234, N233⟩
    have e235 : T234.heap = h0 := e234
    have J235 : ∀ (T236 : State) (X236 : Stand p l e room_1 (s.setVm s.vm) m #[(.int p1), (.int p2), (.int p3), (.int p4), (.int p5)] below meth c T236 lc235 0 0) (e236 : T236.heap = h0) (dd236 : Int32), Go p e below (PostS Z own_EL s room_1.cells room_1.slots (Q_rm0 Z p1 p2 p3 p4 p5 cs h0 n0)) (T236.setTop (mkF m 18 #[.val (.int p1), .val (.int p2), .val (.int cc234), .val (.int dd236), .val (.int p5), .unset, .unset, .unset, .unset] [])) := by
      intro T236 X236 e236 dd236
      obtain ⟨T237, h237, X237, e237, E237, A237, D237, -, st237⟩ := newO X236 hx hZ hown (wd hw 0 rfl) (wd hw 1 rfl) (wd hw 2 rfl) e236 (g := (mkF m 18 #[.val (.int p1), .val (.int p2), .val (.int cc234), .val (.int dd236), .val (.int p5), .unset, .unset, .unset, .unset] [])) rfl (hb hby at_18) (by decide) (by decide)
      obtain ⟨b237, g237⟩ : ∃ z, z = h0.size := ⟨_, rfl⟩
      rw [← g237] at A237 D237 st237
      have sz_b237 : h0.size ≤ b237 := Nat.le_of_eq g237.symm
      have C238 := C0.trans (CHr.ext E237 C0.1)
      have O238 := pr0.ext E237
      have Z238 : n0 ≤ h237.size := Nat.le_trans Z0 E237.1
      have F239 : Fld Z h237 b237 "com/example/breakwater/breakwater/engine/Instance" "node" "Ljava/lang/String;" .null := D237 (Or.inr (wd hw 51 rfl)) (ty := (.object "java/lang/String")) (by decide)
      have F240 : Fld Z h237 b237 "com/example/breakwater/breakwater/engine/Instance" "url" "Ljava/lang/String;" .null := D237 (Or.inr (wd hw 53 rfl)) (ty := (.object "java/lang/String")) (by decide)
      refine Go.by (B := (T237.setTop (mkF m 21 #[.val (.int p1), .val (.int p2), .val (.int cc234), .val (.int dd236), .val (.int p5), .unset, .unset, .unset, .unset] [(.ref b237)]))) st237 ?_
      refine Go.by (B := (T237.setTop (mkF m 23 #[.val (.int p1), .val (.int p2), .val (.int cc234), .val (.int dd236), .val (.int p5), .unset, .unset, .unset, .unset] [(.int p1), (.ref b237), (.ref b237)]))) (fun _ k => XS.dup X237.here hx rfl (hb hby at_21) rfl rfl (XS.iloadN X237.here hx rfl (hb hby at_22) rfl k)) ?_
      have hkT241 : _ ≤ T237.heap.size := (by rw [e237]; exact (Nat.le_trans hk E237.1))
      obtain ⟨_, _, ⟨T241, L241, k241, n241⟩, -, X241, hSn241, hgr241, ⟨Lc241, hQ241, l241, y241, z241, CS241⟩, st241⟩ := callSS X237 hx (y := (⟨"com/example/breakwater/breakwater/engine/InstanceEqualsPinLaw", "str", "(I)Ljava/lang/String;"⟩ : MethodName)) hown (mvT hZ (wd hw 3 rfl)) (mvT hZ (wd hw 4 rfl)) (mvT hZ (wd hw 5 rfl)) (mvT hZ (wd hw 6 rfl)) (by decide) (backOfSH (W := 2) (rm_str l Z a0 hw [] p1 cs h237 n0 Z238 O238 pr1 hcs) hZ (wd hw 6 rfl) (wd hw 5 rfl) (by decide) (by decide) hEL C238.1) (g := (mkF m 23 #[.val (.int p1), .val (.int p2), .val (.int cc234), .val (.int dd236), .val (.int p5), .unset, .unset, .unset, .unset] [(.int p1), (.ref b237), (.ref b237)])) rfl (by rw [hml]; rfl) (argsL := [(.int p1)]) (rest := [(.ref b237), (.ref b237)]) (lenOf pd_8 rfl) rfl (by show 2 * 0 + _ ≤ _; exact Nat.le_of_eq rfl) (hb hby at_23) (fun _ _ => ⟨rfl, e237, Nat.le_of_ble_eq_true rfl, Nat.le_of_ble_eq_true rfl⟩)
      dsimp only [Pt.U, Pt.locs, Pt.cells, Pt.slots] at X241 l241 y241 z241 st241 hQ241 hSn241 hgr241 CS241
      subst l241 y241 z241
      obtain ⟨X241, hS, hZ, hown⟩ := rebS hS hkT241 X241 hSn241 hgr241 hZ hown
      have hk : T241.heap.size ≤ T241.heap.size := Nat.le_refl _
      obtain ⟨b241, t241, k241, rfl, Nq241, K241, p241_0, p241_1, p241_2, p241_3, p241_4⟩ := hQ241
      have N241 := Fr.app N235 Nq241
      have C242 := C238.trans CS241
      have O242 := O238.keep K241 all0
      have Z242 : n0 ≤ T241.heap.size := Nat.le_trans Z238 K241.1
      have sz_b241 : h237.size ≤ b241 := p241_4
      refine Go.by (B := (T241.setTop (mkF m 26 #[.val (.int p1), .val (.int p2), .val (.int cc234), .val (.int dd236), .val (.int p5), .unset, .unset, .unset, .unset] [(.ref b241), (.ref b237), (.ref b237)]))) (fun _ k => st241.trans k) ?_
      refine Go.by (B := (T241.setTop (mkF m 27 #[.val (.int p1), .val (.int p2), .val (.int cc234), .val (.int dd236), .val (.int p5), .unset, .unset, .unset, .unset] [(.int p2), (.ref b241), (.ref b237), (.ref b237)]))) (fun _ k => XS.iloadN X241.here hx rfl (hb hby at_26) rfl k) ?_
      have hkT243 : _ ≤ T241.heap.size := hk
      obtain ⟨_, _, ⟨T243, L243, k243, n243⟩, -, X243, hSn243, hgr243, ⟨Lc243, hQ243, l243, y243, z243, CS243⟩, st243⟩ := callSS X241 hx (y := (⟨"com/example/breakwater/breakwater/engine/InstanceEqualsPinLaw", "str", "(I)Ljava/lang/String;"⟩ : MethodName)) hown (mvT hZ (wd hw 3 rfl)) (mvT hZ (wd hw 4 rfl)) (mvT hZ (wd hw 5 rfl)) (mvT hZ (wd hw 6 rfl)) (by decide) (backOfSH (W := 3) (rm_str l Z a0 hw [] p2 cs T241.heap n0 Z242 O242 pr1 hcs) hZ (wd hw 6 rfl) (wd hw 5 rfl) (by decide) (by decide) hEL C242.1) (g := (mkF m 27 #[.val (.int p1), .val (.int p2), .val (.int cc234), .val (.int dd236), .val (.int p5), .unset, .unset, .unset, .unset] [(.int p2), (.ref b241), (.ref b237), (.ref b237)])) rfl (by rw [hml]; rfl) (argsL := [(.int p2)]) (rest := [(.ref b241), (.ref b237), (.ref b237)]) (lenOf pd_8 rfl) rfl (by show 2 * 0 + _ ≤ _; exact Nat.le_of_eq rfl) (hb hby at_27) (fun _ _ => ⟨rfl, rfl, Nat.le_of_ble_eq_true rfl, Nat.le_of_ble_eq_true rfl⟩)
      dsimp only [Pt.U, Pt.locs, Pt.cells, Pt.slots] at X243 l243 y243 z243 st243 hQ243 hSn243 hgr243 CS243
      subst l243 y243 z243
      obtain ⟨X243, hS, hZ, hown⟩ := rebS hS hkT243 X243 hSn243 hgr243 hZ hown
      have hk : T243.heap.size ≤ T243.heap.size := Nat.le_refl _
      obtain ⟨b243, t243, k243, rfl, Nq243, K243, p243_0, p243_1, p243_2, p243_3, p243_4⟩ := hQ243
      have N243 := Fr.app N241 Nq243
      have C244 := C242.trans CS243
      have O244 := O242.keep K243 all0
      have Z244 : n0 ≤ T243.heap.size := Nat.le_trans Z242 K243.1
      have sz_b243 : T241.heap.size ≤ b243 := p243_4
      refine Go.by (B := (T243.setTop (mkF m 30 #[.val (.int p1), .val (.int p2), .val (.int cc234), .val (.int dd236), .val (.int p5), .unset, .unset, .unset, .unset] [(.ref b243), (.ref b241), (.ref b237), (.ref b237)]))) (fun _ k => st243.trans k) ?_
      have f245 := ((F239.keep K241 nin0).keep K243 nin0)
      have f246 := ((F240.keep K241 nin0).keep K243 nin0)
      obtain ⟨_, _, ⟨T247, L247, k247, n247⟩, -, X247, ⟨Lc247, hQ247, l247, y247, z247⟩, st247⟩ := X243.specialBack hx (y := (⟨"com/example/breakwater/breakwater/engine/Instance", "<init>", "(Ljava/lang/String;Ljava/lang/String;)V"⟩ : MethodName)) rfl hown (mvT hZ (wd hw 46 rfl)) (mvT hZ (wd hw 47 rfl)) (mvT hZ (wd hw 48 rfl)) (by decide) (backOf (W := 1) (rm_inst l Z a0 hw [] b237 b241 b243 T243.heap n0 Z244 O244 ((A237.keep K241).keep K243) f245 f246 (Nat.le_trans Z0 sz_b237)) hZ (wd hw 48 rfl) (wd hw 2 rfl) (by decide) (by decide)) (g := (mkF m 30 #[.val (.int p1), .val (.int p2), .val (.int cc234), .val (.int dd236), .val (.int p5), .unset, .unset, .unset, .unset] [(.ref b243), (.ref b241), (.ref b237), (.ref b237)])) rfl (by rw [hml]; rfl) (Steps.refl _) (a := b237) (argsL := [(.ref b241), (.ref b243)]) (rest := [(.ref b237)]) (lenOf pd_9 rfl) rfl (by show 2 * 0 + _ ≤ _; exact Nat.le_of_eq rfl) (hb hby at_30) (fun _ _ => ⟨rfl, rfl, Nat.le_of_ble_eq_true rfl, Nat.le_of_ble_eq_true rfl⟩)
      dsimp only [Pt.U, Pt.locs, Pt.cells, Pt.slots] at X247 l247 y247 z247 st247 hQ247
      subst l247 y247 z247
      obtain ⟨rfl, Nq247, K247, p247_0, p247_1, p247_2⟩ := hQ247
      have N247 := Fr.app N243 Nq247
      have C248 := C244.trans (CHr.keep K247 (sfS (Safe.exa hZ.alike ((A237.keep K241).keep K243) (by decide) (by decide)) sf0) C244.1)
      have O248 := O244.keep K247 (allS (Nat.le_trans Z0 sz_b237) all0)
      have Z248 : n0 ≤ T247.heap.size := Nat.le_trans Z244 K247.1
      refine Go.by (B := (T247.setTop (mkF m 33 #[.val (.int p1), .val (.int p2), .val (.int cc234), .val (.int dd236), .val (.int p5), .unset, .unset, .unset, .unset] [(.ref b237)]))) (fun _ k => st247.trans k) ?_
      refine Go.by (B := (T247.setTop (mkF m 41 #[.val (.int p1), .val (.int p2), .val (.int cc234), .val (.int dd236), .val (.int p5), .val (.ref b237), .unset, .unset, .unset] [(.int (((p5.toUInt32 >>> ((2 : Int32) &&& 31).toUInt32).toInt32) &&& (3 : Int32)))]))) (fun _ k => XS.astore X247.here hx rfl (hb hby at_33) rfl rfl (l' := #[.val (.int p1), .val (.int p2), .val (.int cc234), .val (.int dd236), .val (.int p5), .val (.ref b237), .unset, .unset, .unset]) rfl (XS.iload X247.here hx rfl (hb hby at_35) rfl (XS.iconst X247.here hx rfl (hb hby at_37) (XS.iushr X247.here hx rfl (hb hby at_38) rfl (XS.iconst X247.here hx rfl (hb hby at_39) (XS.iand X247.here hx rfl (hb hby at_40) rfl k)))))) ?_
      obtain ⟨v249, hv249⟩ : ∃ v, v = (((p5.toUInt32 >>> ((2 : Int32) &&& 31).toUInt32).toInt32) &&& (3 : Int32)) := ⟨_, rfl⟩
      refine Go.by (B := (T247.setTop (mkF m 45 #[.val (.int p1), .val (.int p2), .val (.int cc234), .val (.int dd236), .val (.int p5), .val (.ref b237), .val (.int v249), .unset, .unset] [(.int v249)]))) (fun _ k => XS.istore (x := v249) (rest := []) X247.here hx rfl (hb hby at_41) (by rw [hv249]) (l' := #[.val (.int p1), .val (.int p2), .val (.int cc234), .val (.int dd236), .val (.int p5), .val (.ref b237), .val (.int v249), .unset, .unset]) rfl (XS.iload X247.here hx rfl (hb hby at_43) rfl k)) ?_
      by_cases c250 : v249 = (0 : Int32)
      · skip
        refine Go.by (B := (T247.setTop (mkF m 48 #[.val (.int p1), .val (.int p2), .val (.int cc234), .val (.int dd236), .val (.int p5), .val (.ref b237), .val (.int v249), .unset, .unset] []))) (fun _ k => XS.ifNo X247.here hx rfl (hb hby at_45) rfl ((if0 _ _).trans (teq c250).2) k) ?_
        obtain ⟨T251, h251, X251, e251, E251, A251, D251, -, st251⟩ := newO X247 hx hZ hown (wd hw 0 rfl) (wd hw 1 rfl) (wd hw 2 rfl) rfl (g := (mkF m 48 #[.val (.int p1), .val (.int p2), .val (.int cc234), .val (.int dd236), .val (.int p5), .val (.ref b237), .val (.int v249), .unset, .unset] [])) rfl (hb hby at_48) (by decide) (by decide)
        obtain ⟨b251, g251⟩ : ∃ z, z = T247.heap.size := ⟨_, rfl⟩
        rw [← g251] at A251 D251 st251
        have sz_b251 : T247.heap.size ≤ b251 := Nat.le_of_eq g251.symm
        have C252 := C248.trans (CHr.ext E251 C248.1)
        have O252 := O248.ext E251
        have Z252 : n0 ≤ h251.size := Nat.le_trans Z248 E251.1
        have F253 : Fld Z h251 b251 "com/example/breakwater/breakwater/engine/Instance" "node" "Ljava/lang/String;" .null := D251 (Or.inr (wd hw 51 rfl)) (ty := (.object "java/lang/String")) (by decide)
        have F254 : Fld Z h251 b251 "com/example/breakwater/breakwater/engine/Instance" "url" "Ljava/lang/String;" .null := D251 (Or.inr (wd hw 53 rfl)) (ty := (.object "java/lang/String")) (by decide)
        refine Go.by (B := (T251.setTop (mkF m 51 #[.val (.int p1), .val (.int p2), .val (.int cc234), .val (.int dd236), .val (.int p5), .val (.ref b237), .val (.int v249), .unset, .unset] [(.ref b251)]))) st251 ?_
        refine Go.by (B := (T251.setTop (mkF m 53 #[.val (.int p1), .val (.int p2), .val (.int cc234), .val (.int dd236), .val (.int p5), .val (.ref b237), .val (.int v249), .unset, .unset] [(.int cc234), (.ref b251), (.ref b251)]))) (fun _ k => XS.dup X251.here hx rfl (hb hby at_51) rfl rfl (XS.iloadN X251.here hx rfl (hb hby at_52) rfl k)) ?_
        have hkT255 : _ ≤ T251.heap.size := (by rw [e251]; exact (Nat.le_trans (Nat.le_trans hk K247.1) E251.1))
        obtain ⟨_, _, ⟨T255, L255, k255, n255⟩, -, X255, hSn255, hgr255, ⟨Lc255, hQ255, l255, y255, z255, CS255⟩, st255⟩ := callSS X251 hx (y := (⟨"com/example/breakwater/breakwater/engine/InstanceEqualsPinLaw", "str", "(I)Ljava/lang/String;"⟩ : MethodName)) hown (mvT hZ (wd hw 3 rfl)) (mvT hZ (wd hw 4 rfl)) (mvT hZ (wd hw 5 rfl)) (mvT hZ (wd hw 6 rfl)) (by decide) (backOfSH (W := 2) (rm_str l Z a0 hw [] cc234 cs h251 n0 Z252 O252 pr1 hcs) hZ (wd hw 6 rfl) (wd hw 5 rfl) (by decide) (by decide) hEL C252.1) (g := (mkF m 53 #[.val (.int p1), .val (.int p2), .val (.int cc234), .val (.int dd236), .val (.int p5), .val (.ref b237), .val (.int v249), .unset, .unset] [(.int cc234), (.ref b251), (.ref b251)])) rfl (by rw [hml]; rfl) (argsL := [(.int cc234)]) (rest := [(.ref b251), (.ref b251)]) (lenOf pd_8 rfl) rfl (by show 2 * 0 + _ ≤ _; exact Nat.le_of_eq rfl) (hb hby at_53) (fun _ _ => ⟨rfl, e251, Nat.le_of_ble_eq_true rfl, Nat.le_of_ble_eq_true rfl⟩)
        dsimp only [Pt.U, Pt.locs, Pt.cells, Pt.slots] at X255 l255 y255 z255 st255 hQ255 hSn255 hgr255 CS255
        subst l255 y255 z255
        obtain ⟨X255, hS, hZ, hown⟩ := rebS hS hkT255 X255 hSn255 hgr255 hZ hown
        have hk : T255.heap.size ≤ T255.heap.size := Nat.le_refl _
        obtain ⟨b255, t255, k255, rfl, Nq255, K255, p255_0, p255_1, p255_2, p255_3, p255_4⟩ := hQ255
        have N255 := Fr.app N247 Nq255
        have C256 := C252.trans CS255
        have O256 := O252.keep K255 all0
        have Z256 : n0 ≤ T255.heap.size := Nat.le_trans Z252 K255.1
        have sz_b255 : h251.size ≤ b255 := p255_4
        refine Go.by (B := (T255.setTop (mkF m 56 #[.val (.int p1), .val (.int p2), .val (.int cc234), .val (.int dd236), .val (.int p5), .val (.ref b237), .val (.int v249), .unset, .unset] [(.ref b255), (.ref b251), (.ref b251)]))) (fun _ k => st255.trans k) ?_
        refine Go.by (B := (T255.setTop (mkF m 57 #[.val (.int p1), .val (.int p2), .val (.int cc234), .val (.int dd236), .val (.int p5), .val (.ref b237), .val (.int v249), .unset, .unset] [(.int dd236), (.ref b255), (.ref b251), (.ref b251)]))) (fun _ k => XS.iloadN X255.here hx rfl (hb hby at_56) rfl k) ?_
        have hkT257 : _ ≤ T255.heap.size := hk
        obtain ⟨_, _, ⟨T257, L257, k257, n257⟩, -, X257, hSn257, hgr257, ⟨Lc257, hQ257, l257, y257, z257, CS257⟩, st257⟩ := callSS X255 hx (y := (⟨"com/example/breakwater/breakwater/engine/InstanceEqualsPinLaw", "str", "(I)Ljava/lang/String;"⟩ : MethodName)) hown (mvT hZ (wd hw 3 rfl)) (mvT hZ (wd hw 4 rfl)) (mvT hZ (wd hw 5 rfl)) (mvT hZ (wd hw 6 rfl)) (by decide) (backOfSH (W := 3) (rm_str l Z a0 hw [] dd236 cs T255.heap n0 Z256 O256 pr1 hcs) hZ (wd hw 6 rfl) (wd hw 5 rfl) (by decide) (by decide) hEL C256.1) (g := (mkF m 57 #[.val (.int p1), .val (.int p2), .val (.int cc234), .val (.int dd236), .val (.int p5), .val (.ref b237), .val (.int v249), .unset, .unset] [(.int dd236), (.ref b255), (.ref b251), (.ref b251)])) rfl (by rw [hml]; rfl) (argsL := [(.int dd236)]) (rest := [(.ref b255), (.ref b251), (.ref b251)]) (lenOf pd_8 rfl) rfl (by show 2 * 0 + _ ≤ _; exact Nat.le_of_eq rfl) (hb hby at_57) (fun _ _ => ⟨rfl, rfl, Nat.le_of_ble_eq_true rfl, Nat.le_of_ble_eq_true rfl⟩)
        dsimp only [Pt.U, Pt.locs, Pt.cells, Pt.slots] at X257 l257 y257 z257 st257 hQ257 hSn257 hgr257 CS257
        subst l257 y257 z257
        obtain ⟨X257, hS, hZ, hown⟩ := rebS hS hkT257 X257 hSn257 hgr257 hZ hown
        have hk : T257.heap.size ≤ T257.heap.size := Nat.le_refl _
        obtain ⟨b257, t257, k257, rfl, Nq257, K257, p257_0, p257_1, p257_2, p257_3, p257_4⟩ := hQ257
        have N257 := Fr.app N255 Nq257
        have C258 := C256.trans CS257
        have O258 := O256.keep K257 all0
        have Z258 : n0 ≤ T257.heap.size := Nat.le_trans Z256 K257.1
        have sz_b257 : T255.heap.size ≤ b257 := p257_4
        refine Go.by (B := (T257.setTop (mkF m 60 #[.val (.int p1), .val (.int p2), .val (.int cc234), .val (.int dd236), .val (.int p5), .val (.ref b237), .val (.int v249), .unset, .unset] [(.ref b257), (.ref b255), (.ref b251), (.ref b251)]))) (fun _ k => st257.trans k) ?_
        have f259 := ((F253.keep K255 nin0).keep K257 nin0)
        have f260 := ((F254.keep K255 nin0).keep K257 nin0)
        obtain ⟨_, _, ⟨T261, L261, k261, n261⟩, -, X261, ⟨Lc261, hQ261, l261, y261, z261⟩, st261⟩ := X257.specialBack hx (y := (⟨"com/example/breakwater/breakwater/engine/Instance", "<init>", "(Ljava/lang/String;Ljava/lang/String;)V"⟩ : MethodName)) rfl hown (mvT hZ (wd hw 46 rfl)) (mvT hZ (wd hw 47 rfl)) (mvT hZ (wd hw 48 rfl)) (by decide) (backOf (W := 1) (rm_inst l Z a0 hw [] b251 b255 b257 T257.heap n0 Z258 O258 ((A251.keep K255).keep K257) f259 f260 (Nat.le_trans Z248 sz_b251)) hZ (wd hw 48 rfl) (wd hw 2 rfl) (by decide) (by decide)) (g := (mkF m 60 #[.val (.int p1), .val (.int p2), .val (.int cc234), .val (.int dd236), .val (.int p5), .val (.ref b237), .val (.int v249), .unset, .unset] [(.ref b257), (.ref b255), (.ref b251), (.ref b251)])) rfl (by rw [hml]; rfl) (Steps.refl _) (a := b251) (argsL := [(.ref b255), (.ref b257)]) (rest := [(.ref b251)]) (lenOf pd_9 rfl) rfl (by show 2 * 0 + _ ≤ _; exact Nat.le_of_eq rfl) (hb hby at_60) (fun _ _ => ⟨rfl, rfl, Nat.le_of_ble_eq_true rfl, Nat.le_of_ble_eq_true rfl⟩)
        dsimp only [Pt.U, Pt.locs, Pt.cells, Pt.slots] at X261 l261 y261 z261 st261 hQ261
        subst l261 y261 z261
        obtain ⟨rfl, Nq261, K261, p261_0, p261_1, p261_2⟩ := hQ261
        have N261 := Fr.app N257 Nq261
        have C262 := C258.trans (CHr.keep K261 (sfS (Safe.exa hZ.alike ((A251.keep K255).keep K257) (by decide) (by decide)) sf0) C258.1)
        have O262 := O258.keep K261 (allS (Nat.le_trans Z248 sz_b251) all0)
        have Z262 : n0 ≤ T261.heap.size := Nat.le_trans Z258 K261.1
        refine Go.by (B := (T261.setTop (mkF m 63 #[.val (.int p1), .val (.int p2), .val (.int cc234), .val (.int dd236), .val (.int p5), .val (.ref b237), .val (.int v249), .unset, .unset] [(.ref b251)]))) (fun _ k => st261.trans k) ?_
        refine Go.by (B := (T261.setTop (mkF m 67 #[.val (.int p1), .val (.int p2), .val (.int cc234), .val (.int dd236), .val (.int p5), .val (.ref b237), .val (.int v249), .val (.ref b251), .unset] [(.int cc234), (.int p1)]))) (fun _ k => XS.astore X261.here hx rfl (hb hby at_63) rfl rfl (l' := #[.val (.int p1), .val (.int p2), .val (.int cc234), .val (.int dd236), .val (.int p5), .val (.ref b237), .val (.int v249), .val (.ref b251), .unset]) rfl (XS.iloadN X261.here hx rfl (hb hby at_65) rfl (XS.iloadN X261.here hx rfl (hb hby at_66) rfl k))) ?_
        obtain ⟨_, _, ⟨T263, L263, k263, n263⟩, -, X263, ⟨Lc263, hQ263, l263, y263, z263⟩, st263⟩ := Jvm.LawKit.callS X261 hx (y := (⟨"com/example/breakwater/breakwater/engine/InstanceEqualsPinLaw", "sameStr", "(II)Z"⟩ : MethodName)) hown (mvT hZ (wd hw 54 rfl)) (mvT hZ (wd hw 55 rfl)) (mvT hZ (wd hw 5 rfl)) (mvT hZ (wd hw 56 rfl)) (by decide) (backOf (W := 0) (rm_same l Z a0 hw [] p1 cc234 T261.heap n0 Z262 ) hZ (wd hw 56 rfl) (wd hw 5 rfl) (by decide) (by decide)) (g := (mkF m 67 #[.val (.int p1), .val (.int p2), .val (.int cc234), .val (.int dd236), .val (.int p5), .val (.ref b237), .val (.int v249), .val (.ref b251), .unset] [(.int cc234), (.int p1)])) rfl (by rw [hml]; rfl) (argsL := [(.int p1), (.int cc234)]) (rest := []) (lenOf pd_10 rfl) rfl (by show 2 * 0 + _ ≤ _; exact Nat.le_of_eq rfl) (hb hby at_67) (fun _ _ => ⟨rfl, rfl, Nat.le_of_ble_eq_true rfl, Nat.le_of_ble_eq_true rfl⟩)
        dsimp only [Pt.U, Pt.locs, Pt.cells, Pt.slots] at X263 l263 y263 z263 st263 hQ263
        subst l263 y263 z263
        obtain ⟨v263, rfl, Nq263, hh263, p263_0⟩ := hQ263
        have N263 := Fr.app N261 Nq263
        refine Go.by (B := (T263.setTop (mkF m 70 #[.val (.int p1), .val (.int p2), .val (.int cc234), .val (.int dd236), .val (.int p5), .val (.ref b237), .val (.int v249), .val (.ref b251), .unset] [(.int v263)]))) (fun _ k => st263 _ k) ?_
        rcases p263_0 with ⟨rfl, e264⟩ | ⟨rfl, e264⟩
        · skip
          refine Go.by (B := (T263.setTop (mkF m 75 #[.val (.int p1), .val (.int p2), .val (.int cc234), .val (.int dd236), .val (.int p5), .val (.ref b237), .val (.int v249), .val (.ref b251), .unset] [(.int dd236), (.int p2)]))) (fun _ k => XS.ifNo X263.here hx rfl (hb hby at_70) rfl ((if0 _ _).trans (feq (by decide : ¬ ((1 : Int32) = (0 : Int32)))).1) (XS.iloadN X263.here hx rfl (hb hby at_73) rfl (XS.iloadN X263.here hx rfl (hb hby at_74) rfl k))) ?_
          obtain ⟨_, _, ⟨T265, L265, k265, n265⟩, -, X265, ⟨Lc265, hQ265, l265, y265, z265⟩, st265⟩ := Jvm.LawKit.callS X263 hx (y := (⟨"com/example/breakwater/breakwater/engine/InstanceEqualsPinLaw", "sameStr", "(II)Z"⟩ : MethodName)) hown (mvT hZ (wd hw 54 rfl)) (mvT hZ (wd hw 55 rfl)) (mvT hZ (wd hw 5 rfl)) (mvT hZ (wd hw 56 rfl)) (by decide) (backOf (W := 0) (rm_same l Z a0 hw [] p2 dd236 T261.heap n0 Z262 ) hZ (wd hw 56 rfl) (wd hw 5 rfl) (by decide) (by decide)) (g := (mkF m 75 #[.val (.int p1), .val (.int p2), .val (.int cc234), .val (.int dd236), .val (.int p5), .val (.ref b237), .val (.int v249), .val (.ref b251), .unset] [(.int dd236), (.int p2)])) rfl (by rw [hml]; rfl) (argsL := [(.int p2), (.int dd236)]) (rest := []) (lenOf pd_10 rfl) rfl (by show 2 * 0 + _ ≤ _; exact Nat.le_of_eq rfl) (hb hby at_75) (fun _ _ => ⟨rfl, hh263, Nat.le_of_ble_eq_true rfl, Nat.le_of_ble_eq_true rfl⟩)
          dsimp only [Pt.U, Pt.locs, Pt.cells, Pt.slots] at X265 l265 y265 z265 st265 hQ265
          subst l265 y265 z265
          obtain ⟨v265, rfl, Nq265, hh265, p265_0⟩ := hQ265
          have N265 := Fr.app N263 Nq265
          refine Go.by (B := (T265.setTop (mkF m 78 #[.val (.int p1), .val (.int p2), .val (.int cc234), .val (.int dd236), .val (.int p5), .val (.ref b237), .val (.int v249), .val (.ref b251), .unset] [(.int v265)]))) (fun _ k => st265 _ k) ?_
          rcases p265_0 with ⟨rfl, e266⟩ | ⟨rfl, e266⟩
          · skip
            refine Go.by (B := (T265.setTop (mkF m 92 #[.val (.int p1), .val (.int p2), .val (.int cc234), .val (.int dd236), .val (.int p5), .val (.ref b237), .val (.int v249), .val (.ref b251), .val (.int 1)] [(.ref b251), (.ref b237)]))) (fun _ k => XS.ifNo X265.here hx rfl (hb hby at_78) rfl ((if0 _ _).trans (feq (by decide : ¬ ((1 : Int32) = (0 : Int32)))).1) (XS.iconst X265.here hx rfl (hb hby at_81) (XS.goto X265.here hx rfl (pc0 := 82) (pc' := 86) rfl (hb hby at_82) (by decide) (by decide) (XS.istore X265.here hx rfl (hb hby at_86) rfl (l' := #[.val (.int p1), .val (.int p2), .val (.int cc234), .val (.int dd236), .val (.int p5), .val (.ref b237), .val (.int v249), .val (.ref b251), .val (.int 1)]) rfl (XS.aload X265.here hx rfl (hb hby at_88) rfl rfl (XS.aload X265.here hx rfl (hb hby at_90) rfl rfl k)))))) ?_
            have f267 := ((((p247_0.ext E251).keep K255).keep K257).keep K261)
            have f268 := ((((p247_1.ext E251).keep K255 nin0).keep K257 nin0).keep K261 (ninS (Nat.ne_of_lt (Nat.lt_of_lt_of_le p247_0.lt sz_b251)) nin0))
            have f269 := ((((p247_2.ext E251).keep K255 nin0).keep K257 nin0).keep K261 (ninS (Nat.ne_of_lt (Nat.lt_of_lt_of_le p247_0.lt sz_b251)) nin0))
            have f270 := ((((((p241_0.keep K243).keep K247).ext E251).keep K255).keep K257).keep K261)
            have f271 := ((((((p241_1.keep K243 nin0).keep K247 (ninS (Ne.symm (Nat.ne_of_lt (Nat.lt_of_lt_of_le A237.lt sz_b241))) nin0)).ext E251).keep K255 nin0).keep K257 nin0).keep K261 (ninS (Nat.ne_of_lt (Nat.lt_of_lt_of_le ((p241_0.keep K243).keep K247).lt sz_b251)) nin0))
            have f272 := ((((((p241_2.keep K243 nin0).keep K247 (ninS (Ne.symm (Nat.ne_of_lt (Nat.lt_of_lt_of_le A237.lt sz_b241))) nin0)).ext E251).keep K255 nin0).keep K257 nin0).keep K261 (ninS (Nat.ne_of_lt (Nat.lt_of_lt_of_le ((p241_0.keep K243).keep K247).lt sz_b251)) nin0))
            have f273 := ((((((p241_3.keep K243 nin0).keep K247 (ninS (Ne.symm (Exa.neArv ((A237.keep K241).keep K243) (p241_3.keep K243 nin0) (wd hw 1 rfl))) nin0)).ext E251).keep K255 nin0).keep K257 nin0).keep K261 (ninS (Nat.ne_of_lt (Nat.lt_of_lt_of_le ((p241_3.keep K243 nin0).keep K247 (ninS (Ne.symm (Exa.neArv ((A237.keep K241).keep K243) (p241_3.keep K243 nin0) (wd hw 1 rfl))) nin0)).lt sz_b251)) nin0))
            have f274 := (((((p243_0.keep K247).ext E251).keep K255).keep K257).keep K261)
            have f275 := (((((p243_1.keep K247 (ninS (Ne.symm (Nat.ne_of_lt (Nat.lt_of_lt_of_le (A237.keep K241).lt sz_b243))) nin0)).ext E251).keep K255 nin0).keep K257 nin0).keep K261 (ninS (Nat.ne_of_lt (Nat.lt_of_lt_of_le (p243_0.keep K247).lt sz_b251)) nin0))
            have f276 := (((((p243_2.keep K247 (ninS (Ne.symm (Nat.ne_of_lt (Nat.lt_of_lt_of_le (A237.keep K241).lt sz_b243))) nin0)).ext E251).keep K255 nin0).keep K257 nin0).keep K261 (ninS (Nat.ne_of_lt (Nat.lt_of_lt_of_le (p243_0.keep K247).lt sz_b251)) nin0))
            have f277 := (((((p243_3.keep K247 (ninS (Ne.symm (Exa.neArv ((A237.keep K241).keep K243) p243_3 (wd hw 1 rfl))) nin0)).ext E251).keep K255 nin0).keep K257 nin0).keep K261 (ninS (Nat.ne_of_lt (Nat.lt_of_lt_of_le (p243_3.keep K247 (ninS (Ne.symm (Exa.neArv ((A237.keep K241).keep K243) p243_3 (wd hw 1 rfl))) nin0)).lt sz_b251)) nin0))
            have f278 := ((p255_1.keep K257 nin0).keep K261 (ninS (Ne.symm (Nat.ne_of_lt (Nat.lt_of_lt_of_le A251.lt sz_b255))) nin0))
            have f279 := ((p255_2.keep K257 nin0).keep K261 (ninS (Ne.symm (Nat.ne_of_lt (Nat.lt_of_lt_of_le A251.lt sz_b255))) nin0))
            have f280 := ((p255_3.keep K257 nin0).keep K261 (ninS (Ne.symm (Exa.neArv ((A251.keep K255).keep K257) (p255_3.keep K257 nin0) (wd hw 1 rfl))) nin0))
            have f281 := (p257_1.keep K261 (ninS (Ne.symm (Nat.ne_of_lt (Nat.lt_of_lt_of_le (A251.keep K255).lt sz_b257))) nin0))
            have f282 := (p257_2.keep K261 (ninS (Ne.symm (Nat.ne_of_lt (Nat.lt_of_lt_of_le (A251.keep K255).lt sz_b257))) nin0))
            have f283 := (p257_3.keep K261 (ninS (Ne.symm (Exa.neArv ((A251.keep K255).keep K257) p257_3 (wd hw 1 rfl))) nin0))
            obtain ⟨cq284, kq284, q284a, q284b, q284c⟩ := isOf hZ hh265 f267
            obtain ⟨_, _, ⟨T284, L284, k284, n284⟩, -, X284, ⟨Lc284, hQ284, l284, y284, z284⟩, st284⟩ := X265.virtualBack hx (y := (⟨"com/example/breakwater/breakwater/engine/Instance", "equals", "(Ljava/lang/Object;)Z"⟩ : MethodName)) (z := (⟨"com/example/breakwater/breakwater/engine/Instance", "equals", "(Ljava/lang/Object;)Z"⟩ : MethodName)) hown (mvT hZ (wd hw 57 rfl)) (mvT hZ (wd hw 58 rfl)) (notFace_of_selects (args := #[]) (mvT hZ (wd hw 60 rfl))) (mvT hZ (wd hw 60 rfl)) (mvT hZ (wd hw 59 rfl)) (by decide) (backOf (W := 0) (rm_eq_i l Z a0 hw [] b237 b251 b241 b243 t241 k241 t243 k243 (own_chars p1) (own_chars p2) b255 b257 t255 k255 t257 k257 (own_chars cc234) (own_chars dd236) cs T261.heap n0 Z262 O262 pr1 hcs f267 f268 f269 f270 f271 f272 f273 f274 f275 f276 f277 (own_chars_ok _) (own_chars_ok _) p261_0 p261_1 p261_2 ((p255_0.keep K257).keep K261) f278 f279 f280 (p257_0.keep K261) f281 f282 f283 (own_chars_ok _) (own_chars_ok _) (Nat.ne_of_lt (Nat.lt_of_lt_of_le p247_0.lt sz_b251))) hZ (wd hw 61 rfl) (wd hw 2 rfl) (by decide) (by decide)) q284a q284c (g := (mkF m 92 #[.val (.int p1), .val (.int p2), .val (.int cc234), .val (.int dd236), .val (.int p5), .val (.ref b237), .val (.int v249), .val (.ref b251), .val (.int 1)] [(.ref b251), (.ref b237)])) rfl (by rw [hml]; rfl) (Steps.refl _) (argsL := [(.ref b251)]) (rest := []) (lenOf pd_7 rfl) rfl (by show 2 * 0 + _ ≤ _; exact Nat.le_of_eq rfl) (hb hby at_92) (fun _ _ => ⟨rfl, hh265, Nat.le_of_ble_eq_true rfl, Nat.le_of_ble_eq_true rfl⟩)
            dsimp only [Pt.U, Pt.locs, Pt.cells, Pt.slots] at X284 l284 y284 z284 st284 hQ284
            subst l284 y284 z284
            obtain ⟨v284, rfl, Nq284, hh284, p284_0⟩ := hQ284
            have N284 := Fr.app N265 Nq284
            refine Go.by (B := (T284.setTop (mkF m 95 #[.val (.int p1), .val (.int p2), .val (.int cc234), .val (.int dd236), .val (.int p5), .val (.ref b237), .val (.int v249), .val (.ref b251), .val (.int 1)] [(.int v284)]))) (fun _ k => st284.trans k) ?_
            rcases p284_0 with ⟨rfl, e285⟩ | ⟨rfl, e285⟩
            · skip
              refine Go.by (B := (T284.setTop (mkF m 104 #[.val (.int p1), .val (.int p2), .val (.int cc234), .val (.int dd236), .val (.int p5), .val (.ref b237), .val (.int v249), .val (.ref b251), .val (.int 1)] [(.ref b237), (.ref b251)]))) (fun _ k => XS.iload X284.here hx rfl (hb hby at_95) rfl (XS.icmpNo X284.here hx rfl (hb hby at_97) rfl (teq (by decide : (1 : Int32) = (1 : Int32))).2 (XS.aload X284.here hx rfl (hb hby at_100) rfl rfl (XS.aload X284.here hx rfl (hb hby at_102) rfl rfl k)))) ?_
              obtain ⟨cq286, kq286, q286a, q286b, q286c⟩ := isOf hZ hh284 p261_0
              obtain ⟨_, _, ⟨T286, L286, k286, n286⟩, -, X286, ⟨Lc286, hQ286, l286, y286, z286⟩, st286⟩ := X284.virtualBack hx (y := (⟨"com/example/breakwater/breakwater/engine/Instance", "equals", "(Ljava/lang/Object;)Z"⟩ : MethodName)) (z := (⟨"com/example/breakwater/breakwater/engine/Instance", "equals", "(Ljava/lang/Object;)Z"⟩ : MethodName)) hown (mvT hZ (wd hw 57 rfl)) (mvT hZ (wd hw 58 rfl)) (notFace_of_selects (args := #[]) (mvT hZ (wd hw 60 rfl))) (mvT hZ (wd hw 60 rfl)) (mvT hZ (wd hw 59 rfl)) (by decide) (backOf (W := 0) (rm_eq_i l Z a0 hw [] b251 b237 b255 b257 t255 k255 t257 k257 (own_chars cc234) (own_chars dd236) b241 b243 t241 k241 t243 k243 (own_chars p1) (own_chars p2) cs T261.heap n0 Z262 O262 pr1 hcs p261_0 p261_1 p261_2 ((p255_0.keep K257).keep K261) f278 f279 f280 (p257_0.keep K261) f281 f282 f283 (own_chars_ok _) (own_chars_ok _) f267 f268 f269 f270 f271 f272 f273 f274 f275 f276 f277 (own_chars_ok _) (own_chars_ok _) (Ne.symm (Nat.ne_of_lt (Nat.lt_of_lt_of_le p247_0.lt sz_b251)))) hZ (wd hw 61 rfl) (wd hw 2 rfl) (by decide) (by decide)) q286a q286c (g := (mkF m 104 #[.val (.int p1), .val (.int p2), .val (.int cc234), .val (.int dd236), .val (.int p5), .val (.ref b237), .val (.int v249), .val (.ref b251), .val (.int 1)] [(.ref b237), (.ref b251)])) rfl (by rw [hml]; rfl) (Steps.refl _) (argsL := [(.ref b237)]) (rest := []) (lenOf pd_7 rfl) rfl (by show 2 * 0 + _ ≤ _; exact Nat.le_of_eq rfl) (hb hby at_104) (fun _ _ => ⟨rfl, hh284, Nat.le_of_ble_eq_true rfl, Nat.le_of_ble_eq_true rfl⟩)
              dsimp only [Pt.U, Pt.locs, Pt.cells, Pt.slots] at X286 l286 y286 z286 st286 hQ286
              subst l286 y286 z286
              obtain ⟨v286, rfl, Nq286, hh286, p286_0⟩ := hQ286
              have N286 := Fr.app N284 Nq286
              refine Go.by (B := (T286.setTop (mkF m 107 #[.val (.int p1), .val (.int p2), .val (.int cc234), .val (.int dd236), .val (.int p5), .val (.ref b237), .val (.int v249), .val (.ref b251), .val (.int 1)] [(.int v286)]))) (fun _ k => st286.trans k) ?_
              rcases p286_0 with ⟨rfl, e287⟩ | ⟨rfl, e287⟩
              · skip
                refine Go.by (B := (T286.setTop (mkF m 117 #[.val (.int p1), .val (.int p2), .val (.int cc234), .val (.int dd236), .val (.int p5), .val (.ref b237), .val (.int v249), .val (.ref b251), .val (.int 1)] [(.int 1)]))) (fun _ k => XS.iload X286.here hx rfl (hb hby at_107) rfl (XS.icmpNo X286.here hx rfl (hb hby at_109) rfl (teq (by decide : (1 : Int32) = (1 : Int32))).2 (XS.iconst X286.here hx rfl (hb hby at_112) (XS.goto X286.here hx rfl (pc0 := 113) (pc' := 117) rfl (hb hby at_113) (by decide) (by decide) k)))) ?_
                have hkE288 : _ ≤ T286.heap.size := (by rw [hh286]; exact (Nat.le_trans hk K261.1))
                have CE288 : CHr Z own_EL s.vm s.heap T257.vm T286.heap := (by rw [hh286]; exact C262)
                refine Go.retS X286 hx hlk hS hkE288 hZ hEL CE288 (t := .boolean) hret rfl (Or.inl ⟨rfl, by simp, _, rfl⟩) (hb hby at_117) (by decide) (by decide) ?_
                exact ⟨rfl, N286⟩
              · skip
                exact absurd ⟨(e264).symm, (e266).symm⟩ e287
            · skip
              exact absurd ⟨e264, e266⟩ e285
          · skip
            refine Go.by (B := (T265.setTop (mkF m 92 #[.val (.int p1), .val (.int p2), .val (.int cc234), .val (.int dd236), .val (.int p5), .val (.ref b237), .val (.int v249), .val (.ref b251), .val (.int 0)] [(.ref b251), (.ref b237)]))) (fun _ k => XS.ifYes X265.here hx rfl (pc0 := 78) (pc' := 85) rfl (hb hby at_78) rfl ((if0 _ _).trans (teq (by decide : (0 : Int32) = (0 : Int32))).1) (by decide) (by decide) (XS.iconst X265.here hx rfl (hb hby at_85) (XS.istore X265.here hx rfl (hb hby at_86) rfl (l' := #[.val (.int p1), .val (.int p2), .val (.int cc234), .val (.int dd236), .val (.int p5), .val (.ref b237), .val (.int v249), .val (.ref b251), .val (.int 0)]) rfl (XS.aload X265.here hx rfl (hb hby at_88) rfl rfl (XS.aload X265.here hx rfl (hb hby at_90) rfl rfl k))))) ?_
            have f289 := ((((p247_0.ext E251).keep K255).keep K257).keep K261)
            have f290 := ((((p247_1.ext E251).keep K255 nin0).keep K257 nin0).keep K261 (ninS (Nat.ne_of_lt (Nat.lt_of_lt_of_le p247_0.lt sz_b251)) nin0))
            have f291 := ((((p247_2.ext E251).keep K255 nin0).keep K257 nin0).keep K261 (ninS (Nat.ne_of_lt (Nat.lt_of_lt_of_le p247_0.lt sz_b251)) nin0))
            have f292 := ((((((p241_0.keep K243).keep K247).ext E251).keep K255).keep K257).keep K261)
            have f293 := ((((((p241_1.keep K243 nin0).keep K247 (ninS (Ne.symm (Nat.ne_of_lt (Nat.lt_of_lt_of_le A237.lt sz_b241))) nin0)).ext E251).keep K255 nin0).keep K257 nin0).keep K261 (ninS (Nat.ne_of_lt (Nat.lt_of_lt_of_le ((p241_0.keep K243).keep K247).lt sz_b251)) nin0))
            have f294 := ((((((p241_2.keep K243 nin0).keep K247 (ninS (Ne.symm (Nat.ne_of_lt (Nat.lt_of_lt_of_le A237.lt sz_b241))) nin0)).ext E251).keep K255 nin0).keep K257 nin0).keep K261 (ninS (Nat.ne_of_lt (Nat.lt_of_lt_of_le ((p241_0.keep K243).keep K247).lt sz_b251)) nin0))
            have f295 := ((((((p241_3.keep K243 nin0).keep K247 (ninS (Ne.symm (Exa.neArv ((A237.keep K241).keep K243) (p241_3.keep K243 nin0) (wd hw 1 rfl))) nin0)).ext E251).keep K255 nin0).keep K257 nin0).keep K261 (ninS (Nat.ne_of_lt (Nat.lt_of_lt_of_le ((p241_3.keep K243 nin0).keep K247 (ninS (Ne.symm (Exa.neArv ((A237.keep K241).keep K243) (p241_3.keep K243 nin0) (wd hw 1 rfl))) nin0)).lt sz_b251)) nin0))
            have f296 := (((((p243_0.keep K247).ext E251).keep K255).keep K257).keep K261)
            have f297 := (((((p243_1.keep K247 (ninS (Ne.symm (Nat.ne_of_lt (Nat.lt_of_lt_of_le (A237.keep K241).lt sz_b243))) nin0)).ext E251).keep K255 nin0).keep K257 nin0).keep K261 (ninS (Nat.ne_of_lt (Nat.lt_of_lt_of_le (p243_0.keep K247).lt sz_b251)) nin0))
            have f298 := (((((p243_2.keep K247 (ninS (Ne.symm (Nat.ne_of_lt (Nat.lt_of_lt_of_le (A237.keep K241).lt sz_b243))) nin0)).ext E251).keep K255 nin0).keep K257 nin0).keep K261 (ninS (Nat.ne_of_lt (Nat.lt_of_lt_of_le (p243_0.keep K247).lt sz_b251)) nin0))
            have f299 := (((((p243_3.keep K247 (ninS (Ne.symm (Exa.neArv ((A237.keep K241).keep K243) p243_3 (wd hw 1 rfl))) nin0)).ext E251).keep K255 nin0).keep K257 nin0).keep K261 (ninS (Nat.ne_of_lt (Nat.lt_of_lt_of_le (p243_3.keep K247 (ninS (Ne.symm (Exa.neArv ((A237.keep K241).keep K243) p243_3 (wd hw 1 rfl))) nin0)).lt sz_b251)) nin0))
            have f300 := ((p255_1.keep K257 nin0).keep K261 (ninS (Ne.symm (Nat.ne_of_lt (Nat.lt_of_lt_of_le A251.lt sz_b255))) nin0))
            have f301 := ((p255_2.keep K257 nin0).keep K261 (ninS (Ne.symm (Nat.ne_of_lt (Nat.lt_of_lt_of_le A251.lt sz_b255))) nin0))
            have f302 := ((p255_3.keep K257 nin0).keep K261 (ninS (Ne.symm (Exa.neArv ((A251.keep K255).keep K257) (p255_3.keep K257 nin0) (wd hw 1 rfl))) nin0))
            have f303 := (p257_1.keep K261 (ninS (Ne.symm (Nat.ne_of_lt (Nat.lt_of_lt_of_le (A251.keep K255).lt sz_b257))) nin0))
            have f304 := (p257_2.keep K261 (ninS (Ne.symm (Nat.ne_of_lt (Nat.lt_of_lt_of_le (A251.keep K255).lt sz_b257))) nin0))
            have f305 := (p257_3.keep K261 (ninS (Ne.symm (Exa.neArv ((A251.keep K255).keep K257) p257_3 (wd hw 1 rfl))) nin0))
            obtain ⟨cq306, kq306, q306a, q306b, q306c⟩ := isOf hZ hh265 f289
            obtain ⟨_, _, ⟨T306, L306, k306, n306⟩, -, X306, ⟨Lc306, hQ306, l306, y306, z306⟩, st306⟩ := X265.virtualBack hx (y := (⟨"com/example/breakwater/breakwater/engine/Instance", "equals", "(Ljava/lang/Object;)Z"⟩ : MethodName)) (z := (⟨"com/example/breakwater/breakwater/engine/Instance", "equals", "(Ljava/lang/Object;)Z"⟩ : MethodName)) hown (mvT hZ (wd hw 57 rfl)) (mvT hZ (wd hw 58 rfl)) (notFace_of_selects (args := #[]) (mvT hZ (wd hw 60 rfl))) (mvT hZ (wd hw 60 rfl)) (mvT hZ (wd hw 59 rfl)) (by decide) (backOf (W := 0) (rm_eq_i l Z a0 hw [] b237 b251 b241 b243 t241 k241 t243 k243 (own_chars p1) (own_chars p2) b255 b257 t255 k255 t257 k257 (own_chars cc234) (own_chars dd236) cs T261.heap n0 Z262 O262 pr1 hcs f289 f290 f291 f292 f293 f294 f295 f296 f297 f298 f299 (own_chars_ok _) (own_chars_ok _) p261_0 p261_1 p261_2 ((p255_0.keep K257).keep K261) f300 f301 f302 (p257_0.keep K261) f303 f304 f305 (own_chars_ok _) (own_chars_ok _) (Nat.ne_of_lt (Nat.lt_of_lt_of_le p247_0.lt sz_b251))) hZ (wd hw 61 rfl) (wd hw 2 rfl) (by decide) (by decide)) q306a q306c (g := (mkF m 92 #[.val (.int p1), .val (.int p2), .val (.int cc234), .val (.int dd236), .val (.int p5), .val (.ref b237), .val (.int v249), .val (.ref b251), .val (.int 0)] [(.ref b251), (.ref b237)])) rfl (by rw [hml]; rfl) (Steps.refl _) (argsL := [(.ref b251)]) (rest := []) (lenOf pd_7 rfl) rfl (by show 2 * 0 + _ ≤ _; exact Nat.le_of_eq rfl) (hb hby at_92) (fun _ _ => ⟨rfl, hh265, Nat.le_of_ble_eq_true rfl, Nat.le_of_ble_eq_true rfl⟩)
            dsimp only [Pt.U, Pt.locs, Pt.cells, Pt.slots] at X306 l306 y306 z306 st306 hQ306
            subst l306 y306 z306
            obtain ⟨v306, rfl, Nq306, hh306, p306_0⟩ := hQ306
            have N306 := Fr.app N265 Nq306
            refine Go.by (B := (T306.setTop (mkF m 95 #[.val (.int p1), .val (.int p2), .val (.int cc234), .val (.int dd236), .val (.int p5), .val (.ref b237), .val (.int v249), .val (.ref b251), .val (.int 0)] [(.int v306)]))) (fun _ k => st306.trans k) ?_
            rcases p306_0 with ⟨rfl, e307⟩ | ⟨rfl, e307⟩
            · skip
              exact absurd e307.2 e266
            · skip
              refine Go.by (B := (T306.setTop (mkF m 104 #[.val (.int p1), .val (.int p2), .val (.int cc234), .val (.int dd236), .val (.int p5), .val (.ref b237), .val (.int v249), .val (.ref b251), .val (.int 0)] [(.ref b237), (.ref b251)]))) (fun _ k => XS.iload X306.here hx rfl (hb hby at_95) rfl (XS.icmpNo X306.here hx rfl (hb hby at_97) rfl (teq (by decide : (0 : Int32) = (0 : Int32))).2 (XS.aload X306.here hx rfl (hb hby at_100) rfl rfl (XS.aload X306.here hx rfl (hb hby at_102) rfl rfl k)))) ?_
              obtain ⟨cq308, kq308, q308a, q308b, q308c⟩ := isOf hZ hh306 p261_0
              obtain ⟨_, _, ⟨T308, L308, k308, n308⟩, -, X308, ⟨Lc308, hQ308, l308, y308, z308⟩, st308⟩ := X306.virtualBack hx (y := (⟨"com/example/breakwater/breakwater/engine/Instance", "equals", "(Ljava/lang/Object;)Z"⟩ : MethodName)) (z := (⟨"com/example/breakwater/breakwater/engine/Instance", "equals", "(Ljava/lang/Object;)Z"⟩ : MethodName)) hown (mvT hZ (wd hw 57 rfl)) (mvT hZ (wd hw 58 rfl)) (notFace_of_selects (args := #[]) (mvT hZ (wd hw 60 rfl))) (mvT hZ (wd hw 60 rfl)) (mvT hZ (wd hw 59 rfl)) (by decide) (backOf (W := 0) (rm_eq_i l Z a0 hw [] b251 b237 b255 b257 t255 k255 t257 k257 (own_chars cc234) (own_chars dd236) b241 b243 t241 k241 t243 k243 (own_chars p1) (own_chars p2) cs T261.heap n0 Z262 O262 pr1 hcs p261_0 p261_1 p261_2 ((p255_0.keep K257).keep K261) f300 f301 f302 (p257_0.keep K261) f303 f304 f305 (own_chars_ok _) (own_chars_ok _) f289 f290 f291 f292 f293 f294 f295 f296 f297 f298 f299 (own_chars_ok _) (own_chars_ok _) (Ne.symm (Nat.ne_of_lt (Nat.lt_of_lt_of_le p247_0.lt sz_b251)))) hZ (wd hw 61 rfl) (wd hw 2 rfl) (by decide) (by decide)) q308a q308c (g := (mkF m 104 #[.val (.int p1), .val (.int p2), .val (.int cc234), .val (.int dd236), .val (.int p5), .val (.ref b237), .val (.int v249), .val (.ref b251), .val (.int 0)] [(.ref b237), (.ref b251)])) rfl (by rw [hml]; rfl) (Steps.refl _) (argsL := [(.ref b237)]) (rest := []) (lenOf pd_7 rfl) rfl (by show 2 * 0 + _ ≤ _; exact Nat.le_of_eq rfl) (hb hby at_104) (fun _ _ => ⟨rfl, hh306, Nat.le_of_ble_eq_true rfl, Nat.le_of_ble_eq_true rfl⟩)
              dsimp only [Pt.U, Pt.locs, Pt.cells, Pt.slots] at X308 l308 y308 z308 st308 hQ308
              subst l308 y308 z308
              obtain ⟨v308, rfl, Nq308, hh308, p308_0⟩ := hQ308
              have N308 := Fr.app N306 Nq308
              refine Go.by (B := (T308.setTop (mkF m 107 #[.val (.int p1), .val (.int p2), .val (.int cc234), .val (.int dd236), .val (.int p5), .val (.ref b237), .val (.int v249), .val (.ref b251), .val (.int 0)] [(.int v308)]))) (fun _ k => st308.trans k) ?_
              rcases p308_0 with ⟨rfl, e309⟩ | ⟨rfl, e309⟩
              · skip
                exact absurd e309.2 (fun q => e266 q.symm)
              · skip
                refine Go.by (B := (T308.setTop (mkF m 117 #[.val (.int p1), .val (.int p2), .val (.int cc234), .val (.int dd236), .val (.int p5), .val (.ref b237), .val (.int v249), .val (.ref b251), .val (.int 0)] [(.int 1)]))) (fun _ k => XS.iload X308.here hx rfl (hb hby at_107) rfl (XS.icmpNo X308.here hx rfl (hb hby at_109) rfl (teq (by decide : (0 : Int32) = (0 : Int32))).2 (XS.iconst X308.here hx rfl (hb hby at_112) (XS.goto X308.here hx rfl (pc0 := 113) (pc' := 117) rfl (hb hby at_113) (by decide) (by decide) k)))) ?_
                have hkE310 : _ ≤ T308.heap.size := (by rw [hh308]; exact (Nat.le_trans hk K261.1))
                have CE310 : CHr Z own_EL s.vm s.heap T257.vm T308.heap := (by rw [hh308]; exact C262)
                refine Go.retS X308 hx hlk hS hkE310 hZ hEL CE310 (t := .boolean) hret rfl (Or.inl ⟨rfl, by simp, _, rfl⟩) (hb hby at_117) (by decide) (by decide) ?_
                exact ⟨rfl, N308⟩
        · skip
          refine Go.by (B := (T263.setTop (mkF m 92 #[.val (.int p1), .val (.int p2), .val (.int cc234), .val (.int dd236), .val (.int p5), .val (.ref b237), .val (.int v249), .val (.ref b251), .val (.int 0)] [(.ref b251), (.ref b237)]))) (fun _ k => XS.ifYes X263.here hx rfl (pc0 := 70) (pc' := 85) rfl (hb hby at_70) rfl ((if0 _ _).trans (teq (by decide : (0 : Int32) = (0 : Int32))).1) (by decide) (by decide) (XS.iconst X263.here hx rfl (hb hby at_85) (XS.istore X263.here hx rfl (hb hby at_86) rfl (l' := #[.val (.int p1), .val (.int p2), .val (.int cc234), .val (.int dd236), .val (.int p5), .val (.ref b237), .val (.int v249), .val (.ref b251), .val (.int 0)]) rfl (XS.aload X263.here hx rfl (hb hby at_88) rfl rfl (XS.aload X263.here hx rfl (hb hby at_90) rfl rfl k))))) ?_
          have f311 := ((((p247_0.ext E251).keep K255).keep K257).keep K261)
          have f312 := ((((p247_1.ext E251).keep K255 nin0).keep K257 nin0).keep K261 (ninS (Nat.ne_of_lt (Nat.lt_of_lt_of_le p247_0.lt sz_b251)) nin0))
          have f313 := ((((p247_2.ext E251).keep K255 nin0).keep K257 nin0).keep K261 (ninS (Nat.ne_of_lt (Nat.lt_of_lt_of_le p247_0.lt sz_b251)) nin0))
          have f314 := ((((((p241_0.keep K243).keep K247).ext E251).keep K255).keep K257).keep K261)
          have f315 := ((((((p241_1.keep K243 nin0).keep K247 (ninS (Ne.symm (Nat.ne_of_lt (Nat.lt_of_lt_of_le A237.lt sz_b241))) nin0)).ext E251).keep K255 nin0).keep K257 nin0).keep K261 (ninS (Nat.ne_of_lt (Nat.lt_of_lt_of_le ((p241_0.keep K243).keep K247).lt sz_b251)) nin0))
          have f316 := ((((((p241_2.keep K243 nin0).keep K247 (ninS (Ne.symm (Nat.ne_of_lt (Nat.lt_of_lt_of_le A237.lt sz_b241))) nin0)).ext E251).keep K255 nin0).keep K257 nin0).keep K261 (ninS (Nat.ne_of_lt (Nat.lt_of_lt_of_le ((p241_0.keep K243).keep K247).lt sz_b251)) nin0))
          have f317 := ((((((p241_3.keep K243 nin0).keep K247 (ninS (Ne.symm (Exa.neArv ((A237.keep K241).keep K243) (p241_3.keep K243 nin0) (wd hw 1 rfl))) nin0)).ext E251).keep K255 nin0).keep K257 nin0).keep K261 (ninS (Nat.ne_of_lt (Nat.lt_of_lt_of_le ((p241_3.keep K243 nin0).keep K247 (ninS (Ne.symm (Exa.neArv ((A237.keep K241).keep K243) (p241_3.keep K243 nin0) (wd hw 1 rfl))) nin0)).lt sz_b251)) nin0))
          have f318 := (((((p243_0.keep K247).ext E251).keep K255).keep K257).keep K261)
          have f319 := (((((p243_1.keep K247 (ninS (Ne.symm (Nat.ne_of_lt (Nat.lt_of_lt_of_le (A237.keep K241).lt sz_b243))) nin0)).ext E251).keep K255 nin0).keep K257 nin0).keep K261 (ninS (Nat.ne_of_lt (Nat.lt_of_lt_of_le (p243_0.keep K247).lt sz_b251)) nin0))
          have f320 := (((((p243_2.keep K247 (ninS (Ne.symm (Nat.ne_of_lt (Nat.lt_of_lt_of_le (A237.keep K241).lt sz_b243))) nin0)).ext E251).keep K255 nin0).keep K257 nin0).keep K261 (ninS (Nat.ne_of_lt (Nat.lt_of_lt_of_le (p243_0.keep K247).lt sz_b251)) nin0))
          have f321 := (((((p243_3.keep K247 (ninS (Ne.symm (Exa.neArv ((A237.keep K241).keep K243) p243_3 (wd hw 1 rfl))) nin0)).ext E251).keep K255 nin0).keep K257 nin0).keep K261 (ninS (Nat.ne_of_lt (Nat.lt_of_lt_of_le (p243_3.keep K247 (ninS (Ne.symm (Exa.neArv ((A237.keep K241).keep K243) p243_3 (wd hw 1 rfl))) nin0)).lt sz_b251)) nin0))
          have f322 := ((p255_1.keep K257 nin0).keep K261 (ninS (Ne.symm (Nat.ne_of_lt (Nat.lt_of_lt_of_le A251.lt sz_b255))) nin0))
          have f323 := ((p255_2.keep K257 nin0).keep K261 (ninS (Ne.symm (Nat.ne_of_lt (Nat.lt_of_lt_of_le A251.lt sz_b255))) nin0))
          have f324 := ((p255_3.keep K257 nin0).keep K261 (ninS (Ne.symm (Exa.neArv ((A251.keep K255).keep K257) (p255_3.keep K257 nin0) (wd hw 1 rfl))) nin0))
          have f325 := (p257_1.keep K261 (ninS (Ne.symm (Nat.ne_of_lt (Nat.lt_of_lt_of_le (A251.keep K255).lt sz_b257))) nin0))
          have f326 := (p257_2.keep K261 (ninS (Ne.symm (Nat.ne_of_lt (Nat.lt_of_lt_of_le (A251.keep K255).lt sz_b257))) nin0))
          have f327 := (p257_3.keep K261 (ninS (Ne.symm (Exa.neArv ((A251.keep K255).keep K257) p257_3 (wd hw 1 rfl))) nin0))
          obtain ⟨cq328, kq328, q328a, q328b, q328c⟩ := isOf hZ hh263 f311
          obtain ⟨_, _, ⟨T328, L328, k328, n328⟩, -, X328, ⟨Lc328, hQ328, l328, y328, z328⟩, st328⟩ := X263.virtualBack hx (y := (⟨"com/example/breakwater/breakwater/engine/Instance", "equals", "(Ljava/lang/Object;)Z"⟩ : MethodName)) (z := (⟨"com/example/breakwater/breakwater/engine/Instance", "equals", "(Ljava/lang/Object;)Z"⟩ : MethodName)) hown (mvT hZ (wd hw 57 rfl)) (mvT hZ (wd hw 58 rfl)) (notFace_of_selects (args := #[]) (mvT hZ (wd hw 60 rfl))) (mvT hZ (wd hw 60 rfl)) (mvT hZ (wd hw 59 rfl)) (by decide) (backOf (W := 0) (rm_eq_i l Z a0 hw [] b237 b251 b241 b243 t241 k241 t243 k243 (own_chars p1) (own_chars p2) b255 b257 t255 k255 t257 k257 (own_chars cc234) (own_chars dd236) cs T261.heap n0 Z262 O262 pr1 hcs f311 f312 f313 f314 f315 f316 f317 f318 f319 f320 f321 (own_chars_ok _) (own_chars_ok _) p261_0 p261_1 p261_2 ((p255_0.keep K257).keep K261) f322 f323 f324 (p257_0.keep K261) f325 f326 f327 (own_chars_ok _) (own_chars_ok _) (Nat.ne_of_lt (Nat.lt_of_lt_of_le p247_0.lt sz_b251))) hZ (wd hw 61 rfl) (wd hw 2 rfl) (by decide) (by decide)) q328a q328c (g := (mkF m 92 #[.val (.int p1), .val (.int p2), .val (.int cc234), .val (.int dd236), .val (.int p5), .val (.ref b237), .val (.int v249), .val (.ref b251), .val (.int 0)] [(.ref b251), (.ref b237)])) rfl (by rw [hml]; rfl) (Steps.refl _) (argsL := [(.ref b251)]) (rest := []) (lenOf pd_7 rfl) rfl (by show 2 * 0 + _ ≤ _; exact Nat.le_of_eq rfl) (hb hby at_92) (fun _ _ => ⟨rfl, hh263, Nat.le_of_ble_eq_true rfl, Nat.le_of_ble_eq_true rfl⟩)
          dsimp only [Pt.U, Pt.locs, Pt.cells, Pt.slots] at X328 l328 y328 z328 st328 hQ328
          subst l328 y328 z328
          obtain ⟨v328, rfl, Nq328, hh328, p328_0⟩ := hQ328
          have N328 := Fr.app N263 Nq328
          refine Go.by (B := (T328.setTop (mkF m 95 #[.val (.int p1), .val (.int p2), .val (.int cc234), .val (.int dd236), .val (.int p5), .val (.ref b237), .val (.int v249), .val (.ref b251), .val (.int 0)] [(.int v328)]))) (fun _ k => st328.trans k) ?_
          rcases p328_0 with ⟨rfl, e329⟩ | ⟨rfl, e329⟩
          · skip
            exact absurd e329.1 e264
          · skip
            refine Go.by (B := (T328.setTop (mkF m 104 #[.val (.int p1), .val (.int p2), .val (.int cc234), .val (.int dd236), .val (.int p5), .val (.ref b237), .val (.int v249), .val (.ref b251), .val (.int 0)] [(.ref b237), (.ref b251)]))) (fun _ k => XS.iload X328.here hx rfl (hb hby at_95) rfl (XS.icmpNo X328.here hx rfl (hb hby at_97) rfl (teq (by decide : (0 : Int32) = (0 : Int32))).2 (XS.aload X328.here hx rfl (hb hby at_100) rfl rfl (XS.aload X328.here hx rfl (hb hby at_102) rfl rfl k)))) ?_
            obtain ⟨cq330, kq330, q330a, q330b, q330c⟩ := isOf hZ hh328 p261_0
            obtain ⟨_, _, ⟨T330, L330, k330, n330⟩, -, X330, ⟨Lc330, hQ330, l330, y330, z330⟩, st330⟩ := X328.virtualBack hx (y := (⟨"com/example/breakwater/breakwater/engine/Instance", "equals", "(Ljava/lang/Object;)Z"⟩ : MethodName)) (z := (⟨"com/example/breakwater/breakwater/engine/Instance", "equals", "(Ljava/lang/Object;)Z"⟩ : MethodName)) hown (mvT hZ (wd hw 57 rfl)) (mvT hZ (wd hw 58 rfl)) (notFace_of_selects (args := #[]) (mvT hZ (wd hw 60 rfl))) (mvT hZ (wd hw 60 rfl)) (mvT hZ (wd hw 59 rfl)) (by decide) (backOf (W := 0) (rm_eq_i l Z a0 hw [] b251 b237 b255 b257 t255 k255 t257 k257 (own_chars cc234) (own_chars dd236) b241 b243 t241 k241 t243 k243 (own_chars p1) (own_chars p2) cs T261.heap n0 Z262 O262 pr1 hcs p261_0 p261_1 p261_2 ((p255_0.keep K257).keep K261) f322 f323 f324 (p257_0.keep K261) f325 f326 f327 (own_chars_ok _) (own_chars_ok _) f311 f312 f313 f314 f315 f316 f317 f318 f319 f320 f321 (own_chars_ok _) (own_chars_ok _) (Ne.symm (Nat.ne_of_lt (Nat.lt_of_lt_of_le p247_0.lt sz_b251)))) hZ (wd hw 61 rfl) (wd hw 2 rfl) (by decide) (by decide)) q330a q330c (g := (mkF m 104 #[.val (.int p1), .val (.int p2), .val (.int cc234), .val (.int dd236), .val (.int p5), .val (.ref b237), .val (.int v249), .val (.ref b251), .val (.int 0)] [(.ref b237), (.ref b251)])) rfl (by rw [hml]; rfl) (Steps.refl _) (argsL := [(.ref b237)]) (rest := []) (lenOf pd_7 rfl) rfl (by show 2 * 0 + _ ≤ _; exact Nat.le_of_eq rfl) (hb hby at_104) (fun _ _ => ⟨rfl, hh328, Nat.le_of_ble_eq_true rfl, Nat.le_of_ble_eq_true rfl⟩)
            dsimp only [Pt.U, Pt.locs, Pt.cells, Pt.slots] at X330 l330 y330 z330 st330 hQ330
            subst l330 y330 z330
            obtain ⟨v330, rfl, Nq330, hh330, p330_0⟩ := hQ330
            have N330 := Fr.app N328 Nq330
            refine Go.by (B := (T330.setTop (mkF m 107 #[.val (.int p1), .val (.int p2), .val (.int cc234), .val (.int dd236), .val (.int p5), .val (.ref b237), .val (.int v249), .val (.ref b251), .val (.int 0)] [(.int v330)]))) (fun _ k => st330.trans k) ?_
            rcases p330_0 with ⟨rfl, e331⟩ | ⟨rfl, e331⟩
            · skip
              exact absurd e331.1 (fun q => e264 q.symm)
            · skip
              refine Go.by (B := (T330.setTop (mkF m 117 #[.val (.int p1), .val (.int p2), .val (.int cc234), .val (.int dd236), .val (.int p5), .val (.ref b237), .val (.int v249), .val (.ref b251), .val (.int 0)] [(.int 1)]))) (fun _ k => XS.iload X330.here hx rfl (hb hby at_107) rfl (XS.icmpNo X330.here hx rfl (hb hby at_109) rfl (teq (by decide : (0 : Int32) = (0 : Int32))).2 (XS.iconst X330.here hx rfl (hb hby at_112) (XS.goto X330.here hx rfl (pc0 := 113) (pc' := 117) rfl (hb hby at_113) (by decide) (by decide) k)))) ?_
              have hkE332 : _ ≤ T330.heap.size := (by rw [hh330]; exact (Nat.le_trans hk K261.1))
              have CE332 : CHr Z own_EL s.vm s.heap T257.vm T330.heap := (by rw [hh330]; exact C262)
              refine Go.retS X330 hx hlk hS hkE332 hZ hEL CE332 (t := .boolean) hret rfl (Or.inl ⟨rfl, by simp, _, rfl⟩) (hb hby at_117) (by decide) (by decide) ?_
              exact ⟨rfl, N330⟩
      · skip
        refine Go.by (B := (T247.setTop (mkF m 121 #[.val (.int p1), .val (.int p2), .val (.int cc234), .val (.int dd236), .val (.int p5), .val (.ref b237), .val (.int v249), .unset, .unset] [(.int 1), (.int v249)]))) (fun _ k => XS.ifYes X247.here hx rfl (pc0 := 45) (pc' := 118) rfl (hb hby at_45) rfl ((if0 _ _).trans (feq c250).2) (by decide) (by decide) (XS.iload X247.here hx rfl (hb hby at_118) rfl (XS.iconst X247.here hx rfl (hb hby at_120) k))) ?_
        by_cases c333 : v249 = (1 : Int32)
        · skip
          refine Go.by (B := (T247.setTop (mkF m 128 #[.val (.int p1), .val (.int p2), .val (.int cc234), .val (.int dd236), .val (.int p5), .val (.ref b237), .val (.int v249), .unset, .unset] [(.ref b237), (.ref b237)]))) (fun _ k => XS.icmpNo X247.here hx rfl (hb hby at_121) rfl (teq c333).2 (XS.aload X247.here hx rfl (hb hby at_124) rfl rfl (XS.aload X247.here hx rfl (hb hby at_126) rfl rfl k))) ?_
          obtain ⟨cq334, kq334, q334a, q334b, q334c⟩ := isOf hZ rfl p247_0
          obtain ⟨_, _, ⟨T334, L334, k334, n334⟩, -, X334, ⟨Lc334, hQ334, l334, y334, z334⟩, st334⟩ := X247.virtualBack hx (y := (⟨"com/example/breakwater/breakwater/engine/Instance", "equals", "(Ljava/lang/Object;)Z"⟩ : MethodName)) (z := (⟨"com/example/breakwater/breakwater/engine/Instance", "equals", "(Ljava/lang/Object;)Z"⟩ : MethodName)) hown (mvT hZ (wd hw 57 rfl)) (mvT hZ (wd hw 58 rfl)) (notFace_of_selects (args := #[]) (mvT hZ (wd hw 60 rfl))) (mvT hZ (wd hw 60 rfl)) (mvT hZ (wd hw 59 rfl)) (by decide) (backOf (W := 0) (rm_eq_s l Z a0 hw [] b237 T247.heap n0 Z248 ) hZ (wd hw 61 rfl) (wd hw 2 rfl) (by decide) (by decide)) q334a q334c (g := (mkF m 128 #[.val (.int p1), .val (.int p2), .val (.int cc234), .val (.int dd236), .val (.int p5), .val (.ref b237), .val (.int v249), .unset, .unset] [(.ref b237), (.ref b237)])) rfl (by rw [hml]; rfl) (Steps.refl _) (argsL := [(.ref b237)]) (rest := []) (lenOf pd_7 rfl) rfl (by show 2 * 0 + _ ≤ _; exact Nat.le_of_eq rfl) (hb hby at_128) (fun _ _ => ⟨rfl, rfl, Nat.le_of_ble_eq_true rfl, Nat.le_of_ble_eq_true rfl⟩)
          dsimp only [Pt.U, Pt.locs, Pt.cells, Pt.slots] at X334 l334 y334 z334 st334 hQ334
          subst l334 y334 z334
          obtain ⟨rfl, Nq334, hh334⟩ := hQ334
          have N334 := Fr.app N247 Nq334
          refine Go.by (B := (T334.setTop (mkF m 131 #[.val (.int p1), .val (.int p2), .val (.int cc234), .val (.int dd236), .val (.int p5), .val (.ref b237), .val (.int v249), .unset, .unset] [(.int 1)]))) (fun _ k => st334.trans k) ?_
          have hkE335 : _ ≤ T334.heap.size := (by rw [hh334]; exact (Nat.le_trans hk K247.1))
          have CE335 : CHr Z own_EL s.vm s.heap T243.vm T334.heap := (by rw [hh334]; exact C248)
          refine Go.retS X334 hx hlk hS hkE335 hZ hEL CE335 (t := .boolean) hret rfl (Or.inl ⟨rfl, by simp, _, rfl⟩) (hb hby at_131) (by decide) (by decide) ?_
          exact ⟨rfl, N334⟩
        · skip
          refine Go.by (B := (T247.setTop (mkF m 135 #[.val (.int p1), .val (.int p2), .val (.int cc234), .val (.int dd236), .val (.int p5), .val (.ref b237), .val (.int v249), .unset, .unset] [(.int 2), (.int v249)]))) (fun _ k => XS.icmpYes X247.here hx rfl (pc0 := 121) (pc' := 132) rfl (hb hby at_121) rfl (feq c333).2 (by decide) (by decide) (XS.iload X247.here hx rfl (hb hby at_132) rfl (XS.iconst X247.here hx rfl (hb hby at_134) k))) ?_
          by_cases c336 : v249 = (2 : Int32)
          · skip
            refine Go.by (B := (T247.setTop (mkF m 141 #[.val (.int p1), .val (.int p2), .val (.int cc234), .val (.int dd236), .val (.int p5), .val (.ref b237), .val (.int v249), .unset, .unset] [.null, (.ref b237)]))) (fun _ k => XS.icmpNo X247.here hx rfl (hb hby at_135) rfl (teq c336).2 (XS.aload X247.here hx rfl (hb hby at_138) rfl rfl (XS.aconstNull X247.here hx rfl (hb hby at_140) k))) ?_
            obtain ⟨cq337, kq337, q337a, q337b, q337c⟩ := isOf hZ rfl p247_0
            obtain ⟨_, _, ⟨T337, L337, k337, n337⟩, -, X337, ⟨Lc337, hQ337, l337, y337, z337⟩, st337⟩ := X247.virtualBack hx (y := (⟨"com/example/breakwater/breakwater/engine/Instance", "equals", "(Ljava/lang/Object;)Z"⟩ : MethodName)) (z := (⟨"com/example/breakwater/breakwater/engine/Instance", "equals", "(Ljava/lang/Object;)Z"⟩ : MethodName)) hown (mvT hZ (wd hw 57 rfl)) (mvT hZ (wd hw 58 rfl)) (notFace_of_selects (args := #[]) (mvT hZ (wd hw 60 rfl))) (mvT hZ (wd hw 60 rfl)) (mvT hZ (wd hw 59 rfl)) (by decide) (backOf (W := 0) (rm_eq_n l Z a0 hw [] b237 T247.heap n0 Z248 ) hZ (wd hw 61 rfl) (wd hw 2 rfl) (by decide) (by decide)) q337a q337c (g := (mkF m 141 #[.val (.int p1), .val (.int p2), .val (.int cc234), .val (.int dd236), .val (.int p5), .val (.ref b237), .val (.int v249), .unset, .unset] [.null, (.ref b237)])) rfl (by rw [hml]; rfl) (Steps.refl _) (argsL := [.null]) (rest := []) (lenOf pd_7 rfl) rfl (by show 2 * 0 + _ ≤ _; exact Nat.le_of_eq rfl) (hb hby at_141) (fun _ _ => ⟨rfl, rfl, Nat.le_of_ble_eq_true rfl, Nat.le_of_ble_eq_true rfl⟩)
            dsimp only [Pt.U, Pt.locs, Pt.cells, Pt.slots] at X337 l337 y337 z337 st337 hQ337
            subst l337 y337 z337
            obtain ⟨rfl, Nq337, hh337⟩ := hQ337
            have N337 := Fr.app N247 Nq337
            refine Go.by (B := (T337.setTop (mkF m 144 #[.val (.int p1), .val (.int p2), .val (.int cc234), .val (.int dd236), .val (.int p5), .val (.ref b237), .val (.int v249), .unset, .unset] [(.int 0)]))) (fun _ k => st337.trans k) ?_
            refine Go.by (B := (T337.setTop (mkF m 152 #[.val (.int p1), .val (.int p2), .val (.int cc234), .val (.int dd236), .val (.int p5), .val (.ref b237), .val (.int v249), .unset, .unset] [(.int 1)]))) (fun _ k => XS.ifNo X337.here hx rfl (hb hby at_144) rfl ((if0 _ _).trans (teq (by decide : (0 : Int32) = (0 : Int32))).2) (XS.iconst X337.here hx rfl (hb hby at_147) (XS.goto X337.here hx rfl (pc0 := 148) (pc' := 152) rfl (hb hby at_148) (by decide) (by decide) k))) ?_
            have hkE338 : _ ≤ T337.heap.size := (by rw [hh337]; exact (Nat.le_trans hk K247.1))
            have CE338 : CHr Z own_EL s.vm s.heap T243.vm T337.heap := (by rw [hh337]; exact C248)
            refine Go.retS X337 hx hlk hS hkE338 hZ hEL CE338 (t := .boolean) hret rfl (Or.inl ⟨rfl, by simp, _, rfl⟩) (hb hby at_152) (by decide) (by decide) ?_
            exact ⟨rfl, N337⟩
          · skip
            refine Go.by (B := (T247.setTop (mkF m 156 #[.val (.int p1), .val (.int p2), .val (.int cc234), .val (.int dd236), .val (.int p5), .val (.ref b237), .val (.int v249), .unset, .unset] [(.int p1), (.ref b237)]))) (fun _ k => XS.icmpYes X247.here hx rfl (pc0 := 135) (pc' := 153) rfl (hb hby at_135) rfl (feq c336).2 (by decide) (by decide) (XS.aload X247.here hx rfl (hb hby at_153) rfl rfl (XS.iloadN X247.here hx rfl (hb hby at_155) rfl k))) ?_
            have hkT339 : _ ≤ T247.heap.size := (Nat.le_trans hk K247.1)
            obtain ⟨_, _, ⟨T339, L339, k339, n339⟩, -, X339, hSn339, hgr339, ⟨Lc339, hQ339, l339, y339, z339, CS339⟩, st339⟩ := callSS X247 hx (y := (⟨"com/example/breakwater/breakwater/engine/InstanceEqualsPinLaw", "str", "(I)Ljava/lang/String;"⟩ : MethodName)) hown (mvT hZ (wd hw 3 rfl)) (mvT hZ (wd hw 4 rfl)) (mvT hZ (wd hw 5 rfl)) (mvT hZ (wd hw 6 rfl)) (by decide) (backOfSH (W := 1) (rm_str l Z a0 hw [] p1 cs T247.heap n0 Z248 O248 pr1 hcs) hZ (wd hw 6 rfl) (wd hw 5 rfl) (by decide) (by decide) hEL C248.1) (g := (mkF m 156 #[.val (.int p1), .val (.int p2), .val (.int cc234), .val (.int dd236), .val (.int p5), .val (.ref b237), .val (.int v249), .unset, .unset] [(.int p1), (.ref b237)])) rfl (by rw [hml]; rfl) (argsL := [(.int p1)]) (rest := [(.ref b237)]) (lenOf pd_8 rfl) rfl (by show 2 * 0 + _ ≤ _; exact Nat.le_of_eq rfl) (hb hby at_156) (fun _ _ => ⟨rfl, rfl, Nat.le_of_ble_eq_true rfl, Nat.le_of_ble_eq_true rfl⟩)
            dsimp only [Pt.U, Pt.locs, Pt.cells, Pt.slots] at X339 l339 y339 z339 st339 hQ339 hSn339 hgr339 CS339
            subst l339 y339 z339
            obtain ⟨X339, hS, hZ, hown⟩ := rebS hS hkT339 X339 hSn339 hgr339 hZ hown
            have hk : T339.heap.size ≤ T339.heap.size := Nat.le_refl _
            obtain ⟨b339, t339, k339, rfl, Nq339, K339, p339_0, p339_1, p339_2, p339_3, p339_4⟩ := hQ339
            have N339 := Fr.app N247 Nq339
            have C340 := C248.trans CS339
            have O340 := O248.keep K339 all0
            have Z340 : n0 ≤ T339.heap.size := Nat.le_trans Z248 K339.1
            have sz_b339 : T247.heap.size ≤ b339 := p339_4
            refine Go.by (B := (T339.setTop (mkF m 159 #[.val (.int p1), .val (.int p2), .val (.int cc234), .val (.int dd236), .val (.int p5), .val (.ref b237), .val (.int v249), .unset, .unset] [(.ref b339), (.ref b237)]))) (fun _ k => st339.trans k) ?_
            obtain ⟨cq341, kq341, q341a, q341b, q341c⟩ := isOf hZ rfl (p247_0.keep K339)
            obtain ⟨_, _, ⟨T341, L341, k341, n341⟩, -, X341, ⟨Lc341, hQ341, l341, y341, z341⟩, st341⟩ := X339.virtualBack hx (y := (⟨"com/example/breakwater/breakwater/engine/Instance", "equals", "(Ljava/lang/Object;)Z"⟩ : MethodName)) (z := (⟨"com/example/breakwater/breakwater/engine/Instance", "equals", "(Ljava/lang/Object;)Z"⟩ : MethodName)) hown (mvT hZ (wd hw 57 rfl)) (mvT hZ (wd hw 58 rfl)) (notFace_of_selects (args := #[]) (mvT hZ (wd hw 60 rfl))) (mvT hZ (wd hw 60 rfl)) (mvT hZ (wd hw 59 rfl)) (by decide) (backOf (W := 0) (rm_eq_o l Z a0 hw [] b237 b339 T339.heap n0 Z340 (p247_0.keep K339) p339_0) hZ (wd hw 61 rfl) (wd hw 2 rfl) (by decide) (by decide)) q341a q341c (g := (mkF m 159 #[.val (.int p1), .val (.int p2), .val (.int cc234), .val (.int dd236), .val (.int p5), .val (.ref b237), .val (.int v249), .unset, .unset] [(.ref b339), (.ref b237)])) rfl (by rw [hml]; rfl) (Steps.refl _) (argsL := [(.ref b339)]) (rest := []) (lenOf pd_7 rfl) rfl (by show 2 * 0 + _ ≤ _; exact Nat.le_of_eq rfl) (hb hby at_159) (fun _ _ => ⟨rfl, rfl, Nat.le_of_ble_eq_true rfl, Nat.le_of_ble_eq_true rfl⟩)
            dsimp only [Pt.U, Pt.locs, Pt.cells, Pt.slots] at X341 l341 y341 z341 st341 hQ341
            subst l341 y341 z341
            obtain ⟨rfl, Nq341, hh341⟩ := hQ341
            have N341 := Fr.app N339 Nq341
            refine Go.by (B := (T341.setTop (mkF m 162 #[.val (.int p1), .val (.int p2), .val (.int cc234), .val (.int dd236), .val (.int p5), .val (.ref b237), .val (.int v249), .unset, .unset] [(.int 0)]))) (fun _ k => st341.trans k) ?_
            refine Go.by (B := (T341.setTop (mkF m 170 #[.val (.int p1), .val (.int p2), .val (.int cc234), .val (.int dd236), .val (.int p5), .val (.ref b237), .val (.int v249), .unset, .unset] [(.int 1)]))) (fun _ k => XS.ifNo X341.here hx rfl (hb hby at_162) rfl ((if0 _ _).trans (teq (by decide : (0 : Int32) = (0 : Int32))).2) (XS.iconst X341.here hx rfl (hb hby at_165) (XS.goto X341.here hx rfl (pc0 := 166) (pc' := 170) rfl (hb hby at_166) (by decide) (by decide) k))) ?_
            have hkE342 : _ ≤ T341.heap.size := (by rw [hh341]; exact hk)
            have CE342 : CHr Z own_EL s.vm s.heap T339.vm T341.heap := (by rw [hh341]; exact C340)
            refine Go.retS X341 hx hlk hS hkE342 hZ hEL CE342 (t := .boolean) hret rfl (Or.inl ⟨rfl, by simp, _, rfl⟩) (hb hby at_170) (by decide) (by decide) ?_
            exact ⟨rfl, N341⟩
    refine Go.by (B := (T234.setTop (mkF m 13 #[.val (.int p1), .val (.int p2), .val (.int cc234), .val (.int p4), .val (.int p5), .unset, .unset, .unset, .unset] [(.int (p5 &&& (2 : Int32)))]))) (fun _ k => XS.iload X235.here hx rfl (hb hby at_9) rfl (XS.iconst X235.here hx rfl (hb hby at_11) (XS.iand X235.here hx rfl (hb hby at_12) rfl k))) ?_
    by_cases c343 : (p5 &&& (2 : Int32)) = (0 : Int32)
    · skip
      refine Go.by (B := (T234.setTop (mkF m 18 #[.val (.int p1), .val (.int p2), .val (.int cc234), .val (.int p4), .val (.int p5), .unset, .unset, .unset, .unset] []))) (fun _ k => XS.ifYes X235.here hx rfl (pc0 := 13) (pc' := 18) rfl (hb hby at_13) rfl ((if0 _ _).trans (teq c343).1) (by decide) (by decide) k) ?_
      exact J235 T234 X235 e235 p4
    · skip
      refine Go.by (B := (T234.setTop (mkF m 18 #[.val (.int p1), .val (.int p2), .val (.int cc234), .val (.int p2), .val (.int p5), .unset, .unset, .unset, .unset] []))) (fun _ k => XS.ifNo X235.here hx rfl (hb hby at_13) rfl ((if0 _ _).trans (feq c343).1) (XS.iloadN X235.here hx rfl (hb hby at_16) rfl (XS.istoreN X235.here hx rfl (hb hby at_17) rfl (l' := #[.val (.int p1), .val (.int p2), .val (.int cc234), .val (.int p2), .val (.int p5), .unset, .unset, .unset, .unset]) rfl k))) ?_
      exact J235 T234 X235 e235 p2
  refine Go.by (B := (s₁.setTop (mkF m 4 #[.val (.int p1), .val (.int p2), .val (.int p3), .val (.int p4), .val (.int p5), .unset, .unset, .unset, .unset] [(.int (p5 &&& (1 : Int32)))]))) (fun _ k => XS.iload X233.here hx rfl (hb hby at_0) rfl (XS.iconst X233.here hx rfl (hb hby at_2) (XS.iand X233.here hx rfl (hb hby at_3) rfl k))) ?_
  by_cases c344 : (p5 &&& (1 : Int32)) = (0 : Int32)
  · skip
    refine Go.by (B := (s₁.setTop (mkF m 9 #[.val (.int p1), .val (.int p2), .val (.int p3), .val (.int p4), .val (.int p5), .unset, .unset, .unset, .unset] []))) (fun _ k => XS.ifYes X233.here hx rfl (pc0 := 4) (pc' := 9) rfl (hb hby at_4) rfl ((if0 _ _).trans (teq c344).1) (by decide) (by decide) k) ?_
    exact J233 s₁ X233 e233 p3
  · skip
    refine Go.by (B := (s₁.setTop (mkF m 9 #[.val (.int p1), .val (.int p2), .val (.int p1), .val (.int p4), .val (.int p5), .unset, .unset, .unset, .unset] []))) (fun _ k => XS.ifNo X233.here hx rfl (hb hby at_4) rfl ((if0 _ _).trans (feq c344).1) (XS.iloadN X233.here hx rfl (hb hby at_7) rfl (XS.istoreN X233.here hx rfl (hb hby at_8) rfl (l' := #[.val (.int p1), .val (.int p2), .val (.int p1), .val (.int p4), .val (.int p5), .unset, .unset, .unset, .unset]) rfl k))) ?_
    exact J233 s₁ X233 e233 p1
set_option maxRecDepth 65536 in
set_option maxHeartbeats 40000000 in
theorem comes_1 {Post : Tables → Env → Array Value → State → Outcome → State → Prop} (hpost : ∀ tb e args s v u, (limb_1_1.after args s (.returned v) u = true ∧ limb_1_2.after args s (.returned v) u = true ∧ True) → ReturnedEndW s (.returned v) u (Jvm.fieldLocs frame_1_writes args s ++ Jvm.arrayLocs frame_1_arrays args s ++ Jvm.staticLocs frame_1_statics s) 40 1216 → Post tb e args s (.returned v) u) :
    ArmFor flags0 classFile x code maxLocals ret World_1 tables_1 room_1 Calls_1 rest_1 Pre_1 Post := by
  intro l hfl _ _ p e ha hc hk s m args below hf hA hF happ hP
  obtain ⟨hcalls, hrest, hpre⟩ := hP
  obtain ⟨-, -, -, hnamed, -, -, -, hat⟩ := (Spec.applies_iff hf).mp happ
  obtain ⟨hg, hn⟩ := and_e (Cond.before_iff.mp (show (Jvm.Cond.and given_1 narrow_1).before args s = true from hpre))
  obtain ⟨hg0, hgr0⟩ := and_e hg
  obtain ⟨ga0, hgr1⟩ := and_e hgr0
  obtain ⟨ga1, hgr2⟩ := and_e hgr1
  obtain ⟨ga2, hgr3⟩ := and_e hgr2
  obtain ⟨ga3, hgr4⟩ := and_e hgr3
  obtain ⟨w0, w1, w2, w3, w4, rfl⟩ : ∃ w0 w1 w2 w3 w4 : Value, args = #[w0, w1, w2, w3, w4] := by
    have hs : args.size = 5 := by simpa [Cond.value, given_1] using hg0
    obtain ⟨L⟩ := args
    match L, hs with
    | [w0, w1, w2, w3, w4], _ => exact ⟨w0, w1, w2, w3, w4, rfl⟩
  have hw := fun d (hd : d ∈ tables_1) => atoms_spec (ws := Jvm.Cond.code x code maxLocals ret :: tables_1) hat d (List.mem_cons_of_mem _ hd)
  have hfit : Fit s := fun {y c} hc i hi => by
    obtain ⟨ha, rfl⟩ := Array.getElem?_eq_some_iff.mp hc
    have q := List.all_eq_true.mp ((Array.all_eq_true_iff_forall_mem.mp hF) _ (Array.getElem_mem ha)) i (List.mem_range.mpr hi)
    simpa [Array.getElem?_eq_getElem hi] using q
  obtain ⟨hsets, hown0⟩ := atoms_of _ (rest_1_c_eq ▸ (show rest_1_c.before _ s = true from hrest))
  have hr0 := Cond.before_iff.mp hown0
  obtain ⟨i0, ei0⟩ := is_v ga0
  obtain rfl : w0 = (.int i0) := Option.some.inj ei0
  obtain ⟨i1, ei1⟩ := is_v ga1
  obtain rfl : w1 = (.int i1) := Option.some.inj ei1
  obtain ⟨i2, ei2⟩ := is_v ga2
  obtain rfl : w2 = (.int i2) := Option.some.inj ei2
  obtain ⟨i3, ei3⟩ := is_v ga3
  obtain rfl : w3 = (.int i3) := Option.some.inj ei3
  obtain ⟨i4, ei4⟩ := is_v hgr4
  obtain rfl : w4 = (.int i4) := Option.some.inj ei4
  have ncs := not_v (Cond.before_iff.mp (hsets _ (List.mem_of_getElem? (i := 2) rfl)))
  obtain ⟨cs, ecs⟩ := is_v (Cond.before_iff.mp (hsets _ (List.mem_of_getElem? (i := 1) rfl)))
  have Scs : Sta s s.heap "java/lang/String" "COMPACT_STRINGS" "Z" (.int cs) := Sta.start ecs (Or.inl (hsets _ (List.mem_of_getElem? (i := 0) rfl)))
  have hcs : ¬ (cs = (0 : Int32)) := gotF (Cond.eq_ints ecs (Term.int_eval (0))) ncs
  have hCH : CHv s own_EL s.vm s.heap := CHv.start (own_hEL hw) (fun p hp => hcalls.1 p hp) (hsets _ (List.mem_of_getElem? (i := 2) rfl)) (wd hw 25 rfl) (wd hw 11 rfl)
  obtain ⟨n, o, h1, h2, h3, _, L, rfl, ⟨rfl, N⟩, -, hq⟩ := rm0 l s _ hw tables_1 i0 i1 i2 i3 i4 cs s.heap s.heap.size (Nat.le_refl _) (Old.start s) Scs hcs p e ha hc hk s m _ below hf ((Spec.applies_iff_loose hf).mp happ).1 ⟨rfl, State.Warmed39.refl s, rfl, hCH⟩ trivial
  refine ⟨n, _, h1, h2, h3, hpost _ _ _ _ _ _ ⟨Cond.after_iff.mpr rfl, Cond.after_iff.mpr (eq_i res_at (Term.int_eval (1)) rfl), trivial⟩ ⟨hq.1, hq.2.1, hq.2.2.1, (hq.2.2.2.sift fun y hy => Or.inr (N y hy)).mono (by decide) (by decide)⟩⟩
theorem main_1_1 : Claimed_1_1 := comes_1 fun _ _ _ _ _ _ h hF => ⟨h.1, hF⟩
theorem main_1_2 : Claimed_1_2 := comes_1 fun _ _ _ _ _ _ h hF => ⟨h.2.1, hF⟩
end Jvm.Pilot.@@N@@
namespace Jvm.Pilot.@@N@@
open Jvm Jvm.ClassFile Sem Op Lib Jvm.Free Jvm.Stand Jvm.Pilot.@@N@@.Jvm.D
/-! MADE BY PROGRAM (witnessworld.py) out of the Statement's table words and the real class files: 20 classes; the members and pool entries that the words name. The judged class is class 1, her method 5. -/
namespace start1
open Jvm.ClassFile
def u (s : String) : CpInfo := .utf8 (stringToUtf16 s)
/-- a pool by its gaps: so many unusable entries, then the entry; so many at the end -/
def gap : Nat → List CpInfo → List CpInfo
  | 0, r => r
  | n + 1, r => .unusable :: gap n r
def poolList (es : List (Nat × CpInfo)) (last : Nat) : List CpInfo := es.foldr (fun e r => gap e.1 (e.2 :: r)) (gap last [])
def pool (es : List (Nat × CpInfo)) (last : Nat) : Array CpInfo := ⟨poolList es last⟩
def fileOf (pool : Array CpInfo) (this : Nat) (attrs : Array Attribute := #[]) (ms : Array MethodInfo := #[]) (fl : Nat := 33) (sup : Nat := 0) (ifs : Array Nat := #[]) (fds : Array FieldInfo := #[]) : ClassFile where
  minorVersion := 0
  majorVersion := 65
  constantPool := pool
  accessFlags := fl
  thisClass := this
  superClass := sup
  interfaces := ifs
  fields := fds
  methods := ms
  attributes := attrs
def plain (name : String) (sup : Option ClassId) : Class where
  name := name
  kind := .ordinary
  loader := none
  accessFlags := 33
  super := sup
  interfaces := #[]
  cf := none
  fields := #[]
  methods := #[]
  instanceTypes := #[]
  staticTypes := #[]
  resolved := #[]
  callSites := []
  init := .initialized
  statics := none
  mirror := none

def pool0 : Array CpInfo := pool [(5, u "<init>"), (0, u "()V"), (1, .class_ 10), (1, u "java/lang/Object")] 113

def k0c0 : Code := { maxStack := 0, maxLocals := 1, code := object_method_1_code, exceptionTable := #[], attributes := #[] }
def k0m0 : Method := { name := "<init>", desc := "()V", sig := { parameters := [], returnType := none }, accessFlags := 1, code := some k0c0 }
/-- java/lang/Object -/
def k0 : Class := { plain "java/lang/Object" none with
  accessFlags := 33
  interfaces := #[]
  cf := some (fileOf pool0 8 #[] #[{ accessFlags := 1, nameIndex := 5, descriptorIndex := 6, attributes := #[] }] 33 0 #[] #[])
  fields := #[]
  methods := #[k0m0]
  instanceTypes := #[]
  staticTypes := #[]
  resolved := Array.replicate 124 none
  statics := none }

def pool1 : Array CpInfo := pool [(2, .class_ 4), (1, u "java/lang/Object"), (0, u "<init>"), (0, u "()V"), (0, .methodref 8 9), (0, .class_ 10), (0, .nameAndType 11 12), (0, u "com/example/breakwater/breakwater/engine/InstanceEqualsPinLaw"), (0, u "len"), (0, u "(I)I"), (0, .class_ 14), (0, u "java/lang/String"), (0, .methodref 13 16), (0, .nameAndType 5 17), (0, u "([C)V"), (0, .methodref 8 19), (0, .nameAndType 20 21), (0, u "ch"), (0, u "(II)C"), (0, .class_ 23), (0, u "com/example/breakwater/breakwater/engine/Instance"), (0, .methodref 8 25), (0, .nameAndType 26 27), (0, u "str"), (0, u "(I)Ljava/lang/String;"), (0, .methodref 22 29), (0, .nameAndType 5 30), (0, u "(Ljava/lang/String;Ljava/lang/String;)V"), (0, .methodref 8 32), (0, .nameAndType 33 34), (0, u "sameStr"), (0, u "(II)Z"), (0, .methodref 22 36), (0, .nameAndType 37 38), (0, u "equals"), (0, u "(Ljava/lang/Object;)Z"), (3, u "law"), (0, u "(IIIII)Z")] 2

def k1m0 : Method := { name := "<init>", desc := "()V", sig := { parameters := [], returnType := none }, accessFlags := 1, code := none }
def k1c1 : Code := { maxStack := 2, maxLocals := 1, code := method_2_code, exceptionTable := #[], attributes := #[] }
def k1m1 : Method := { name := "len", desc := "(I)I", sig := { parameters := [.int], returnType := some .int }, accessFlags := 10, code := some k1c1 }
def k1c2 : Code := { maxStack := 4, maxLocals := 2, code := method_3_code, exceptionTable := #[], attributes := #[] }
def k1m2 : Method := { name := "ch", desc := "(II)C", sig := { parameters := [.int, .int], returnType := some .char }, accessFlags := 10, code := some k1c2 }
def k1c3 : Code := { maxStack := 7, maxLocals := 2, code := method_4_code, exceptionTable := #[], attributes := #[] }
def k1m3 : Method := { name := "str", desc := "(I)Ljava/lang/String;", sig := { parameters := [.int], returnType := some (.object "java/lang/String") }, accessFlags := 10, code := some k1c3 }
def k1c4 : Code := { maxStack := 3, maxLocals := 4, code := method_5_code, exceptionTable := #[], attributes := #[] }
def k1m4 : Method := { name := "sameStr", desc := "(II)Z", sig := { parameters := [.int, .int], returnType := some .boolean }, accessFlags := 10, code := some k1c4 }
def k1c5 : Code := { maxStack := 4, maxLocals := 9, code := code, exceptionTable := #[], attributes := #[] }
def k1m5 : Method := { name := "law", desc := "(IIIII)Z", sig := { parameters := [.int, .int, .int, .int, .int], returnType := some .boolean }, accessFlags := 9, code := some k1c5 }
/-- com/example/breakwater/breakwater/engine/InstanceEqualsPinLaw -/
def k1 : Class := { plain "com/example/breakwater/breakwater/engine/InstanceEqualsPinLaw" (some 0) with
  accessFlags := 49
  interfaces := #[]
  cf := some (fileOf pool1 8 #[] #[{ accessFlags := 1, nameIndex := 5, descriptorIndex := 6, attributes := #[] }, { accessFlags := 10, nameIndex := 11, descriptorIndex := 12, attributes := #[] }, { accessFlags := 10, nameIndex := 20, descriptorIndex := 21, attributes := #[] }, { accessFlags := 10, nameIndex := 26, descriptorIndex := 27, attributes := #[] }, { accessFlags := 10, nameIndex := 33, descriptorIndex := 34, attributes := #[] }, { accessFlags := 9, nameIndex := 42, descriptorIndex := 43, attributes := #[] }] 49 2 #[] #[])
  fields := #[]
  methods := #[k1m0, k1m1, k1m2, k1m3, k1m4, k1m5]
  instanceTypes := #[]
  staticTypes := #[]
  resolved := Array.replicate 46 none
  statics := none }

def pool2 : Array CpInfo := pool [(1, .methodref 2 3), (0, .class_ 4), (0, .nameAndType 5 6), (0, u "java/lang/Object"), (0, u "<init>"), (0, u "()V"), (0, .fieldref 8 9), (0, .class_ 10), (0, .nameAndType 11 12), (0, u "com/example/breakwater/breakwater/engine/Instance"), (0, u "node"), (0, u "Ljava/lang/String;"), (0, .fieldref 8 14), (0, .nameAndType 15 12), (0, u "url"), (0, .methodref 17 18), (0, .class_ 19), (0, .nameAndType 20 21), (0, u "java/lang/String"), (0, u "equals"), (0, u "(Ljava/lang/Object;)Z"), (6, u "(Ljava/lang/String;Ljava/lang/String;)V")] 10

def k2c0 : Code := { maxStack := 2, maxLocals := 3, code := prog_13_method_1_code, exceptionTable := #[], attributes := #[] }
def k2m0 : Method := { name := "<init>", desc := "(Ljava/lang/String;Ljava/lang/String;)V", sig := { parameters := [(.object "java/lang/String"), (.object "java/lang/String")], returnType := none }, accessFlags := 0, code := some k2c0 }
def k2c1 : Code := { maxStack := 2, maxLocals := 3, code := prog_13_method_4_code, exceptionTable := #[], attributes := #[] }
def k2m1 : Method := { name := "equals", desc := "(Ljava/lang/Object;)Z", sig := { parameters := [(.object "java/lang/Object")], returnType := some .boolean }, accessFlags := 1, code := some k2c1 }
/-- com/example/breakwater/breakwater/engine/Instance -/
def k2 : Class := { plain "com/example/breakwater/breakwater/engine/Instance" (some 0) with
  accessFlags := 33
  interfaces := #[]
  cf := some (fileOf pool2 8 #[] #[{ accessFlags := 0, nameIndex := 5, descriptorIndex := 28, attributes := #[] }, { accessFlags := 1, nameIndex := 20, descriptorIndex := 21, attributes := #[] }] 33 2 #[] #[{ accessFlags := 18, nameIndex := 11, descriptorIndex := 12, attributes := #[] }, { accessFlags := 18, nameIndex := 15, descriptorIndex := 12, attributes := #[] }])
  fields := #[{ name := "node", type := (.object "java/lang/String"), accessFlags := 18, slot := 0, constantValue := 0 }, { name := "url", type := (.object "java/lang/String"), accessFlags := 18, slot := 1, constantValue := 0 }]
  methods := #[k2m0, k2m1]
  instanceTypes := #[(.object "java/lang/String"), (.object "java/lang/String")]
  staticTypes := #[]
  resolved := Array.replicate 39 none
  statics := none }

def pool3 : Array CpInfo := pool [(1, .class_ 2), (0, u "java/io/Serializable"), (0, .class_ 4), (0, u "java/lang/Object")] 2

/-- java/io/Serializable -/
def k3 : Class := { plain "java/io/Serializable" (some 0) with
  accessFlags := 1537
  interfaces := #[]
  cf := some (fileOf pool3 1 #[] #[] 1537 3 #[] #[])
  fields := #[]
  methods := #[]
  instanceTypes := #[]
  staticTypes := #[]
  resolved := Array.replicate 7 none
  statics := none }

def pool4 : Array CpInfo := pool [(1, .class_ 2), (0, u "java/lang/Comparable"), (0, .class_ 4), (0, u "java/lang/Object")] 7

/-- java/lang/Comparable -/
def k4 : Class := { plain "java/lang/Comparable" (some 0) with
  accessFlags := 1537
  interfaces := #[]
  cf := some (fileOf pool4 1 #[] #[] 1537 3 #[] #[])
  fields := #[]
  methods := #[]
  instanceTypes := #[]
  staticTypes := #[]
  resolved := Array.replicate 12 none
  statics := none }

def pool5 : Array CpInfo := pool [(2, .class_ 4), (1, u "java/lang/CharSequence"), (42, .class_ 48), (0, u "java/lang/CharSequence$1CodePointIterator"), (10, .class_ 60), (0, u "java/lang/CharSequence$1CharIterator"), (5, .class_ 67), (0, u "java/lang/Object")] 63

/-- java/lang/CharSequence -/
def k5 : Class := { plain "java/lang/CharSequence" (some 0) with
  accessFlags := 1537
  interfaces := #[]
  cf := some (fileOf pool5 2 #[.nestMembers #[47, 59]] #[] 1537 66 #[] #[])
  fields := #[]
  methods := #[]
  instanceTypes := #[]
  staticTypes := #[]
  resolved := Array.replicate 131 none
  statics := none }

def pool6 : Array CpInfo := pool [(1, .class_ 2), (0, u "java/lang/constant/Constable"), (0, .class_ 4), (0, u "java/lang/Object")] 6

/-- java/lang/constant/Constable -/
def k6 : Class := { plain "java/lang/constant/Constable" (some 0) with
  accessFlags := 1537
  interfaces := #[]
  cf := some (fileOf pool6 1 #[] #[] 1537 3 #[] #[])
  fields := #[]
  methods := #[]
  instanceTypes := #[]
  staticTypes := #[]
  resolved := Array.replicate 11 none
  statics := none }

def pool7 : Array CpInfo := pool [(1, .class_ 2), (0, u "java/lang/constant/ConstantDesc"), (0, .class_ 4), (0, u "java/lang/Object")] 32

/-- java/lang/constant/ConstantDesc -/
def k7 : Class := { plain "java/lang/constant/ConstantDesc" (some 0) with
  accessFlags := 1537
  interfaces := #[]
  cf := some (fileOf pool7 1 #[] #[] 1537 3 #[] #[])
  fields := #[]
  methods := #[]
  instanceTypes := #[]
  staticTypes := #[]
  resolved := Array.replicate 37 none
  statics := none }

def pool8 : Array CpInfo := pool [(1, .methodref 2 3), (0, .class_ 4), (0, .nameAndType 5 6), (0, u "java/lang/Object"), (0, u "<init>"), (0, u "()V"), (0, .string 8), (0, u ""), (0, .fieldref 10 11), (0, .class_ 12), (0, .nameAndType 13 14), (0, u "java/lang/String"), (0, u "value"), (0, u "[B"), (0, .fieldref 10 16), (0, .nameAndType 17 18), (0, u "coder"), (0, u "B"), (2, u "hash"), (0, u "I"), (2, u "hashIsZero"), (0, u "Z"), (0, .methodref 10 28), (0, .nameAndType 5 29), (0, u "([CIILjava/lang/Void;)V"), (8, .fieldref 10 39), (0, .nameAndType 40 26), (0, u "COMPACT_STRINGS"), (1, .class_ 44), (1, u "java/lang/StringUTF16"), (0, u "compress"), (1, .methodref 42 48), (0, .nameAndType 49 50), (0, u "coderFromArrayLen"), (0, u "([BI)B"), (56, .class_ 109), (1, u "java/lang/StringLatin1"), (67, .methodref 42 178), (0, .nameAndType 45 179), (0, u "([CII)[B"), (361, .methodref 107 542), (0, .nameAndType 543 544), (0, u "equals"), (0, u "([B[B)Z"), (28, u "(Ljava/lang/Object;)Z"), (1, .class_ 576), (0, u "java/lang/CharSequence"), (22, u "CASE_INSENSITIVE_ORDER"), (0, u "Ljava/util/Comparator;"), (409, u "([C)V"), (90, u "serialPersistentFields"), (0, u "[Ljava/io/ObjectStreamField;"), (0, .class_ 1104), (0, u "java/lang/String$CaseInsensitiveComparator"), (1, .class_ 1107), (0, u "java/io/Serializable"), (0, .class_ 1109), (0, u "java/lang/Comparable"), (0, .class_ 1111), (0, u "java/lang/constant/Constable"), (0, .class_ 1113), (0, u "java/lang/constant/ConstantDesc"), (2, u "serialVersionUID"), (0, u "J"), (3, u "REPL"), (0, u "C"), (2, u "LATIN1"), (1, u "UTF16")] 323

def k8m0 : Method := { name := "<init>", desc := "()V", sig := { parameters := [], returnType := none }, accessFlags := 1, code := none }
def k8c1 : Code := { maxStack := 5, maxLocals := 2, code := jdk_42_method_3_code, exceptionTable := #[], attributes := #[] }
def k8m1 : Method := { name := "<init>", desc := "([C)V", sig := { parameters := [(.array .char)], returnType := none }, accessFlags := 1, code := some k8c1 }
def k8c2 : Code := { maxStack := 2, maxLocals := 3, code := jdk_42_method_66_code, exceptionTable := #[], attributes := #[] }
def k8m2 : Method := { name := "equals", desc := "(Ljava/lang/Object;)Z", sig := { parameters := [(.object "java/lang/Object")], returnType := some .boolean }, accessFlags := 1, code := some k8c2 }
def k8c3 : Code := { maxStack := 4, maxLocals := 6, code := jdk_42_method_149_code, exceptionTable := #[], attributes := #[] }
def k8m3 : Method := { name := "<init>", desc := "([CIILjava/lang/Void;)V", sig := { parameters := [(.array .char), .int, .int, (.object "java/lang/Void")], returnType := none }, accessFlags := 2, code := some k8c3 }
/-- java/lang/String -/
def k8 : Class := { plain "java/lang/String" (some 0) with
  accessFlags := 49
  interfaces := #[3, 4, 5, 6, 7]
  cf := some (fileOf pool8 10 #[.nestMembers #[1103]] #[{ accessFlags := 1, nameIndex := 5, descriptorIndex := 6, attributes := #[] }, { accessFlags := 1, nameIndex := 5, descriptorIndex := 1010, attributes := #[] }, { accessFlags := 1, nameIndex := 543, descriptorIndex := 573, attributes := #[] }, { accessFlags := 2, nameIndex := 5, descriptorIndex := 29, attributes := #[] }] 49 2 #[1106, 1108, 575, 1110, 1112] #[{ accessFlags := 18, nameIndex := 13, descriptorIndex := 14, attributes := #[] }, { accessFlags := 18, nameIndex := 17, descriptorIndex := 18, attributes := #[] }, { accessFlags := 2, nameIndex := 21, descriptorIndex := 22, attributes := #[] }, { accessFlags := 2, nameIndex := 25, descriptorIndex := 26, attributes := #[] }, { accessFlags := 26, nameIndex := 1116, descriptorIndex := 1117, attributes := #[] }, { accessFlags := 24, nameIndex := 40, descriptorIndex := 26, attributes := #[] }, { accessFlags := 26, nameIndex := 1101, descriptorIndex := 1102, attributes := #[] }, { accessFlags := 26, nameIndex := 1121, descriptorIndex := 1122, attributes := #[] }, { accessFlags := 25, nameIndex := 599, descriptorIndex := 600, attributes := #[] }, { accessFlags := 24, nameIndex := 1125, descriptorIndex := 18, attributes := #[] }, { accessFlags := 24, nameIndex := 1127, descriptorIndex := 18, attributes := #[] }])
  fields := #[{ name := "value", type := (.array .byte), accessFlags := 18, slot := 0, constantValue := 0 }, { name := "coder", type := .byte, accessFlags := 18, slot := 1, constantValue := 0 }, { name := "hash", type := .int, accessFlags := 2, slot := 2, constantValue := 0 }, { name := "hashIsZero", type := .boolean, accessFlags := 2, slot := 3, constantValue := 0 }, { name := "serialVersionUID", type := .long, accessFlags := 26, slot := 0, constantValue := 0 }, { name := "COMPACT_STRINGS", type := .boolean, accessFlags := 24, slot := 1, constantValue := 0 }, { name := "serialPersistentFields", type := (.array (.object "java/io/ObjectStreamField")), accessFlags := 26, slot := 2, constantValue := 0 }, { name := "REPL", type := .char, accessFlags := 26, slot := 3, constantValue := 0 }, { name := "CASE_INSENSITIVE_ORDER", type := (.object "java/util/Comparator"), accessFlags := 25, slot := 4, constantValue := 0 }, { name := "LATIN1", type := .byte, accessFlags := 24, slot := 5, constantValue := 0 }, { name := "UTF16", type := .byte, accessFlags := 24, slot := 6, constantValue := 0 }]
  methods := #[k8m0, k8m1, k8m2, k8m3]
  instanceTypes := #[(.array .byte), .byte, .int, .boolean]
  staticTypes := #[.long, .boolean, (.array (.object "java/io/ObjectStreamField")), .char, (.object "java/util/Comparator"), .byte, .byte]
  resolved := Array.replicate 1451 none
  statics := some 0 }

def pool9 : Array CpInfo := pool [(6, .class_ 8), (1, u "java/lang/Object"), (0, u "<init>"), (0, u "()V"), (1, .class_ 14), (1, u "java/lang/StringUTF16"), (31, u "$assertionsDisabled"), (0, u "Z"), (13, u "HI_BYTE_SHIFT"), (0, u "I"), (2, u "LO_BYTE_SHIFT"), (49, .methodref 12 116), (0, .nameAndType 117 118), (0, u "compress"), (0, u "([CI[BII)I"), (3, u "([CII)[B"), (138, u "coderFromArrayLen"), (0, u "([BI)B"), (106, .class_ 371), (1, u "java/lang/StringUTF16$LinesSpliterator"), (58, u "MAX_LENGTH"), (196, .class_ 628), (0, u "java/lang/StringUTF16$CodePointsSpliterator"), (0, .class_ 630), (0, u "java/lang/StringUTF16$CharsSpliterator")] 4

def k9m0 : Method := { name := "<init>", desc := "()V", sig := { parameters := [], returnType := none }, accessFlags := 0, code := none }
def k9c1 : Code := { maxStack := 2, maxLocals := 2, code := jdk_52_method_15_code, exceptionTable := #[], attributes := #[] }
def k9m1 : Method := { name := "coderFromArrayLen", desc := "([BI)B", sig := { parameters := [(.array .byte), .int], returnType := some .byte }, accessFlags := 8, code := some k9c1 }
def k9c2 : Code := { maxStack := 5, maxLocals := 6, code := jdk_52_method_16_code, exceptionTable := #[], attributes := #[] }
def k9m2 : Method := { name := "compress", desc := "([CII)[B", sig := { parameters := [(.array .char), .int, .int], returnType := some (.array .byte) }, accessFlags := 9, code := some k9c2 }
def k9c3 : Code := { maxStack := 3, maxLocals := 7, code := jdk_52_method_21_code, exceptionTable := #[], attributes := #[] }
def k9m3 : Method := { name := "compress", desc := "([CI[BII)I", sig := { parameters := [(.array .char), .int, (.array .byte), .int, .int], returnType := some .int }, accessFlags := 9, code := some k9c3 }
/-- java/lang/StringUTF16 -/
def k9 : Class := { plain "java/lang/StringUTF16" (some 0) with
  accessFlags := 48
  interfaces := #[]
  cf := some (fileOf pool9 12 #[.nestMembers #[627, 629, 369]] #[{ accessFlags := 0, nameIndex := 9, descriptorIndex := 10, attributes := #[] }, { accessFlags := 8, nameIndex := 261, descriptorIndex := 262, attributes := #[] }, { accessFlags := 9, nameIndex := 117, descriptorIndex := 122, attributes := #[] }, { accessFlags := 9, nameIndex := 117, descriptorIndex := 118, attributes := #[] }] 48 6 #[] #[{ accessFlags := 26, nameIndex := 61, descriptorIndex := 62, attributes := #[] }, { accessFlags := 26, nameIndex := 65, descriptorIndex := 62, attributes := #[] }, { accessFlags := 24, nameIndex := 430, descriptorIndex := 62, attributes := #[] }, { accessFlags := 4120, nameIndex := 46, descriptorIndex := 47, attributes := #[] }])
  fields := #[{ name := "HI_BYTE_SHIFT", type := .int, accessFlags := 26, slot := 0, constantValue := 0 }, { name := "LO_BYTE_SHIFT", type := .int, accessFlags := 26, slot := 1, constantValue := 0 }, { name := "MAX_LENGTH", type := .int, accessFlags := 24, slot := 2, constantValue := 0 }, { name := "$assertionsDisabled", type := .boolean, accessFlags := 4120, slot := 3, constantValue := 0 }]
  methods := #[k9m0, k9m1, k9m2, k9m3]
  instanceTypes := #[]
  staticTypes := #[.int, .int, .int, .boolean]
  resolved := Array.replicate 635 none
  statics := none }

def pool10 : Array CpInfo := pool [(4, .class_ 6), (1, u "java/lang/Object"), (0, u "<init>"), (0, u "()V"), (5, .class_ 16), (1, u "java/lang/StringLatin1"), (104, u "$assertionsDisabled"), (0, u "Z"), (98, .class_ 223), (1, u "java/lang/StringLatin1$LinesSpliterator"), (57, u "equals"), (0, u "([B[B)Z"), (107, .class_ 391), (0, u "java/lang/StringLatin1$CharsSpliterator")] 3

def k10m0 : Method := { name := "<init>", desc := "()V", sig := { parameters := [], returnType := none }, accessFlags := 0, code := none }
def k10c1 : Code := { maxStack := 3, maxLocals := 3, code := jdk_43_method_13_code, exceptionTable := #[], attributes := #[] }
def k10m1 : Method := { name := "equals", desc := "([B[B)Z", sig := { parameters := [(.array .byte), (.array .byte)], returnType := some .boolean }, accessFlags := 9, code := some k10c1 }
/-- java/lang/StringLatin1 -/
def k10 : Class := { plain "java/lang/StringLatin1" (some 0) with
  accessFlags := 48
  interfaces := #[]
  cf := some (fileOf pool10 14 #[.nestMembers #[390, 221]] #[{ accessFlags := 0, nameIndex := 7, descriptorIndex := 8, attributes := #[] }, { accessFlags := 9, nameIndex := 281, descriptorIndex := 282, attributes := #[] }] 48 4 #[] #[{ accessFlags := 4120, nameIndex := 121, descriptorIndex := 122, attributes := #[] }])
  fields := #[{ name := "$assertionsDisabled", type := .boolean, accessFlags := 4120, slot := 0, constantValue := 0 }]
  methods := #[k10m0, k10m1]
  instanceTypes := #[]
  staticTypes := #[.boolean]
  resolved := Array.replicate 395 none
  statics := none }

def pool11 : Array CpInfo := pool [(2, .class_ 4), (1, u "java/lang/Object"), (0, u "<init>"), (0, u "()V"), (17, .class_ 26), (1, u "jdk/internal/util/Preconditions"), (28, .class_ 56), (0, u "jdk/internal/util/Preconditions$4"), (57, .class_ 115), (0, u "jdk/internal/util/Preconditions$1"), (7, u "SIOOBE_FORMATTER"), (0, u "Ljava/util/function/BiFunction;"), (0, .class_ 126), (0, u "jdk/internal/util/Preconditions$2"), (3, u "AIOOBE_FORMATTER"), (0, .class_ 132), (0, u "jdk/internal/util/Preconditions$3"), (3, u "IOOBE_FORMATTER")] 57

def k11m0 : Method := { name := "<init>", desc := "()V", sig := { parameters := [], returnType := none }, accessFlags := 1, code := none }
/-- jdk/internal/util/Preconditions -/
def k11 : Class := { plain "jdk/internal/util/Preconditions" (some 0) with
  accessFlags := 33
  interfaces := #[]
  cf := some (fileOf pool11 24 #[.nestMembers #[55, 131, 125, 114]] #[{ accessFlags := 1, nameIndex := 5, descriptorIndex := 6, attributes := #[] }] 33 2 #[] #[{ accessFlags := 25, nameIndex := 123, descriptorIndex := 124, attributes := #[] }, { accessFlags := 25, nameIndex := 130, descriptorIndex := 124, attributes := #[] }, { accessFlags := 25, nameIndex := 136, descriptorIndex := 124, attributes := #[] }])
  fields := #[{ name := "SIOOBE_FORMATTER", type := (.object "java/util/function/BiFunction"), accessFlags := 25, slot := 0, constantValue := 0 }, { name := "AIOOBE_FORMATTER", type := (.object "java/util/function/BiFunction"), accessFlags := 25, slot := 1, constantValue := 0 }, { name := "IOOBE_FORMATTER", type := (.object "java/util/function/BiFunction"), accessFlags := 25, slot := 2, constantValue := 0 }]
  methods := #[k11m0]
  instanceTypes := #[]
  staticTypes := #[(.object "java/util/function/BiFunction"), (.object "java/util/function/BiFunction"), (.object "java/util/function/BiFunction")]
  resolved := Array.replicate 194 none
  statics := some 1 }

def pool12 : Array CpInfo := pool [(9, u "<init>"), (6, .class_ 18), (1, u "java/lang/Object"), (0, u "()V"), (1, .class_ 23), (1, u "jdk/internal/util/ArraysSupport"), (0, u "LOG2_ARRAY_LONG_INDEX_SCALE"), (0, u "I"), (2, u "U"), (0, u "Ljdk/internal/misc/Unsafe;"), (8, u "BIG_ENDIAN"), (0, u "Z"), (8, u "LOG2_BYTE_BIT_SIZE"), (4, u "LOG2_ARRAY_INT_INDEX_SCALE"), (54, u "JLA"), (0, u "Ljdk/internal/access/JavaLangAccess;"), (11, u "LOG2_ARRAY_BOOLEAN_INDEX_SCALE"), (9, u "LOG2_ARRAY_BYTE_INDEX_SCALE"), (5, u "LOG2_ARRAY_CHAR_INDEX_SCALE"), (5, u "LOG2_ARRAY_SHORT_INDEX_SCALE"), (18, u "LOG2_ARRAY_FLOAT_INDEX_SCALE"), (24, u "LOG2_ARRAY_DOUBLE_INDEX_SCALE"), (89, u "T_BOOLEAN"), (2, u "T_CHAR"), (1, u "T_FLOAT"), (1, u "T_DOUBLE"), (1, u "T_BYTE"), (1, u "T_SHORT"), (1, u "T_INT"), (1, u "T_LONG"), (1, u "SOFT_MAX_ARRAY_LENGTH")] 83

def k12m0 : Method := { name := "<init>", desc := "()V", sig := { parameters := [], returnType := none }, accessFlags := 2, code := none }
/-- jdk/internal/util/ArraysSupport -/
def k12 : Class := { plain "jdk/internal/util/ArraysSupport" (some 0) with
  accessFlags := 33
  interfaces := #[]
  cf := some (fileOf pool12 21 #[] #[{ accessFlags := 2, nameIndex := 9, descriptorIndex := 19, attributes := #[] }] 33 16 #[] #[{ accessFlags := 24, nameIndex := 28, descriptorIndex := 29, attributes := #[] }, { accessFlags := 26, nameIndex := 38, descriptorIndex := 39, attributes := #[] }, { accessFlags := 25, nameIndex := 121, descriptorIndex := 25, attributes := #[] }, { accessFlags := 25, nameIndex := 131, descriptorIndex := 25, attributes := #[] }, { accessFlags := 25, nameIndex := 137, descriptorIndex := 25, attributes := #[] }, { accessFlags := 25, nameIndex := 143, descriptorIndex := 25, attributes := #[] }, { accessFlags := 25, nameIndex := 53, descriptorIndex := 25, attributes := #[] }, { accessFlags := 25, nameIndex := 24, descriptorIndex := 25, attributes := #[] }, { accessFlags := 25, nameIndex := 162, descriptorIndex := 25, attributes := #[] }, { accessFlags := 25, nameIndex := 187, descriptorIndex := 25, attributes := #[] }, { accessFlags := 26, nameIndex := 48, descriptorIndex := 25, attributes := #[] }, { accessFlags := 25, nameIndex := 277, descriptorIndex := 25, attributes := #[] }, { accessFlags := 25, nameIndex := 280, descriptorIndex := 25, attributes := #[] }, { accessFlags := 25, nameIndex := 282, descriptorIndex := 25, attributes := #[] }, { accessFlags := 25, nameIndex := 284, descriptorIndex := 25, attributes := #[] }, { accessFlags := 25, nameIndex := 286, descriptorIndex := 25, attributes := #[] }, { accessFlags := 25, nameIndex := 288, descriptorIndex := 25, attributes := #[] }, { accessFlags := 25, nameIndex := 290, descriptorIndex := 25, attributes := #[] }, { accessFlags := 25, nameIndex := 292, descriptorIndex := 25, attributes := #[] }, { accessFlags := 26, nameIndex := 108, descriptorIndex := 109, attributes := #[] }, { accessFlags := 25, nameIndex := 294, descriptorIndex := 25, attributes := #[] }])
  fields := #[{ name := "U", type := (.object "jdk/internal/misc/Unsafe"), accessFlags := 24, slot := 0, constantValue := 0 }, { name := "BIG_ENDIAN", type := .boolean, accessFlags := 26, slot := 1, constantValue := 0 }, { name := "LOG2_ARRAY_BOOLEAN_INDEX_SCALE", type := .int, accessFlags := 25, slot := 2, constantValue := 0 }, { name := "LOG2_ARRAY_BYTE_INDEX_SCALE", type := .int, accessFlags := 25, slot := 3, constantValue := 0 }, { name := "LOG2_ARRAY_CHAR_INDEX_SCALE", type := .int, accessFlags := 25, slot := 4, constantValue := 0 }, { name := "LOG2_ARRAY_SHORT_INDEX_SCALE", type := .int, accessFlags := 25, slot := 5, constantValue := 0 }, { name := "LOG2_ARRAY_INT_INDEX_SCALE", type := .int, accessFlags := 25, slot := 6, constantValue := 0 }, { name := "LOG2_ARRAY_LONG_INDEX_SCALE", type := .int, accessFlags := 25, slot := 7, constantValue := 0 }, { name := "LOG2_ARRAY_FLOAT_INDEX_SCALE", type := .int, accessFlags := 25, slot := 8, constantValue := 0 }, { name := "LOG2_ARRAY_DOUBLE_INDEX_SCALE", type := .int, accessFlags := 25, slot := 9, constantValue := 0 }, { name := "LOG2_BYTE_BIT_SIZE", type := .int, accessFlags := 26, slot := 10, constantValue := 0 }, { name := "T_BOOLEAN", type := .int, accessFlags := 25, slot := 11, constantValue := 0 }, { name := "T_CHAR", type := .int, accessFlags := 25, slot := 12, constantValue := 0 }, { name := "T_FLOAT", type := .int, accessFlags := 25, slot := 13, constantValue := 0 }, { name := "T_DOUBLE", type := .int, accessFlags := 25, slot := 14, constantValue := 0 }, { name := "T_BYTE", type := .int, accessFlags := 25, slot := 15, constantValue := 0 }, { name := "T_SHORT", type := .int, accessFlags := 25, slot := 16, constantValue := 0 }, { name := "T_INT", type := .int, accessFlags := 25, slot := 17, constantValue := 0 }, { name := "T_LONG", type := .int, accessFlags := 25, slot := 18, constantValue := 0 }, { name := "JLA", type := (.object "jdk/internal/access/JavaLangAccess"), accessFlags := 26, slot := 19, constantValue := 0 }, { name := "SOFT_MAX_ARRAY_LENGTH", type := .int, accessFlags := 25, slot := 20, constantValue := 0 }]
  methods := #[k12m0]
  instanceTypes := #[]
  staticTypes := #[(.object "jdk/internal/misc/Unsafe"), .boolean, .int, .int, .int, .int, .int, .int, .int, .int, .int, .int, .int, .int, .int, .int, .int, .int, .int, (.object "jdk/internal/access/JavaLangAccess"), .int]
  resolved := Array.replicate 378 none
  statics := none }

def pool13 : Array CpInfo := pool [(1, u "java/lang/Cloneable"), (0, .class_ 1), (0, u "java/lang/Object"), (0, .class_ 3)] 3

/-- java/lang/Cloneable -/
def k13 : Class := { plain "java/lang/Cloneable" (some 0) with
  accessFlags := 1537
  interfaces := #[]
  cf := some (fileOf pool13 2 #[] #[] 1537 4 #[] #[])
  fields := #[]
  methods := #[]
  instanceTypes := #[]
  staticTypes := #[]
  resolved := Array.replicate 8 none
  statics := none }

/-- the primitive byte -/
def k14 : Class := { plain "byte" none with kind := .primitive 'B', accessFlags := 0x411 }
/-- [B -/
def k15 : Class := { plain "[B" (some 0) with kind := .array 14 .byte, interfaces := #[13, 3], accessFlags := 1041 }

/-- the primitive char -/
def k16 : Class := { plain "char" none with kind := .primitive 'C', accessFlags := 0x411 }
/-- [C -/
def k17 : Class := { plain "[C" (some 0) with kind := .array 16 .char, interfaces := #[13, 3], accessFlags := 1041 }

/-- the primitive int -/
def k18 : Class := { plain "int" none with kind := .primitive 'I', accessFlags := 0x411 }
/-- [I -/
def k19 : Class := { plain "[I" (some 0) with kind := .array 18 .int, interfaces := #[13, 3], accessFlags := 1041 }

def heap : Heap := #[{ cls := 8, slots := #[.long 0, .int 1, .null, .int 0, .null, .int 0, .int 0], vm := .statics 8 },
  { cls := 11, slots := #[.null, .null, .null], vm := .statics 11 }]
def classes : Array Class := #[k0, k1, k2, k3, k4, k5, k6, k7, k8, k9, k10, k11, k12, k13, k14, k15, k16, k17, k18, k19]
def interned : List (Array UInt16 × Addr) := []
def slotsUsed : Nat := 10
def theMethod : MethodId := ⟨1, 5⟩
def args0 : Array Value := #[.int 5, .int 6, .int 7, .int 8, .int 9]
def aboutOver (below : List Frame) : State where
  vm := { classes := classes, interned := interned.toArray }
  heap := heap
  slotsUsed := slotsUsed
  threads := #[{ frames := .invoking theMethod args0 :: below }]
def below0 : List Frame := [.native { method := ⟨0, 0⟩, args := #[] }]
def about1 : State := aboutOver below0
def p0 : Program := .bare "" "" ""
def e0 : Env := launch0.env 0 0 0
theorem w_frames : about1.frames = Frame.invoking theMethod args0 :: below0 := rfl
set_option maxRecDepth 65536 in
theorem w_args : argsFit about1.vm theMethod args0 = true := by decide +kernel
set_option maxRecDepth 65536 in
theorem w_heap : heapFits about1 = true := by decide +kernel
set_option maxRecDepth 65536 in
theorem w_runnable : about1.curStatus? = some .runnable := by decide +kernel
set_option maxRecDepth 65536 in
theorem w_alone : about1.alone = true := by decide +kernel
set_option maxRecDepth 65536 in
theorem w_named : about1.methodNamed? x = some theMethod := by decide +kernel
set_option maxRecDepth 65536 in
theorem w_hears : about1.hears theMethod below0 = true := by decide +kernel
set_option maxRecDepth 65536 in
theorem w_ripe : about1.ripe theMethod args0 below0 = true := by decide +kernel
theorem w_running : about1.status = .running := rfl
set_option maxRecDepth 65536 in
theorem w_room : about1.hasRoom e0.platform room_1 = true :=
  launch0.hasRoom_least _ room_1 (by decide +kernel) (by decide +kernel) (by decide +kernel) (by decide +kernel) (by decide +kernel) (by decide +kernel)
theorem allAtoms_all (ts : List Jvm.Cond) (a : Array Jvm.Value) (st : Jvm.State) : (allAtoms ts).before a st = ts.all (fun c => c.before a st) := by
  induction ts with
  | nil => rfl
  | cons c t ih =>
    show (Jvm.Cond.and c (allAtoms t)).before a st = _
    rw [Jvm.Cond.before_and, ih, List.all_cons]
def words1 : List Jvm.Cond := Jvm.Cond.code x code maxLocals ret :: tables_1
/-- a 'code' word, met by the world's own term for the bytes: nothing is compared byte by byte -/
theorem code_word {y : MethodName} {bytes : ByteArray} {mx : Nat} {rt : Option FieldType} {a : Array Value} {s : State} {m : MethodId} {meth : Method} {c : Code} (h1 : s.methodNamed? y = some m) (h2 : s.vm.method? m = some meth) (h3 : meth.code = some c) (h4 : c.code = bytes)
    (h5 : (c.maxLocals == mx && c.exceptionTable.isEmpty && decide (c.maxStack ≤ mostOperands) && decide (meth.sig.returnType = rt) && !meth.locks && decide (parseMethodDescriptor y.desc = some meth.sig)) = true) : (Jvm.Cond.code y bytes mx rt).before a s = true := by
  simp only [Bool.and_eq_true, beq_iff_eq, Bool.not_eq_true', decide_eq_true_eq] at h5
  obtain ⟨⟨⟨⟨⟨g1, g2⟩, g3⟩, g4⟩, g5⟩, g6⟩ := h5
  simp [Cond.before, Cond.holds, Cond.value, h1, h2, h3, h4, g1, g2, g3, g4, g5, g6]
def isCode : Jvm.Cond → Bool
  | .code _ _ _ _ => true
  | _ => false
theorem all_split {L : List Jvm.Cond} {P : Jvm.Cond → Bool} (h1 : L.all (fun c => isCode c || P c) = true) (h2 : ∀ c ∈ L.filter isCode, P c = true) : L.all P = true := by
  refine List.all_eq_true.mpr fun c hc => ?_
  have h := List.all_eq_true.mp h1 c hc
  rcases Bool.eq_false_or_eq_true (isCode c) with hi | hi
  · exact h2 c (List.mem_filter.mpr ⟨hc, hi⟩)
  · simpa [hi] using h
set_option maxRecDepth 65536 in
theorem w_c0 : (Jvm.Cond.code x code maxLocals ret).before args0 about1 = true := code_word (m := ⟨1, 5⟩) (meth := k1m5) (c := k1c5) (by decide +kernel) rfl rfl rfl (by decide +kernel)
set_option maxRecDepth 65536 in
theorem w_c1 : (Jvm.Cond.code ({ cls := "com/example/breakwater/breakwater/engine/InstanceEqualsPinLaw", name := "str", desc := "(I)Ljava/lang/String;" } : Jvm.MethodName) method_4_code (2 : Nat) (Option.some (Jvm.ClassFile.FieldType.object "java/lang/String"))).before args0 about1 = true := code_word (m := ⟨1, 3⟩) (meth := k1m3) (c := k1c3) (by decide +kernel) rfl rfl rfl (by decide +kernel)
set_option maxRecDepth 65536 in
theorem w_c2 : (Jvm.Cond.code ({ cls := "com/example/breakwater/breakwater/engine/InstanceEqualsPinLaw", name := "len", desc := "(I)I" } : Jvm.MethodName) method_2_code (1 : Nat) (Option.some Jvm.ClassFile.FieldType.int)).before args0 about1 = true := code_word (m := ⟨1, 1⟩) (meth := k1m1) (c := k1c1) (by decide +kernel) rfl rfl rfl (by decide +kernel)
set_option maxRecDepth 65536 in
theorem w_c3 : (Jvm.Cond.code ({ cls := "java/lang/String", name := "<init>", desc := "([C)V" } : Jvm.MethodName) jdk_42_method_3_code (2 : Nat) (Option.none : Option Jvm.ClassFile.FieldType)).before args0 about1 = true := code_word (m := ⟨8, 1⟩) (meth := k8m1) (c := k8c1) (by decide +kernel) rfl rfl rfl (by decide +kernel)
set_option maxRecDepth 65536 in
theorem w_c4 : (Jvm.Cond.code ({ cls := "java/lang/String", name := "<init>", desc := "([CIILjava/lang/Void;)V" } : Jvm.MethodName) jdk_42_method_149_code (6 : Nat) (Option.none : Option Jvm.ClassFile.FieldType)).before args0 about1 = true := code_word (m := ⟨8, 3⟩) (meth := k8m3) (c := k8c3) (by decide +kernel) rfl rfl rfl (by decide +kernel)
set_option maxRecDepth 65536 in
theorem w_c5 : (Jvm.Cond.code ({ cls := "java/lang/Object", name := "<init>", desc := "()V" } : Jvm.MethodName) object_method_1_code (1 : Nat) (Option.none : Option Jvm.ClassFile.FieldType)).before args0 about1 = true := code_word (m := ⟨0, 0⟩) (meth := k0m0) (c := k0c0) (by decide +kernel) rfl rfl rfl (by decide +kernel)
set_option maxRecDepth 65536 in
theorem w_c6 : (Jvm.Cond.code ({ cls := "com/example/breakwater/breakwater/engine/InstanceEqualsPinLaw", name := "ch", desc := "(II)C" } : Jvm.MethodName) method_3_code (2 : Nat) (Option.some Jvm.ClassFile.FieldType.char)).before args0 about1 = true := code_word (m := ⟨1, 2⟩) (meth := k1m2) (c := k1c2) (by decide +kernel) rfl rfl rfl (by decide +kernel)
set_option maxRecDepth 65536 in
theorem w_c7 : (Jvm.Cond.code ({ cls := "java/lang/StringUTF16", name := "compress", desc := "([CII)[B" } : Jvm.MethodName) jdk_52_method_16_code (6 : Nat) (Option.some (Jvm.ClassFile.FieldType.array Jvm.ClassFile.FieldType.byte))).before args0 about1 = true := code_word (m := ⟨9, 2⟩) (meth := k9m2) (c := k9c2) (by decide +kernel) rfl rfl rfl (by decide +kernel)
set_option maxRecDepth 65536 in
theorem w_c8 : (Jvm.Cond.code ({ cls := "java/lang/StringUTF16", name := "compress", desc := "([CI[BII)I" } : Jvm.MethodName) jdk_52_method_21_code (7 : Nat) (Option.some Jvm.ClassFile.FieldType.int)).before args0 about1 = true := code_word (m := ⟨9, 3⟩) (meth := k9m3) (c := k9c3) (by decide +kernel) rfl rfl rfl (by decide +kernel)
set_option maxRecDepth 65536 in
theorem w_c9 : (Jvm.Cond.code ({ cls := "java/lang/StringUTF16", name := "coderFromArrayLen", desc := "([BI)B" } : Jvm.MethodName) jdk_52_method_15_code (2 : Nat) (Option.some Jvm.ClassFile.FieldType.byte)).before args0 about1 = true := code_word (m := ⟨9, 1⟩) (meth := k9m1) (c := k9c1) (by decide +kernel) rfl rfl rfl (by decide +kernel)
set_option maxRecDepth 65536 in
theorem w_c10 : (Jvm.Cond.code ({ cls := "com/example/breakwater/breakwater/engine/Instance", name := "<init>", desc := "(Ljava/lang/String;Ljava/lang/String;)V" } : Jvm.MethodName) prog_13_method_1_code (3 : Nat) (Option.none : Option Jvm.ClassFile.FieldType)).before args0 about1 = true := code_word (m := ⟨2, 0⟩) (meth := k2m0) (c := k2c0) (by decide +kernel) rfl rfl rfl (by decide +kernel)
set_option maxRecDepth 65536 in
theorem w_c11 : (Jvm.Cond.code ({ cls := "com/example/breakwater/breakwater/engine/InstanceEqualsPinLaw", name := "sameStr", desc := "(II)Z" } : Jvm.MethodName) method_5_code (4 : Nat) (Option.some Jvm.ClassFile.FieldType.boolean)).before args0 about1 = true := code_word (m := ⟨1, 4⟩) (meth := k1m4) (c := k1c4) (by decide +kernel) rfl rfl rfl (by decide +kernel)
set_option maxRecDepth 65536 in
theorem w_c12 : (Jvm.Cond.code ({ cls := "com/example/breakwater/breakwater/engine/Instance", name := "equals", desc := "(Ljava/lang/Object;)Z" } : Jvm.MethodName) prog_13_method_4_code (3 : Nat) (Option.some Jvm.ClassFile.FieldType.boolean)).before args0 about1 = true := code_word (m := ⟨2, 1⟩) (meth := k2m1) (c := k2c1) (by decide +kernel) rfl rfl rfl (by decide +kernel)
set_option maxRecDepth 65536 in
theorem w_c13 : (Jvm.Cond.code ({ cls := "java/lang/String", name := "equals", desc := "(Ljava/lang/Object;)Z" } : Jvm.MethodName) jdk_42_method_66_code (3 : Nat) (Option.some Jvm.ClassFile.FieldType.boolean)).before args0 about1 = true := code_word (m := ⟨8, 2⟩) (meth := k8m2) (c := k8c2) (by decide +kernel) rfl rfl rfl (by decide +kernel)
set_option maxRecDepth 65536 in
theorem w_c14 : (Jvm.Cond.code ({ cls := "java/lang/StringLatin1", name := "equals", desc := "([B[B)Z" } : Jvm.MethodName) jdk_43_method_13_code (3 : Nat) (Option.some Jvm.ClassFile.FieldType.boolean)).before args0 about1 = true := code_word (m := ⟨10, 1⟩) (meth := k10m1) (c := k10c1) (by decide +kernel) rfl rfl rfl (by decide +kernel)
def codes1 : List Jvm.Cond := [Jvm.Cond.code x code maxLocals ret, Jvm.Cond.code ({ cls := "com/example/breakwater/breakwater/engine/InstanceEqualsPinLaw", name := "str", desc := "(I)Ljava/lang/String;" } : Jvm.MethodName) method_4_code (2 : Nat) (Option.some (Jvm.ClassFile.FieldType.object "java/lang/String")), Jvm.Cond.code ({ cls := "com/example/breakwater/breakwater/engine/InstanceEqualsPinLaw", name := "len", desc := "(I)I" } : Jvm.MethodName) method_2_code (1 : Nat) (Option.some Jvm.ClassFile.FieldType.int), Jvm.Cond.code ({ cls := "java/lang/String", name := "<init>", desc := "([C)V" } : Jvm.MethodName) jdk_42_method_3_code (2 : Nat) (Option.none : Option Jvm.ClassFile.FieldType), Jvm.Cond.code ({ cls := "java/lang/String", name := "<init>", desc := "([CIILjava/lang/Void;)V" } : Jvm.MethodName) jdk_42_method_149_code (6 : Nat) (Option.none : Option Jvm.ClassFile.FieldType), Jvm.Cond.code ({ cls := "java/lang/Object", name := "<init>", desc := "()V" } : Jvm.MethodName) object_method_1_code (1 : Nat) (Option.none : Option Jvm.ClassFile.FieldType), Jvm.Cond.code ({ cls := "com/example/breakwater/breakwater/engine/InstanceEqualsPinLaw", name := "ch", desc := "(II)C" } : Jvm.MethodName) method_3_code (2 : Nat) (Option.some Jvm.ClassFile.FieldType.char), Jvm.Cond.code ({ cls := "java/lang/StringUTF16", name := "compress", desc := "([CII)[B" } : Jvm.MethodName) jdk_52_method_16_code (6 : Nat) (Option.some (Jvm.ClassFile.FieldType.array Jvm.ClassFile.FieldType.byte)), Jvm.Cond.code ({ cls := "java/lang/StringUTF16", name := "compress", desc := "([CI[BII)I" } : Jvm.MethodName) jdk_52_method_21_code (7 : Nat) (Option.some Jvm.ClassFile.FieldType.int), Jvm.Cond.code ({ cls := "java/lang/StringUTF16", name := "coderFromArrayLen", desc := "([BI)B" } : Jvm.MethodName) jdk_52_method_15_code (2 : Nat) (Option.some Jvm.ClassFile.FieldType.byte), Jvm.Cond.code ({ cls := "com/example/breakwater/breakwater/engine/Instance", name := "<init>", desc := "(Ljava/lang/String;Ljava/lang/String;)V" } : Jvm.MethodName) prog_13_method_1_code (3 : Nat) (Option.none : Option Jvm.ClassFile.FieldType), Jvm.Cond.code ({ cls := "com/example/breakwater/breakwater/engine/InstanceEqualsPinLaw", name := "sameStr", desc := "(II)Z" } : Jvm.MethodName) method_5_code (4 : Nat) (Option.some Jvm.ClassFile.FieldType.boolean), Jvm.Cond.code ({ cls := "com/example/breakwater/breakwater/engine/Instance", name := "equals", desc := "(Ljava/lang/Object;)Z" } : Jvm.MethodName) prog_13_method_4_code (3 : Nat) (Option.some Jvm.ClassFile.FieldType.boolean), Jvm.Cond.code ({ cls := "java/lang/String", name := "equals", desc := "(Ljava/lang/Object;)Z" } : Jvm.MethodName) jdk_42_method_66_code (3 : Nat) (Option.some Jvm.ClassFile.FieldType.boolean), Jvm.Cond.code ({ cls := "java/lang/StringLatin1", name := "equals", desc := "([B[B)Z" } : Jvm.MethodName) jdk_43_method_13_code (3 : Nat) (Option.some Jvm.ClassFile.FieldType.boolean)]
set_option maxRecDepth 65536 in
theorem codes_eq : words1.filter isCode = codes1 := rfl
theorem w_codes : ∀ c ∈ words1.filter isCode, c.before args0 about1 = true := by
  rw [codes_eq]
  intro c hc
  simp only [codes1, List.mem_cons, List.not_mem_nil, or_false] at hc
  rcases hc with rfl | rfl | rfl | rfl | rfl | rfl | rfl | rfl | rfl | rfl | rfl | rfl | rfl | rfl | rfl
  · exact w_c0
  · exact w_c1
  · exact w_c2
  · exact w_c3
  · exact w_c4
  · exact w_c5
  · exact w_c6
  · exact w_c7
  · exact w_c8
  · exact w_c9
  · exact w_c10
  · exact w_c11
  · exact w_c12
  · exact w_c13
  · exact w_c14
set_option maxRecDepth 65536 in
theorem w_t1 : (words1.take 24).all (fun c => isCode c || c.before args0 about1) = true := by decide +kernel
set_option maxRecDepth 65536 in
theorem w_t2 : ((words1.drop 24).take 24).all (fun c => isCode c || c.before args0 about1) = true := by decide +kernel
set_option maxRecDepth 65536 in
theorem w_t3 : (((words1.drop 24).drop 24).take 24).all (fun c => isCode c || c.before args0 about1) = true := by decide +kernel
set_option maxRecDepth 65536 in
theorem w_t4 : (((words1.drop 24).drop 24).drop 24).all (fun c => isCode c || c.before args0 about1) = true := by decide +kernel
theorem w_tables : (allAtoms (Jvm.Cond.code x code maxLocals ret :: tables_1)).before args0 about1 = true := by
  rw [allAtoms_all]
  show words1.all (fun c => c.before args0 about1) = true
  refine all_split ?_ w_codes
  rw [← List.take_append_drop 24 words1, List.all_append, w_t1, ← List.take_append_drop 24 (words1.drop 24), List.all_append, w_t2, ← List.take_append_drop 24 ((words1.drop 24).drop 24), List.all_append, w_t3, w_t4]
  rfl
set_option maxRecDepth 65536 in
theorem w_rest : rest_1_c.before args0 about1 = true := by decide +kernel
set_option maxRecDepth 65536 in
theorem w_case : (Jvm.Cond.and given_1 narrow_1).before args0 about1 = true := by decide +kernel
set_option maxRecDepth 65536 in
theorem w_consts : constsHeld consts_1 about1 := Jvm.Lit.constsHeldB_iff.mp (by decide +kernel)
theorem w_applies : (headSpec (Jvm.Cond.code x code maxLocals ret :: tables_1) room_1).applies x e0.platform about1 = true :=
  (Spec.applies_iff w_frames).mpr ⟨w_running, w_runnable, w_alone, w_named, w_hears, w_ripe, w_room, w_tables⟩
theorem atStart : AtStart classFile x code maxLocals ret World_1 tables_1 room_1 Calls_1 rest_1 Pre_1 launch0 p0 e0 about1 theMethod args0 below0 :=
  ⟨lists_1, trivial, launch0.admits_env _ _ _, launch0.least_env, fairChoices_fair.cas, fairChoices_fair.clock, w_frames, w_args, w_heap, w_applies, ⟨w_consts, trivial⟩, w_rest, w_case⟩
end start1
theorem witness_1 : WitnessClaimed_1 := ⟨start1.p0, start1.e0, start1.about1, start1.theMethod, start1.args0, start1.below0, start1.atStart⟩
end Jvm.Pilot.@@N@@
