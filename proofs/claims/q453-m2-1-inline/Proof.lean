import JvmDerived
import JvmDerived.Pilot.@@N@@Statement
import JvmDerived.Pilot.@@N@@Code
set_option linter.unusedVariables false
set_option linter.unusedSimpArgs false
namespace Jvm.RoadKit
open Sem ClassFile Op Lib Jvm.Stand Jvm.Free Jvm.LawKit
section Own
variable {p : Program} {l : Launch} {e : Env} {R : Room} {s : State} {m : MethodId} {args : Array Value} {below : List Frame} {meth : Method} {c : Code} {T A B : State} {locs : List Loc} {cells slots K N : Nat} {P : State → Outcome → Prop} {Q : Option Value → Heap → List Loc → Prop}
/-- the run that stands at A comes to an end of which P holds -/
def Go (p : Program) (e : Env) (below : List Frame) (P : State → Outcome → Prop) (A : State) : Prop := ∃ s₂ o, Steps p.tables e below A s₂ ∧ s₂.status = .running ∧ Ended s₂ below o ∧ P s₂ o
def PostW (s : State) (K N : Nat) (Q : Option Value → Heap → List Loc → Prop) : State → Outcome → Prop := fun s₂ o => ∃ v L, o = .returned v ∧ Q v s₂.heap L ∧ FrameEnd s o s₂ L K N
theorem Go.by (h : ∀ t, Steps p.tables e below B t → Steps p.tables e below A t) (k : Go p e below P B) : Go p e below P A := by
  obtain ⟨s₂, o, h1, h2⟩ := k
  exact ⟨s₂, o, h _ h1, h2⟩
abbrev vi (n : Int32) : Slot := .val (.int n)
abbrev vr (a : Addr) : Slot := .val (.ref a)
abbrev St (T : State) (m : MethodId) (pc : Nat) (L : Array Slot) (S : List Value) : State := T.setTop (mkF m pc L S)
theorem gy (B : State) (h : ∀ t, Steps p.tables e below B t → Steps p.tables e below A t) (k : Go p e below P B) : Go p e below P A := Go.by h k
theorem Go.to (h : Steps p.tables e below A B) (k : Go p e below P B) : Go p e below P A := Go.by (fun _ q => h.trans q) k
theorem Go.cast {g g' : JFrame} (q : g = g') (k : Go p e below P (T.setTop g')) : Go p e below P (T.setTop g) := q ▸ k
theorem Go.ret (X : Stand p l e R s m args below meth c T locs cells slots) (hx : p.tables.exec = Jvm.exec) (hlk : meth.locks = false) {pc : Nat} {Ls : Array Slot} {w : Value} {t : FieldType} {i : Instr} {rest : List Value} (hret : meth.sig.returnType = some t) (hn : narrow t w = w)
    (hi : (i = .ireturn ∧ (t = .int ∨ t = .boolean ∨ t = .byte ∨ t = .char ∨ t = .short) ∧ ∃ z, w = .int z) ∨ (i = .lreturn ∧ t = .long ∧ ∃ z, w = .long z) ∨ (i = .dreturn ∧ t = .double ∧ ∃ z, w = .double z) ∨ (i = .freturn ∧ t = .float ∧ ∃ z, w = .float z) ∨ (i = .areturn ∧ t.isReference = true ∧ w.isRef = true))
    (hd : decode c.code pc = .ok (i, 1)) (hc : cells ≤ K) (hs : slots ≤ N) (hQ : Q (some w) T.heap locs) : Go p e below (PostW s K N Q) (T.setTop (mkF m pc Ls (w :: rest))) := by
  obtain ⟨fs, hr, hrun, hended, hW, hsame⟩ := X.leave (v := some w) (fun h => by rw [hret] at h; cases h) hlk
  exact ⟨_, _, retOut X hx hret hn hi hd hr, hrun, hended, _, _, rfl, hQ, ⟨_, rfl⟩, hW, hsame.mono hc hs⟩
theorem Go.retZ (X : Stand p l e R s m args below meth c T locs cells slots) (hx : p.tables.exec = Jvm.exec) (hlk : meth.locks = false) {pc : Nat} {Ls : Array Slot} {z : Int32} {t : FieldType} {rest : List Value} (hret : meth.sig.returnType = some t) (ht : t = .boolean ∨ t = .byte ∨ t = .char ∨ t = .short)
    (hd : decode c.code pc = .ok (.ireturn, 1)) (hc : cells ≤ K) (hs : slots ≤ N) (hQ : Q (some (.int (nar t z))) T.heap locs) : Go p e below (PostW s K N Q) (T.setTop (mkF m pc Ls (.int z :: rest))) := by
  obtain ⟨fs, hr, hrun, hended, hW, hsame⟩ := X.leave (v := some (.int (nar t z))) (fun h => by rw [hret] at h; cases h) hlk
  exact ⟨_, _, retN X hx hret ht hd hr, hrun, hended, _, _, rfl, hQ, ⟨_, rfl⟩, hW, hsame.mono hc hs⟩
theorem own_cat {w : Value} (h : w.isRef = true) : w.category = 1 := by cases w <;> first | rfl | (simp [Value.isRef] at h)
theorem own_narR {w : Value} {t : FieldType} (h : w.isRef = true) (ht : t.isReference = true) : narrow t w = w := by cases t <;> first | (cases ht; done) | (cases w <;> first | rfl | (simp [Value.isRef] at h))
theorem own_fitR {w : Value} {t : FieldType} (h : w.isRef = true) (ht : t.isReference = true) : fits t w = true := by cases t <;> first | (cases ht; done) | (cases w <;> first | rfl | (simp [Value.isRef] at h))
theorem own_a {P : Value → Prop} {x : Value} {r : List Value} (h : P x) (k : ∀ v ∈ r, P v) : ∀ v ∈ x :: r, P v := List.forall_mem_cons.2 ⟨h, k⟩
theorem own_push (acc : Array Slot) {v : Value} (h : v.category = 1) : (if v.category = 2 then (acc.push (.val v)).push .second else acc.push (.val v)) = acc.push (.val v) := by rw [if_neg]; rw [h]; decide
theorem own_fold {xs : List Value} (h : ∀ v ∈ xs, v.category = 1) : ∀ acc : Array Slot, xs.foldl (fun acc v => if v.category = 2 then (acc.push (.val v)).push .second else acc.push (.val v)) acc = acc ++ (xs.map Slot.val).toArray := by
  induction xs with
  | nil => intro acc; simp
  | cons x r ih =>
    intro acc
    rw [List.foldl_cons, own_push acc (h x (List.mem_cons_self ..)), ih (fun v q => h v (List.mem_cons_of_mem _ q))]
    simp
theorem own_ent (m : MethodId) {xs : List Value} {n : Nat} {k : Nat} (h : ∀ v ∈ xs, v.category = 1) (hn : n = xs.length + k) : entryFrame m xs.toArray n = mkF m 0 ((xs.map Slot.val) ++ List.replicate k Slot.unset).toArray [] := by
  have e : xs.toArray.foldl (init := #[]) (fun acc v => if v.category = 2 then (acc.push (.val v)).push .second else acc.push (.val v)) = (xs.map Slot.val).toArray := by
    rw [List.foldl_toArray, own_fold h]; simp
  have z : n - (xs.map Slot.val).toArray.size = k := by simp; omega
  have q : argsToLocals xs.toArray n = ((xs.map Slot.val) ++ List.replicate k Slot.unset).toArray := by
    show (xs.toArray.foldl _ #[]) ++ Array.replicate (n - (xs.toArray.foldl _ #[]).size) Slot.unset = _
    rw [e, z]; simp
  show ({ method := m, pc := 0, locals := argsToLocals xs.toArray n, stack := [], locked := none } : JFrame) = _
  rw [q]
theorem Go.retV (X : Stand p l e R s m args below meth c T locs cells slots) (hx : p.tables.exec = Jvm.exec) (hlk : meth.locks = false) {pc : Nat} {Ls : Array Slot} (hret : meth.sig.returnType = none)
    (hd : decode c.code pc = .ok (.return_, 1)) (hc : cells ≤ K) (hs : slots ≤ N) (hQ : Q none T.heap locs) : Go p e below (PostW s K N Q) (T.setTop (mkF m pc Ls [])) := by
  obtain ⟨fs, hr, hrun, hended, hW, hsame⟩ := X.leave (v := none) (fun _ => rfl) hlk
  exact ⟨_, _, X.returnOut hx hret hd hr, hrun, hended, _, _, rfl, hQ, ⟨_, rfl⟩, hW, hsame.mono hc hs⟩
theorem wd {L : List Cond} {a0 : Array Value} {Z : State} (hw : ∀ d ∈ L, d.before a0 Z = true) (i : Nat) {d : Cond} (h : L[i]? = some d) : d.before a0 Z = true := hw d (List.mem_of_getElem? h)
/-- a callee's contract, as the walks here say it -/
abbrev Met (l : Launch) (Z : State) (y : MethodName) (bytes : ByteArray) (maxL : Nat) (ret : Option FieldType) (ws : List Cond) (rm : Room) (as' : Array Value) (h0 : Heap) (Q : Option Value → Heap → List Loc → Prop) : Prop :=
  MetFree l y (head1 (Cond.code y bytes maxL ret :: ws) rm) (fun a U => a = as' ∧ Z.Warmed39 U.vm ∧ U.heap = h0) (fun _ _ _ _ _ => True) (fun _ U o U' => ∃ v L, o = .returned v ∧ Q v U'.heap L ∧ FrameEnd U o U' L rm.cells rm.slots)
theorem Met.enter {Z : State} {y : MethodName} {bytes : ByteArray} {maxL : Nat} {ret : Option FieldType} {ws : List Cond} {rm : Room} {as' : Array Value} {h0 : Heap} {f0 : MethodId → JFrame} (hpl : plainFor y = true) (hf0 : ∀ m, entryFrame m as' maxL = f0 m)
    (body : ∀ (p : Program) (e : Env) (s : State) (m : MethodId) (below : List Frame) (meth : Method) (c : Code) (s₁ : State), p.tables.exec = Jvm.exec → c.code = bytes → c.maxLocals = maxL → s.vm.findClass y.cls = some m.cls → meth.name = y.name → meth.sig.returnType = ret → meth.locks = false → Z.Warmed39 s.vm → Stand p l e rm s m as' below meth c s₁ [] 0 0 → s₁.heap = h0 → Go p e below (PostW s rm.cells rm.slots Q) (s₁.setTop (f0 m))) : Met l Z y bytes maxL ret ws rm as' h0 Q := by
  refine MetFree.of_bodySF hpl hisR ?_
  intro p e s m args below meth c s₁ Bd hml0 hP hK
  obtain ⟨rfl, hZ, hh⟩ := hP
  have q := body p e s m below meth c s₁ Bd.exec Bd.bytes hml0 (findClass_of_methodNamed Bd.named) (name_of_methodNamed Bd.named Bd.method).1 Bd.returns Bd.notSynchronized hZ (Stand.of_body Bd) (by rw [← hh, Bd.state]; rfl)
  rw [← hf0] at q
  exact q
end Own
end Jvm.RoadKit
namespace Jvm.RoadKit
open Sem ClassFile Op Lib Bundle Jvm.Stand Jvm.Free Jvm.LawKit Jvm.Free.SB Jvm.Free.SBG
section OwnS
variable {p : Program} {l : Launch} {e : Env} {R : Room} {s : State} {m : MethodId} {args : Array Value} {below : List Frame} {meth : Method} {c : Code} {T A B : State} {locs : List Loc} {cells slots K N : Nat} {Q : Option Value → Heap → List Loc → Prop} {Z : State} {a0 : Array Value} {EL : List (String × Nat)} {vm0 : Vm} {k0 : Nat}
def PostS (Z : State) (EL : List (String × Nat)) (s : State) (K N : Nat) (Q : Option Value → Heap → List Loc → Prop) : State → Outcome → Prop := fun s₂ o => ∃ v L, o = .returned v ∧ Q v s₂.heap L ∧ CHr Z EL s.vm s.heap s₂.vm s₂.heap ∧ ReturnedEndW s o s₂ L K N
theorem own_monoW {t : State} {o : Outcome} {L : List Loc} {k n : Nat} (h : ReturnedEndW s o t L k n) (hk : k ≤ K) (hn : n ≤ N) : ReturnedEndW s o t L K N := ⟨h.1, h.2.1, h.2.2.1, h.2.2.2.mono hk hn⟩
theorem Go.retS (X : Stand p l e R (s.setVm vm0) m args below meth c T locs cells slots) (hx : p.tables.exec = Jvm.exec) (hlk : meth.locks = false) (hS : s.Since vm0 k0) (hk : k0 ≤ T.heap.size) (hZ : Z.Warmed39 vm0) (hEL : EW Z a0 EL) (C : CHr Z EL s.vm s.heap vm0 T.heap) {pc : Nat} {Ls : Array Slot} {w : Value} {t : FieldType} {i : Instr} {rest : List Value} (hret : meth.sig.returnType = some t) (hn : narrow t w = w)
    (hi : (i = .ireturn ∧ (t = .int ∨ t = .boolean ∨ t = .byte ∨ t = .char ∨ t = .short) ∧ ∃ z, w = .int z) ∨ (i = .lreturn ∧ t = .long ∧ ∃ z, w = .long z) ∨ (i = .dreturn ∧ t = .double ∧ ∃ z, w = .double z) ∨ (i = .freturn ∧ t = .float ∧ ∃ z, w = .float z) ∨ (i = .areturn ∧ t.isReference = true ∧ w.isRef = true))
    (hd : decode c.code pc = .ok (i, 1)) (hc : cells ≤ K) (hs : slots ≤ N) (hQ : Q (some w) T.heap locs) : Go p e below (PostS Z EL s K N Q) (T.setTop (mkF m pc Ls (w :: rest))) := by
  obtain ⟨fs, hr, hrun, hended, hW⟩ := X.leaveW hS hk (v := some w) (fun h => by rw [hret] at h; cases h) hlk
  exact ⟨_, _, retOut X hx hret hn hi hd hr, hrun, hended, _, _, rfl, hQ, (show CHr Z EL s.vm s.heap T.vm T.heap from C.trans (CHv.at X hZ hEL C.1)), own_monoW hW hc hs⟩
theorem Go.retZS (X : Stand p l e R (s.setVm vm0) m args below meth c T locs cells slots) (hx : p.tables.exec = Jvm.exec) (hlk : meth.locks = false) (hS : s.Since vm0 k0) (hk : k0 ≤ T.heap.size) (hZ : Z.Warmed39 vm0) (hEL : EW Z a0 EL) (C : CHr Z EL s.vm s.heap vm0 T.heap) {pc : Nat} {Ls : Array Slot} {z : Int32} {t : FieldType} {rest : List Value} (hret : meth.sig.returnType = some t) (ht : t = .boolean ∨ t = .byte ∨ t = .char ∨ t = .short)
    (hd : decode c.code pc = .ok (.ireturn, 1)) (hc : cells ≤ K) (hs : slots ≤ N) (hQ : Q (some (.int (nar t z))) T.heap locs) : Go p e below (PostS Z EL s K N Q) (T.setTop (mkF m pc Ls (.int z :: rest))) := by
  obtain ⟨fs, hr, hrun, hended, hW⟩ := X.leaveW hS hk (v := some (.int (nar t z))) (fun h => by rw [hret] at h; cases h) hlk
  exact ⟨_, _, retN X hx hret ht hd hr, hrun, hended, _, _, rfl, hQ, (show CHr Z EL s.vm s.heap T.vm T.heap from C.trans (CHv.at X hZ hEL C.1)), own_monoW hW hc hs⟩
theorem Go.retVS (X : Stand p l e R (s.setVm vm0) m args below meth c T locs cells slots) (hx : p.tables.exec = Jvm.exec) (hlk : meth.locks = false) (hS : s.Since vm0 k0) (hk : k0 ≤ T.heap.size) (hZ : Z.Warmed39 vm0) (hEL : EW Z a0 EL) (C : CHr Z EL s.vm s.heap vm0 T.heap) {pc : Nat} {Ls : Array Slot} (hret : meth.sig.returnType = none)
    (hd : decode c.code pc = .ok (.return_, 1)) (hc : cells ≤ K) (hs : slots ≤ N) (hQ : Q none T.heap locs) : Go p e below (PostS Z EL s K N Q) (T.setTop (mkF m pc Ls [])) := by
  obtain ⟨fs, hr, hrun, hended, hW⟩ := X.leaveW hS hk (v := none) (fun _ => rfl) hlk
  exact ⟨_, _, X.returnOut hx hret hd hr, hrun, hended, _, _, rfl, hQ, (show CHr Z EL s.vm s.heap T.vm T.heap from C.trans (CHv.at X hZ hEL C.1)), own_monoW hW hc hs⟩
abbrev MetS (l : Launch) (Z : State) (EL : List (String × Nat)) (y : MethodName) (bytes : ByteArray) (maxL : Nat) (ret : Option FieldType) (ws : List Cond) (rm : Room) (as' : Array Value) (h0 : Heap) (Q : Option Value → Heap → List Loc → Prop) : Prop :=
  MetFree l y (head1 (Cond.code y bytes maxL ret :: ws) rm) (fun a U => a = as' ∧ Z.Warmed39 U.vm ∧ U.heap = h0 ∧ CHv Z EL U.vm h0) (fun _ _ _ _ _ => True) (fun _ U o U' => ∃ v L, o = .returned v ∧ Q v U'.heap L ∧ CHr Z EL U.vm U.heap U'.vm U'.heap ∧ ReturnedEndW U o U' L rm.cells rm.slots)
theorem MetS.enter {y : MethodName} {bytes : ByteArray} {maxL : Nat} {ret : Option FieldType} {ws : List Cond} {rm : Room} {as' : Array Value} {h0 : Heap} {f0 : MethodId → JFrame} (hpl : plainFor y = true) (hf0 : ∀ m, entryFrame m as' maxL = f0 m)
    (body : ∀ (p : Program) (e : Env) (s : State) (m : MethodId) (below : List Frame) (meth : Method) (c : Code) (s₁ : State), p.tables.exec = Jvm.exec → c.code = bytes → c.maxLocals = maxL → s.vm.findClass y.cls = some m.cls → meth.name = y.name → meth.sig.returnType = ret → meth.locks = false → Z.Warmed39 s.vm → Stand p l e rm (s.setVm s.vm) m as' below meth c s₁ [] 0 0 → s₁.heap = h0 → s.Since s.vm h0.size → CHr Z EL s.vm s.heap s.vm h0 → Go p e below (PostS Z EL s rm.cells rm.slots Q) (s₁.setTop (f0 m))) : MetS l Z EL y bytes maxL ret ws rm as' h0 Q := by
  refine MetFree.of_bodySF hpl hisR ?_
  intro p e s m args below meth c s₁ Bd hml0 hP hK
  obtain ⟨rfl, hZ, hh, hC⟩ := hP
  have q := body p e s m below meth c s₁ Bd.exec Bd.bytes hml0 (findClass_of_methodNamed Bd.named) (name_of_methodNamed Bd.named Bd.method).1 Bd.returns Bd.notSynchronized hZ (Stand.of_body Bd) (by rw [← hh, Bd.state]; rfl) ((State.WarmedH.refl s).since _) (by rw [hh]; exact CHr.refl hC)
  rw [← hf0] at q
  exact q
/-- an object whose 'value' is null is no booked String, nor a booked String's array -/
theorem own_safe0 {h : Heap} {x : Addr} {vm : Vm} (hal : Z.vm.Alike vm) (E : Exa Z h x "java/lang/String") (F : Fld Z h x "java/lang/String" "value" "[B" .null) : Safe Z EL vm h x := fun B => by
  obtain ⟨p, -, u, a, -, q, -, S, rfl | rfl⟩ := B
  · obtain ⟨cS, ⟨⟨s1, s2, s3, ⟨cv, kv, iv, s4, s4'⟩, -, s6, -, s8, -⟩, -⟩, -⟩ := S
    obtain ⟨cell, cf, k, i, f, h1, h2, -, -, -, -, h7⟩ := F
    obtain ⟨kv', z4⟩ := ff_back hal s4
    have e1 := h2.symm.trans z4
    simp only [Option.some.injEq, Prod.mk.injEq] at e1
    have e2 : cell = q.sC := Option.some.inj (h1.symm.trans s1)
    rw [e2, e1.2.2.2, s8] at h7
    cases h7
  · obtain ⟨cS, ⟨⟨-, -, -, -, -, -, -, -, -, s10, -⟩, -⟩, -, hB, -⟩ := S
    obtain ⟨cell, k, h1, h2, -⟩ := E
    have e2 : cell = q.SA := Option.some.inj (h1.symm.trans s10)
    have hB' : vm.findClass "[B" = some q.SA.cls := hB
    rw [hal.findClass] at hB'
    rw [e2] at h2
    obtain ⟨k1, q1, q2⟩ := Vm.findClass_spec hB'
    obtain ⟨k2, q3, q4⟩ := Vm.findClass_spec h2
    cases q1.symm.trans q3
    have := q2.symm.trans q4
    revert this
    decide
end OwnS
end Jvm.RoadKit
/- laws to paste: Road.eqW (cut by pick.py; bodies as the Statement names them) -/
namespace Jvm.Pilot.@@N@@
namespace StrChars
open Jvm Sem ClassFile Op Lib Jvm.Stand Jvm.Free.XT Jvm.Free.ALB Jvm.Free.JM Jvm.Free
open Jvm.Lib.Cold (StaticIs)
/-- the byte that i2b leaves of a char -/
def lo8 (x : Int32) : Int32 := x.toInt8.toInt32
theorem fits_lo8 (y : Int32) : fits .byte (.int (lo8 y)) = true := by
  have h1 := y.toInt8.le_toInt
  have h2 := y.toInt8.toInt_lt
  simp only [lo8, fits, Bool.and_eq_true, decide_eq_true_eq, Int32.le_iff_toInt_le, Int8.toInt_toInt32, show (-128 : Int32).toInt = -128 from by decide, show (127 : Int32).toInt = 127 from by decide]
  omega
def U16 : String := "java/lang/StringUTF16"
namespace Cmp5
def yN : MethodName := ⟨"java/lang/StringUTF16", "compress", "([CI[BII)I"⟩
abbrev yB : ByteArray := jdk_52_method_21_code
end Cmp5
namespace Cmp3
def yN : MethodName := ⟨"java/lang/StringUTF16", "compress", "([CII)[B"⟩
abbrev yB : ByteArray := jdk_52_method_16_code
end Cmp3
namespace CodL
def yN : MethodName := ⟨"java/lang/StringUTF16", "coderFromArrayLen", "([BI)B"⟩
abbrev yB : ByteArray := jdk_52_method_15_code
end CodL
namespace New4
def yN : MethodName := ⟨"java/lang/String", "<init>", "([CIILjava/lang/Void;)V"⟩
abbrev yB : ByteArray := jdk_42_method_149_code
end New4
namespace New1
def yN : MethodName := ⟨"java/lang/String", "<init>", "([C)V"⟩
abbrev yB : ByteArray := jdk_42_method_3_code
end New1
/-- the byte, read back as charAt reads it, is the char -/
theorem lo8_mask {x : Int32} (h0 : ¬ x < 0) (h1 : ¬ 255 < x) : lo8 x &&& 255 = x := by
  have t : ∀ k : Fin 256, lo8 (Int32.ofNat k.val) &&& 255 = Int32.ofNat k.val := by decide +kernel
  rw [Int32.lt_iff_toInt_lt] at h0 h1
  have e0 : (0 : Int32).toInt = 0 := rfl
  have e1 : (255 : Int32).toInt = 255 := rfl
  obtain ⟨k, hk⟩ : ∃ k : Nat, x.toInt = k := ⟨x.toInt.toNat, by omega⟩
  have hx : x = Int32.ofNat k := Int32.toInt_inj.mp (by rw [hk, Int32.toInt_ofNat_small (by omega)])
  rw [hx]
  exact t ⟨k, by omega⟩
end StrChars
namespace StrChars.Road
open Jvm Sem ClassFile Op Lib Jvm.Stand Jvm.Free Jvm.Free.XT
open Jvm.Lib.Cold (StaticIs)
abbrev ST : String := "java/lang/String"
/-- every table word that New1's law asks, flat -/
abbrev words : List Jvm.Cond := [.code New1.yN New1.yB 2 none, .initialized ST, .methodLink ST 27 New4.yN, .instanceMethod New4.yN,
  .code New4.yN New4.yB 6 none, .fieldLink ST 38 ST "COMPACT_STRINGS" "Z", .laysFinal ST ST "value" "[B", .fieldLink ST 9 ST "value" "[B", .laysFinal ST ST "coder" "B", .fieldLink ST 15 ST "coder" "B",
  .methodLink ST 1 Lib.objectInit, .instanceMethod Lib.objectInit, .code Lib.objectInit ⟨#[0xb1]⟩ 1 none, .methodLink ST 177 Cmp3.yN, .static Cmp3.yN, .methodLink ST 47 CodL.yN, .static CodL.yN,
  .code Cmp3.yN Cmp3.yB 6 (some (.array .byte)), .initialized U16, .arrayClass .byte, .methodLink U16 115 Cmp5.yN, .static Cmp5.yN, .code Cmp5.yN Cmp5.yB 7 (some .int), .code CodL.yN CodL.yB 2 (some .byte)]
end StrChars.Road
namespace StrChars
open Jvm Sem ClassFile Op Lib Jvm.Stand Jvm.Free.XT Jvm.Free.ALB Jvm.Free.JM Jvm.Free
open Jvm.Lib.Cold (StaticIs)
def hi8 (x : Int32) : Int32 := lo8 (x >>> ((8 : Int32) &&& 31))
/-- what StringUTF16.getChar makes of two bytes -/
def pairCh (u v : Int32) : Int32 := (((u &&& 255) <<< ((0 : Int32) &&& 31)) ||| ((v &&& 255) <<< ((8 : Int32) &&& 31))).toUInt32.toUInt16.toUInt32.toInt32
theorem lo8_and (x : Int32) : (lo8 x &&& 255).toBitVec.toNat = x.toBitVec.toNat % 256 := by
  have h : (lo8 x).toBitVec = (x.toBitVec.signExtend 8).signExtend 32 := by rw [lo8, Int8.toBitVec_toInt32, Int32.toBitVec_toInt8]
  rw [Int32.toBitVec_and, BitVec.toNat_and, h]
  have e : ((x.toBitVec.signExtend 8).signExtend 32).toNat % 256 = x.toBitVec.toNat % 256 := by
    rw [BitVec.toNat_signExtend]
    have hlt := x.toBitVec.isLt
    simp only [BitVec.toNat_setWidth, BitVec.toNat_signExtend]
    split <;> split <;> omega
  rw [← e]
  exact Nat.and_two_pow_sub_one_eq_mod _ 8
theorem pair_says {c : Int32} (h0 : ¬ c < 0) (h1 : ¬ 65535 < c) : pairCh (lo8 c) (hi8 c) = c := by
  rw [Int32.lt_iff_toInt_lt] at h0 h1
  have e0 : (0 : Int32).toInt = 0 := rfl
  have e1 : (65535 : Int32).toInt = 65535 := rfl
  have hc : c.toInt = c.toBitVec.toNat := by
    have := c.toBitVec.isLt
    have e : c.toInt = c.toBitVec.toInt := rfl
    rw [e] at h0 h1
    rw [e]
    rw [BitVec.toInt_eq_toNat_cond] at h0 h1 ⊢
    split at h0 <;> split <;> omega
  have hn : c.toBitVec.toNat < 65536 := by omega
  have a1 := lo8_and c
  have a2 : (hi8 c &&& 255).toBitVec.toNat = c.toBitVec.toNat / 256 := by
    rw [hi8, lo8_and]
    have e : ((8 : Int32) &&& 31) = 8 := by decide
    rw [e, Int32.toBitVec_shiftRight]
    have e2 : ((8 : Int32).toBitVec.smod 32) = 8#32 := by decide
    rw [e2, BitVec.sshiftRight_eq', BitVec.toNat_sshiftRight_of_msb_false (by rw [BitVec.msb_eq_false_iff_two_mul_lt]; omega)]
    show c.toBitVec.toNat >>> 8 % 256 = _
    rw [Nat.shiftRight_eq_div_pow]
    omega
  unfold pairCh
  apply Int32.toBitVec_inj.mp
  apply BitVec.eq_of_toNat_eq
  have f0 : ((0 : Int32) &&& 31) = 0 := by decide
  have f8 : ((8 : Int32) &&& 31) = 8 := by decide
  rw [f0, f8]
  have g : (((lo8 c &&& 255) <<< (0 : Int32)) ||| ((hi8 c &&& 255) <<< (8 : Int32))).toBitVec.toNat = c.toBitVec.toNat := by
    rw [Int32.toBitVec_or, Int32.toBitVec_shiftLeft, Int32.toBitVec_shiftLeft]
    have s0 : ((0 : Int32).toBitVec.smod 32) = 0#32 := by decide
    have s8 : ((8 : Int32).toBitVec.smod 32) = 8#32 := by decide
    rw [s0, s8, BitVec.toNat_or]
    simp only [BitVec.shiftLeft_eq', BitVec.toNat_shiftLeft, a1, a2]
    show (c.toBitVec.toNat % 256) <<< 0 % 2 ^ 32 ||| (c.toBitVec.toNat / 256) <<< 8 % 2 ^ 32 = _
    rw [Nat.shiftLeft_zero, Nat.mod_eq_of_lt (show c.toBitVec.toNat % 256 < 2 ^ 32 by omega), Nat.mod_eq_of_lt (show (c.toBitVec.toNat / 256) <<< 8 < 2 ^ 32 by rw [Nat.shiftLeft_eq]; omega), Nat.or_comm, ← Nat.shiftLeft_add_eq_or_of_lt (by omega), Nat.shiftLeft_eq]
    omega
  show BitVec.toNat (((((lo8 c &&& 255) <<< (0 : Int32)) ||| ((hi8 c &&& 255) <<< (8 : Int32))).toBitVec.setWidth 16).setWidth 32) = _
  rw [BitVec.toNat_setWidth, BitVec.toNat_setWidth, g]
  omega
end StrChars
namespace StrChars
open Jvm Sem ClassFile Op Lib Jvm.Stand Jvm.Free.XT Jvm.Free.ALB Jvm.Free.JM Jvm.Free
open Jvm.Lib.Cold (StaticIs)
/-- the array's cell V codes the n chars f 0 .. f (n - 1) by the coder cd, as the JDK does: coder 1 just where some char is above 255 -/
def Cod (cd : Int32) (n : Nat) (f : Nat → Int32) (V : Cell) : Prop := (cd = 0 ∧ V.slots.size = n ∧ ∀ j, j < n → V.slots[j]? = some (.int (lo8 (f j))) ∧ ¬ 255 < f j) ∨ (cd = 1 ∧ V.slots.size = 2 * n ∧ (∀ j, j < n → V.slots[2 * j]? = some (.int (lo8 (f j))) ∧ V.slots[2 * j + 1]? = some (.int (hi8 (f j)))) ∧ ∃ j, j < n ∧ 255 < f j)
/-- **x is a String of the n chars f 0 .. f (n - 1)**, Latin-1 or UTF-16; its array at t has the cell V -/
def Txt (x t : Addr) (V : Cell) (cd : Int32) (n : Nat) (f : Nat → Int32) (U : State) : Prop := Exact "java/lang/String" x U ∧ Has x "java/lang/String" "value" "[B" (.ref t) U ∧ Has x "java/lang/String" "coder" "B" (.int cd) U ∧ XT.Arr .byte t V U ∧ Cod cd n f V ∧ ∀ j, j < n → ¬ f j < 0 ∧ ¬ 65535 < f j
theorem Txt.mv {x t : Addr} {V : Cell} {cd : Int32} {n : Nat} {f : Nat → Int32} {U U' : State} (h : Txt x t V cd n f U) (hal : U.vm.Alike U'.vm) (hh : U'.heap = U.heap) : Txt x t V cd n f U' := ⟨h.1.mv hal hh, h.2.1.mv hal hh, h.2.2.1.mv hal hh, h.2.2.2.1.mv hal hh, h.2.2.2.2⟩
end StrChars
namespace StrChars.Road
open Jvm Sem ClassFile Op Lib Jvm.Stand Jvm.Free Jvm.Free.XT
open Jvm.Lib.Cold (StaticIs)
theorem consq {a : Array Value} {s : State} {c : Jvm.Cond} {L : List Jvm.Cond} (h0 : c.before a s = true) (h : ∀ w ∈ L, w.before a s = true) : ∀ w ∈ c :: L, w.before a s = true := fun w hw => (List.mem_cons.mp hw).elim (fun e => e ▸ h0) (h w)
/-- the bytes of the chars cs, low before high -/
def wideBytes : List Int32 → List Value
  | [] => []
  | c :: cs => .int (lo8 c) :: .int (hi8 c) :: wideBytes cs
theorem wide_lo (d : Value) : ∀ (cs : List Int32) (j : Nat), j < cs.length → (wideBytes cs).getD (2 * j) d = .int (lo8 (cs.getD j 0))
  | [], j, h => absurd h (Nat.not_lt_zero j)
  | c :: cs, 0, _ => rfl
  | c :: cs, j + 1, h => by
    have q := wide_lo d cs j (by simpa using h)
    rw [show 2 * (j + 1) = 2 * j + 1 + 1 from by omega]
    simpa [wideBytes] using q
theorem wide_hi (d : Value) : ∀ (cs : List Int32) (j : Nat), j < cs.length → (wideBytes cs).getD (2 * j + 1) d = .int (hi8 (cs.getD j 0))
  | [], j, h => absurd h (Nat.not_lt_zero j)
  | c :: cs, 0, _ => rfl
  | c :: cs, j + 1, h => by
    have q := wide_hi d cs j (by simpa using h)
    rw [show 2 * (j + 1) + 1 = 2 * j + 1 + 1 + 1 from by omega]
    simpa [wideBytes] using q
theorem low_at (d : Value) (cs : List Int32) (j : Nat) (h : j < cs.length) : (cs.map fun c => Value.int (lo8 c)).getD j d = .int (lo8 (cs.getD j 0)) := by
  simp [List.getD_eq_getElem?_getD, h]
/-- an array of N2 bytes vs codes the chars cs by the coder cd -/
def CodA (cs : List Int32) (cd N2 : Int32) (vs : List Value) : Prop := (cd = 0 ∧ N2 = Int32.ofNat cs.length ∧ vs = (cs.map fun c => Value.int (lo8 c)) ∧ ∀ c ∈ cs, ¬ 255 < c) ∨ (cd = 1 ∧ N2 = Int32.ofNat (2 * cs.length) ∧ vs = wideBytes cs ∧ ∃ c ∈ cs, 255 < c)
theorem CodA.cod {cs : List Int32} {cd N2 : Int32} {vs : List Value} {V : Cell} (h : CodA cs cd N2 vs) (hn : 2 * cs.length < 2 ^ 31) (hs : V.slots.size = N2.toNatClampNeg) (hv : RoadKit.Has V vs (.int 0)) : Cod cd cs.length (fun j => cs.getD j 0) V := by
  rcases h with ⟨rfl, rfl, rfl, h⟩ | ⟨rfl, rfl, rfl, c, hc, hw⟩
  · rw [n32 (by omega)] at hs
    exact Or.inl ⟨rfl, hs, fun j hj => ⟨by rw [hv j (by omega), low_at _ _ _ hj], by
      have e : cs.getD j 0 = cs[j] := by simp [List.getD_eq_getElem?_getD, hj]
      show ¬ 255 < cs.getD j 0
      rw [e]; exact h _ (List.getElem_mem _)⟩⟩
  · rw [n32 (by omega)] at hs
    obtain ⟨j, hj, rfl⟩ := List.getElem_of_mem hc
    exact Or.inr ⟨rfl, hs, fun j hj => ⟨by rw [hv _ (by omega), wide_lo _ _ _ hj], by rw [hv _ (by omega), wide_hi _ _ _ hj]⟩, j, hj, by
      have e : cs.getD j 0 = cs[j] := by simp [List.getD_eq_getElem?_getD, hj]
      show 255 < cs.getD j 0
      rw [e]; exact hw⟩
/-- an object of exactly java/lang/String, its two fields found: as the laws ask it -/
theorem strObj {Z U : State} {a0 : Array Value} {kI : Nat} (wi : (Jvm.Cond.instantiable ST kI).before a0 Z = true) (al : Z.vm.Alike U.vm) {x : Addr} {v0 c0 : Value} (E : RoadKit.Exa Z U.heap x ST) (V : RoadKit.Fld Z U.heap x ST "value" "[B" v0) (C : RoadKit.Fld Z U.heap x ST "coder" "B" c0) :
    ∃ (D : Cell) (fV fC : Field), Blank ST x D U ∧ Found ST "value" "[B" fV U ∧ Found ST "coder" "B" fC U ∧ D.slots[fV.slot]? = some v0 ∧ D.slots[fC.slot]? = some c0 ∧ RoadKit.slotOf Z ST "value" "[B" = fV.slot ∧ RoadKit.slotOf Z ST "coder" "B" = fC.slot := by
  obtain ⟨D, cfV, kV, iV, fV, hD, gV, stV, knV, obV, asV, slV⟩ := V
  obtain ⟨D', cfC, kC, iC, fC, hD', gC, stC, -, -, asC, slC⟩ := C
  cases hD.symm.trans hD'
  obtain ⟨D2, kD, e1, e2, e3, e4, e5⟩ := E
  cases hD.symm.trans e1
  obtain ⟨c2, k2, i1, i2, i3, -⟩ := Cond.instantiable_spec wi
  cases e2.symm.trans i1
  cases e3.symm.trans i2
  obtain ⟨kU, u1, u2⟩ := al.2.2 _ _ e3
  exact ⟨D, fV, fC, ⟨hD, ⟨knV, fun q hq => by rw [hq] at obV; cases obV⟩, by rw [al.findClass]; exact e2, kU, u1, by rw [u2]; exact i3, by rw [u2]; exact e5 i3⟩, ⟨SBG.found_only al ⟨cfV, kV, iV, gV⟩, stV⟩, ⟨SBG.found_only al ⟨cfC, kC, iC, gC⟩, stC⟩, slV, slC, by simp [RoadKit.slotOf, gV], by simp [RoadKit.slotOf, gC]⟩
theorem sta_is {Z U : State} (al : Z.vm.Alike U.vm) {C n d : String} {v : Value} (S : RoadKit.Sta Z U.heap C n d v) : StaticIs U C n d v := by
  obtain ⟨cfS, iS, kS, fS, st, cS, t1, t2, t3, t4, t5, t6, t7⟩ := S
  exact StaticIs.there (s := { Z with heap := U.heap }) ⟨cfS, iS, kS, fS, st, cS, t1, t2, t3, t4, t5, (fun q => by rw [q] at t6; cases t6), t7⟩ al rfl
end StrChars.Road
namespace StrChars
open Jvm Sem ClassFile Op Lib Jvm.Stand Jvm.Free.XT Jvm.Free.ALB Jvm.Free.JM Jvm.Free
open Jvm.Lib.Cold (StaticIs)
/-- what place i of a byte[]'s cell holds -/
def yv (A : Cell) (i : Nat) : Int32 := match A.slots[i]? with | some (.int x) => x | _ => 0
theorem yv_get {a : Addr} {A : Cell} {U : State} (h : XT.Arr .byte a A U) (ht : Typed .byte A) {i : Nat} (hi : i < A.slots.size) : A.slots[i]? = some (.int (yv A i)) := by
  have e := Array.getElem?_eq_getElem hi
  have f := ht i _ e
  unfold yv; rw [e]
  generalize A.slots[i] = v at f
  cases v <;> simp [fits] at f ⊢
/-- the two arrays are equal, place for place -/
def EqC (A B : Cell) : Prop := A.slots.size = B.slots.size ∧ ∀ i, i < A.slots.size → yv A i = yv B i
/-- a boolean that says whether p -/
def Says01 (q : Prop) (r : Option Value) (s u : State) : Prop := ∃ v : Int32, r = some (.int v) ∧ u.heap = s.heap ∧ ((v = 1 ∧ q) ∨ (v = 0 ∧ ¬ q))
theorem Says01.mv {q : Prop} : ∀ r (U U' V V' : State), U'.heap = U.heap → V.vm.Alike V'.vm → V'.heap = V.heap → Says01 q r U V → Says01 q r U' V' :=
  fun r U U' V V' h1 _ h2 ⟨v, a, b, c⟩ => ⟨v, a, by rw [h1, h2]; exact b, c⟩
namespace LEq
def yN : MethodName := ⟨"java/lang/StringLatin1", "equals", "([B[B)Z"⟩
abbrev yB : ByteArray := jdk_43_method_13_code
theorem d0 : decode yB 0 = .ok (.aload_n 0, 1) := by decide +kernel
theorem d1 : decode yB 1 = .ok (.arraylength, 1) := by decide +kernel
theorem d2 : decode yB 2 = .ok (.aload_n 1, 1) := by decide +kernel
theorem d3 : decode yB 3 = .ok (.arraylength, 1) := by decide +kernel
theorem d4 : decode yB 4 = .ok (.if_icmp (.ne) 30, 3) := by decide +kernel
theorem d7 : decode yB 7 = .ok (.iconst 0, 1) := by decide +kernel
theorem d8 : decode yB 8 = .ok (.istore_n 2, 1) := by decide +kernel
theorem d9 : decode yB 9 = .ok (.iload_n 2, 1) := by decide +kernel
theorem d10 : decode yB 10 = .ok (.aload_n 0, 1) := by decide +kernel
theorem d11 : decode yB 11 = .ok (.arraylength, 1) := by decide +kernel
theorem d12 : decode yB 12 = .ok (.if_icmp (.ge) 20, 3) := by decide +kernel
theorem d15 : decode yB 15 = .ok (.aload_n 0, 1) := by decide +kernel
theorem d16 : decode yB 16 = .ok (.iload_n 2, 1) := by decide +kernel
theorem d17 : decode yB 17 = .ok (.baload, 1) := by decide +kernel
theorem d18 : decode yB 18 = .ok (.aload_n 1, 1) := by decide +kernel
theorem d19 : decode yB 19 = .ok (.iload_n 2, 1) := by decide +kernel
theorem d20 : decode yB 20 = .ok (.baload, 1) := by decide +kernel
theorem d21 : decode yB 21 = .ok (.if_icmp (.eq) 5, 3) := by decide +kernel
theorem d24 : decode yB 24 = .ok (.iconst 0, 1) := by decide +kernel
theorem d25 : decode yB 25 = .ok (.ireturn, 1) := by decide +kernel
theorem d26 : decode yB 26 = .ok (.iinc 2 1, 3) := by decide +kernel
theorem d29 : decode yB 29 = .ok (.goto (-20), 3) := by decide +kernel
theorem d32 : decode yB 32 = .ok (.iconst 1, 1) := by decide +kernel
theorem d33 : decode yB 33 = .ok (.ireturn, 1) := by decide +kernel
theorem d34 : decode yB 34 = .ok (.iconst 0, 1) := by decide +kernel
theorem d35 : decode yB 35 = .ok (.ireturn, 1) := by decide +kernel
def site : List Cond := []
def tab : Cond := tabOf yN yB 3 (some .boolean) site
def P (a : Addr) (A : Cell) (b : Addr) (B : Cell) (args : Array Value) (s : State) : Prop := args = #[.ref a, .ref b] ∧ XT.Arr .byte a A s ∧ Typed .byte A ∧ XT.Arr .byte b B s ∧ Typed .byte B
/-- whether two byte[] are equal, place for place -/
theorem law (l : Launch) (a : Addr) (A : Cell) (b : Addr) (B : Cell) : Law l yN 2 2 0 0 yB 3 (some .boolean) site (P a A b B) (Says01 (EqC A B)) [] 0 0 := by
  refine Law.of_walk (plainFor_of_name (by decide +kernel)) (by decide +kernel) (by decide +kernel) (by decide) (fun _ _ h => by rw [h.1]; rfl) (fun _ U U' hal hh h => ⟨h.1, h.2.1.mv hal hh, h.2.2.1, h.2.2.2.1.mv hal hh, h.2.2.2.2⟩) (fun r U U' V V' h1 hal h2 h => Says01.mv r U U' V V' h1 hal h2 h) ?_
  intro p e s m args below meth c s₁ X0 hexec hbytes hml hret hlk hnm hown hh0 W hP
  obtain ⟨rfl, hA, tA, hB, tB⟩ := hP
  have a31 := hA.2.2.2
  have b31 := hB.2.2.2
  have hA0 := hA.mv X0.warmed.alike hh0
  have hB0 := hB.mv X0.warmed.alike hh0
  have c1 : Steps p.tables e below (s₁.setTop (entryFrame m #[.ref a, .ref b] 3)) (s₁.setTop (mkF m 0 #[.val (.ref a), .val (.ref b), .unset] [])) := entry rfl
  have c2 : Steps p.tables e below (s₁.setTop (entryFrame m #[.ref a, .ref b] 3)) (s₁.setTop (mkF m 4 #[.val (.ref a), .val (.ref b), .unset] [.int (Int32.ofNat B.slots.size), .int (Int32.ofNat A.slots.size)])) := c1.trans (by
    refine XS.aloadN X0.here hexec rfl (hb hbytes d0) rfl rfl ?_
    refine X0.alen hexec hA0 rfl rfl (hb hbytes d1) ?_
    refine XS.aloadN X0.here hexec rfl (hb hbytes d2) rfl rfl ?_
    refine X0.alen hexec hB0 rfl rfl (hb hbytes d3) ?_
    exact Steps.refl _)
  by_cases hs : A.slots.size = B.slots.size
  · have c3 : Steps p.tables e below (s₁.setTop (entryFrame m #[.ref a, .ref b] 3)) (s₁.setTop (mkF m 9 #[.val (.ref a), .val (.ref b), .val (.int 0)] [])) := c2.trans (by
      refine XS.icmpNo X0.here hexec rfl (hb hbytes d4) rfl (ii_ne_f (by rw [hs])) ?_
      refine iconstV X0.here hexec rfl 0 (hb hbytes d7) (by decide) ?_
      refine XS.istoreN X0.here hexec rfl (hb hbytes d8) rfl rfl ?_
      exact Steps.refl _)
    have loop : ∀ (r i : Nat), i + r = A.slots.size → (∀ j, j < i → yv A j = yv B j) → Steps p.tables e below (s₁.setTop (entryFrame m #[.ref a, .ref b] 3)) (s₁.setTop (mkF m 9 #[.val (.ref a), .val (.ref b), .val (.int (Int32.ofNat i))] [])) → ∃ (pc : Nat) (Ls : Array Slot) (v : Int32), (pc = 25 ∨ pc = 33) ∧ ((v = 1 ∧ EqC A B) ∨ (v = 0 ∧ ¬ EqC A B)) ∧ Steps p.tables e below (s₁.setTop (entryFrame m #[.ref a, .ref b] 3)) (s₁.setTop (mkF m pc Ls [.int v])) := by
      intro r
      induction r with
      | zero =>
        intro i hi he cl
        exact ⟨33, _, 1, Or.inr rfl, Or.inl ⟨rfl, hs, fun j hj => he j (by omega)⟩, cl.trans (by
          refine XS.iloadN X0.here hexec rfl (hb hbytes d9) rfl ?_
          refine XS.aloadN X0.here hexec rfl (hb hbytes d10) rfl rfl ?_
          refine X0.alen hexec hA0 rfl rfl (hb hbytes d11) ?_
          refine XS.icmpYes X0.here hexec rfl (pc0 := 12) rfl (hb hbytes d12) rfl (ii_ge_t (nlt32 (by omega) (by omega))) (by decide) rfl ?_
          refine iconstV X0.here hexec rfl 1 (hb hbytes d32) (by decide) ?_
          exact Steps.refl _)⟩
      | succ r ih =>
        intro i hi he cl
        have c4 : Steps p.tables e below (s₁.setTop (entryFrame m #[.ref a, .ref b] 3)) (s₁.setTop (mkF m 21 #[.val (.ref a), .val (.ref b), .val (.int (Int32.ofNat i))] [.int (yv B i), .int (yv A i)])) := cl.trans (by
          refine XS.iloadN X0.here hexec rfl (hb hbytes d9) rfl ?_
          refine XS.aloadN X0.here hexec rfl (hb hbytes d10) rfl rfl ?_
          refine X0.alen hexec hA0 rfl rfl (hb hbytes d11) ?_
          refine XS.icmpNo X0.here hexec rfl (hb hbytes d12) rfl (ii_ge_f (lt32 (by omega) (by omega))) ?_
          refine XS.aloadN X0.here hexec rfl (hb hbytes d15) rfl rfl ?_
          refine XS.iloadN X0.here hexec rfl (hb hbytes d16) rfl ?_
          refine X0.aget hexec hA0 rfl (yv_get hA tA (i := i) (by omega)) rfl rfl (hb hbytes d17) ?_
          refine XS.aloadN X0.here hexec rfl (hb hbytes d18) rfl rfl ?_
          refine XS.iloadN X0.here hexec rfl (hb hbytes d19) rfl ?_
          refine X0.aget hexec hB0 rfl (yv_get hB tB (i := i) (by omega)) rfl rfl (hb hbytes d20) ?_
          exact Steps.refl _)
        by_cases hv : yv A i = yv B i
        · have c5 : Steps p.tables e below (s₁.setTop (entryFrame m #[.ref a, .ref b] 3)) (s₁.setTop (mkF m 9 #[.val (.ref a), .val (.ref b), .val (.int (Int32.ofNat i + 1))] [])) := c4.trans (by
            refine XS.icmpYes X0.here hexec rfl (pc0 := 21) rfl (hb hbytes d21) rfl (ii_eq_t hv) (by decide) rfl ?_
            refine iincV X0.here hexec rfl 1 (hb hbytes d26) (by decide) rfl rfl ?_
            refine XS.goto X0.here hexec rfl (pc0 := 29) rfl (hb hbytes d29) (by decide) rfl ?_
            exact Steps.refl _)
          rw [succ32] at c5
          exact ih (i + 1) (by omega) (fun j hj => by
            by_cases e : j = i
            · rw [e]; exact hv
            · exact he j (by omega)) c5
        · exact ⟨25, _, 0, Or.inl rfl, Or.inr ⟨rfl, fun q => hv (q.2 i (by omega))⟩, c4.trans (by
            refine XS.icmpNo X0.here hexec rfl (hb hbytes d21) rfl (ii_eq_f hv) ?_
            refine iconstV X0.here hexec rfl 0 (hb hbytes d24) (by decide) ?_
            exact Steps.refl _)⟩
    obtain ⟨pc, Ls, v, hpc, hv, cz⟩ := loop A.slots.size 0 (by omega) (fun j hj => absurd hj (Nat.not_lt_zero j)) c3
    have nv : narrow .boolean (.int v) = .int v := by rcases hv with ⟨rfl, -⟩ | ⟨rfl, -⟩ <;> rfl
    rcases hpc with rfl | rfl
    · exact ⟨s₁, some (.int v), _, _, _, X0, rfl, rfl, rfl, (fun h => by cases h), ⟨v, rfl, hh0, hv⟩, fun fs hl => cz.trans (X0.ireturnOut hexec hret nv (Or.inr (Or.inl rfl)) (hb hbytes d25) hl)⟩
    · exact ⟨s₁, some (.int v), _, _, _, X0, rfl, rfl, rfl, (fun h => by cases h), ⟨v, rfl, hh0, hv⟩, fun fs hl => cz.trans (X0.ireturnOut hexec hret nv (Or.inr (Or.inl rfl)) (hb hbytes d33) hl)⟩
  · have c3 : Steps p.tables e below (s₁.setTop (entryFrame m #[.ref a, .ref b] 3)) (s₁.setTop (mkF m 35 #[.val (.ref a), .val (.ref b), .unset] [.int 0])) := c2.trans (by
      refine XS.icmpYes X0.here hexec rfl (pc0 := 4) rfl (hb hbytes d4) rfl (ii_ne_t (ne32 a31 b31 hs)) (by decide) rfl ?_
      refine iconstV X0.here hexec rfl 0 (hb hbytes d34) (by decide) ?_
      exact Steps.refl _)
    exact ⟨s₁, some (.int 0), _, _, _, X0, rfl, rfl, rfl, (fun h => by cases h), ⟨0, rfl, hh0, Or.inr ⟨rfl, fun q => hs q.1⟩⟩, fun fs hl => c3.trans (X0.ireturnOut hexec hret rfl (Or.inr (Or.inl rfl)) (hb hbytes d35) hl)⟩
end LEq
theorem Cod.ty {cd : Int32} {n : Nat} {f : Nat → Int32} {V : Cell} (h : Cod cd n f V) : Typed .byte V := fun i v hv => by
  have hi : i < V.slots.size := (Array.getElem?_eq_some_iff.mp hv).1
  rcases h with ⟨-, k1, k2⟩ | ⟨-, k1, k2, -⟩
  · rw [(k2 i (by omega)).1] at hv; cases hv; exact fits_lo8 _
  · rcases Nat.mod_two_eq_zero_or_one i with e | e
    · obtain ⟨j, rfl⟩ : ∃ j, i = 2 * j := ⟨i / 2, by omega⟩
      rw [(k2 j (by omega)).1] at hv; cases hv; exact fits_lo8 _
    · obtain ⟨j, rfl⟩ : ∃ j, i = 2 * j + 1 := ⟨i / 2, by omega⟩
      rw [(k2 j (by omega)).2] at hv; cases hv; exact fits_lo8 _
/-- the same text -/
def SameT (n : Nat) (f : Nat → Int32) (k : Nat) (g : Nat → Int32) : Prop := n = k ∧ ∀ j, j < n → f j = g j
theorem lo8_inj {x y : Int32} (h0 : ¬ x < 0) (h1 : ¬ 255 < x) (k0 : ¬ y < 0) (k1 : ¬ 255 < y) (h : lo8 x = lo8 y) : x = y := by
  rw [← lo8_mask h0 h1, ← lo8_mask k0 k1, h]
/-- arrays coded by one coder are equal just where the texts are -/
theorem Cod.eqv {cd : Int32} {n k : Nat} {f g : Nat → Int32} {V V' : Cell} (h : Cod cd n f V) (h' : Cod cd k g V') (hf : ∀ j, j < n → ¬ f j < 0 ∧ ¬ 65535 < f j) (hg : ∀ j, j < k → ¬ g j < 0 ∧ ¬ 65535 < g j) : EqC V V' ↔ SameT n f k g := by
  have yvv : ∀ {W : Cell} {i : Nat} {x : Int32}, W.slots[i]? = some (.int x) → yv W i = x := fun q => by unfold yv; rw [q]
  rcases h with ⟨rfl, k1, k2⟩ | ⟨rfl, k1, k2, -⟩
  · rcases h' with ⟨-, m1, m2⟩ | ⟨e, -⟩
    · constructor
      · rintro ⟨e1, e2⟩
        refine ⟨by omega, fun j hj => ?_⟩
        have q := e2 j (by omega)
        rw [yvv (k2 j hj).1, yvv (m2 j (by omega)).1] at q
        exact lo8_inj (hf j hj).1 (k2 j hj).2 (hg j (by omega)).1 (m2 j (by omega)).2 q
      · rintro ⟨rfl, e2⟩
        refine ⟨by omega, fun j hj => ?_⟩
        rw [yvv (k2 j (by omega)).1, yvv (m2 j (by omega)).1, e2 j (by omega)]
    · exact absurd e (by decide)
  · rcases h' with ⟨e, -⟩ | ⟨-, m1, m2, -⟩
    · exact absurd e (by decide)
    · constructor
      · rintro ⟨e1, e2⟩
        refine ⟨by omega, fun j hj => ?_⟩
        have q1 := e2 (2 * j) (by omega)
        have q2 := e2 (2 * j + 1) (by omega)
        rw [yvv (k2 j hj).1, yvv (m2 j (by omega)).1] at q1
        rw [yvv (k2 j hj).2, yvv (m2 j (by omega)).2] at q2
        rw [← pair_says (hf j hj).1 (hf j hj).2, ← pair_says (hg j (by omega)).1 (hg j (by omega)).2, q1, q2]
      · rintro ⟨rfl, e2⟩
        refine ⟨by omega, fun i hi => ?_⟩
        rcases Nat.mod_two_eq_zero_or_one i with e | e
        · obtain ⟨j, rfl⟩ : ∃ j, i = 2 * j := ⟨i / 2, by omega⟩
          rw [yvv (k2 j (by omega)).1, yvv (m2 j (by omega)).1, e2 j (by omega)]
        · obtain ⟨j, rfl⟩ : ∃ j, i = 2 * j + 1 := ⟨i / 2, by omega⟩
          rw [yvv (k2 j (by omega)).2, yvv (m2 j (by omega)).2, e2 j (by omega)]
/-- two codings differ: so do the texts -/
theorem Cod.dif {cd cd' : Int32} {n k : Nat} {f g : Nat → Int32} {V V' : Cell} (h : Cod cd n f V) (h' : Cod cd' k g V') (hne : ¬ cd = cd') : ¬ SameT n f k g := by
  rintro ⟨rfl, e⟩
  rcases h with ⟨rfl, -, k2⟩ | ⟨rfl, -, -, j, hj, hw⟩
  · rcases h' with ⟨rfl, -⟩ | ⟨-, -, -, j, hj, hw⟩
    · exact hne rfl
    · exact (k2 j hj).2 (by rw [e j hj]; exact hw)
  · rcases h' with ⟨-, -, m2⟩ | ⟨rfl, -⟩
    · exact (m2 j hj).2 (by rw [← e j hj]; exact hw)
    · exact hne rfl
/-- an object of exactly C is an instance of C -/
theorem cinst {p : Program} {l : Launch} {e : Env} {R : Room} {s : State} {m : MethodId} {args : Array Value} {below : List Frame} {meth : Method} {c : Code} {T : State} {locs : List Loc} {cells slots : Nat} (X : Stand p l e R s m args below meth c T locs cells slots) (hexec : p.tables.exec = Jvm.exec) {own C : String} {index : Nat} (hown : s.vm.findClass own = some m.cls) (hlink : (Cond.classLink own index C).before args s = true) {a : Addr} (hE : Exact C a T)
    {g : JFrame} (hg : g.method = m) {rest : List Value} (hstack : g.stack = .ref a :: rest) (hdg : decode c.code g.pc = .ok (.instanceof index, 3)) :
    ∃ T', Stand p l e R s m args below meth c T' locs cells slots ∧ T'.heap = T.heap ∧ ∀ target, Steps p.tables e below (T'.setTop { g with pc := g.pc + 3, stack := .int 1 :: rest }) target → Steps p.tables e below (T.setTop g) target := by
  obtain ⟨cB, h1, D, h2, h3, h4⟩ := hE
  have h1' : s.vm.findClass C = some cB := by rw [← X.warmed.alike.findClass]; exact h1
  obtain ⟨vm', X', st⟩ := X.instanceofYes hexec hown hlink h2 h4 h1' (by rw [h3]; exact Jvm.Free.SB.assignable_self _ _) hg hstack hdg
  exact ⟨_, X', rfl, st⟩
theorem cself {p : Program} {l : Launch} {e : Env} {R : Room} {s : State} {m : MethodId} {args : Array Value} {below : List Frame} {meth : Method} {c : Code} {T : State} {locs : List Loc} {cells slots : Nat} (X : Stand p l e R s m args below meth c T locs cells slots) (hexec : p.tables.exec = Jvm.exec) {own C : String} {index : Nat} (hown : s.vm.findClass own = some m.cls) (hlink : (Cond.classLink own index C).before args s = true) {a : Addr} (hE : Exact C a T)
    {g : JFrame} (hg : g.method = m) {rest : List Value} (hstack : g.stack = .ref a :: rest) (hdg : decode c.code g.pc = .ok (.checkcast index, 3)) :
    ∃ T', Stand p l e R s m args below meth c T' locs cells slots ∧ T'.heap = T.heap ∧ ∀ target, Steps p.tables e below (T'.setTop { g with pc := g.pc + 3, stack := .ref a :: rest }) target → Steps p.tables e below (T.setTop g) target := by
  obtain ⟨cB, h1, D, h2, h3, h4⟩ := hE
  have h1' : s.vm.findClass C = some cB := by rw [← X.warmed.alike.findClass]; exact h1
  obtain ⟨vm', X', st⟩ := X.checkcastYes hexec hown hlink h2 h4 h1' (by rw [h3]; exact Jvm.Free.SB.assignable_self _ _) hg hstack hdg
  exact ⟨_, X', rfl, fun t h => st t (by rw [← hstack] at h; exact h)⟩
namespace SEq
def yN : MethodName := ⟨"java/lang/String", "equals", "(Ljava/lang/Object;)Z"⟩
abbrev yB : ByteArray := jdk_42_method_66_code
theorem d0 : decode yB 0 = .ok (.aload_n 0, 1) := by decide +kernel
theorem d1 : decode yB 1 = .ok (.aload_n 1, 1) := by decide +kernel
theorem d2 : decode yB 2 = .ok (.if_acmp (.ne) 5, 3) := by decide +kernel
theorem d5 : decode yB 5 = .ok (.iconst 1, 1) := by decide +kernel
theorem d6 : decode yB 6 = .ok (.ireturn, 1) := by decide +kernel
theorem d7 : decode yB 7 = .ok (.aload_n 1, 1) := by decide +kernel
theorem d8 : decode yB 8 = .ok (.instanceof 10, 3) := by decide +kernel
theorem d11 : decode yB 11 = .ok (.ifCond (.eq) 43, 3) := by decide +kernel
theorem d14 : decode yB 14 = .ok (.aload_n 1, 1) := by decide +kernel
theorem d15 : decode yB 15 = .ok (.checkcast 10, 3) := by decide +kernel
theorem d18 : decode yB 18 = .ok (.astore_n 2, 1) := by decide +kernel
theorem d19 : decode yB 19 = .ok (.getstatic 38, 3) := by decide +kernel
theorem d22 : decode yB 22 = .ok (.ifCond (.eq) 14, 3) := by decide +kernel
theorem d25 : decode yB 25 = .ok (.aload_n 0, 1) := by decide +kernel
theorem d26 : decode yB 26 = .ok (.getfield 15, 3) := by decide +kernel
theorem d29 : decode yB 29 = .ok (.aload_n 2, 1) := by decide +kernel
theorem d30 : decode yB 30 = .ok (.getfield 15, 3) := by decide +kernel
theorem d33 : decode yB 33 = .ok (.if_icmp (.ne) 21, 3) := by decide +kernel
theorem d36 : decode yB 36 = .ok (.aload_n 0, 1) := by decide +kernel
theorem d37 : decode yB 37 = .ok (.getfield 9, 3) := by decide +kernel
theorem d40 : decode yB 40 = .ok (.aload_n 2, 1) := by decide +kernel
theorem d41 : decode yB 41 = .ok (.getfield 9, 3) := by decide +kernel
theorem d44 : decode yB 44 = .ok (.invokestatic 541, 3) := by decide +kernel
theorem d47 : decode yB 47 = .ok (.ifCond (.eq) 7, 3) := by decide +kernel
theorem d50 : decode yB 50 = .ok (.iconst 1, 1) := by decide +kernel
theorem d51 : decode yB 51 = .ok (.goto 4, 3) := by decide +kernel
theorem d54 : decode yB 54 = .ok (.iconst 0, 1) := by decide +kernel
theorem d55 : decode yB 55 = .ok (.ireturn, 1) := by decide +kernel
def site : List Cond := [.classLink "java/lang/String" 10 "java/lang/String", .fieldLink "java/lang/String" 38 "java/lang/String" "COMPACT_STRINGS" "Z", .fieldLink "java/lang/String" 15 "java/lang/String" "coder" "B", .fieldLink "java/lang/String" 9 "java/lang/String" "value" "[B", LEq.tab] ++ staticW "java/lang/String" 541 LEq.yN
def tab : Cond := tabOf yN yB 3 (some .boolean) site
def P (x t : Addr) (V : Cell) (cd : Int32) (n : Nat) (f : Nat → Int32) (y t' : Addr) (V' : Cell) (cd' : Int32) (k : Nat) (g : Nat → Int32) (z : Int32) (args : Array Value) (s : State) : Prop := args = #[.ref x, .ref y] ∧ Txt x t V cd n f s ∧ Txt y t' V' cd' k g s ∧ StaticIs s "java/lang/String" "COMPACT_STRINGS" "Z" (.int z) ∧ ¬ z = 0
/-- equals(Object) of two Strings: whether the texts are the same -/
theorem law (l : Launch) (x t : Addr) (V : Cell) (cd : Int32) (n : Nat) (f : Nat → Int32) (y t' : Addr) (V' : Cell) (cd' : Int32) (k : Nat) (g : Nat → Int32) (z : Int32) : Law l yN 2 1 1 14 yB 3 (some .boolean) site (P x t V cd n f y t' V' cd' k g z) (Says01 (SameT n f k g)) [] 0 0 := by
  refine Law.of_walk (plainFor_of_name (by decide +kernel)) (by decide +kernel) (by decide +kernel) (by decide) (fun _ _ h => by rw [h.1]; rfl) (fun _ U U' hal hh h => ⟨h.1, h.2.1.mv hal hh, h.2.2.1.mv hal hh, h.2.2.2.1.there hal hh, h.2.2.2.2⟩) (fun r U U' V V' h1 hal h2 h => Says01.mv r U U' V V' h1 hal h2 h) ?_
  intro p e s m args below meth c s₁ X0 hexec hbytes hml hret hlk hnm hown hh0 W hP
  obtain ⟨rfl, hx, hy, s1, hz⟩ := hP
  have c1 : Steps p.tables e below (s₁.setTop (entryFrame m #[.ref x, .ref y] 3)) (s₁.setTop (mkF m 2 #[.val (.ref x), .val (.ref y), .unset] [.ref y, .ref x])) := Steps.trans (entry rfl) (by
    show Steps p.tables e below (s₁.setTop (mkF m 0 #[.val (.ref x), .val (.ref y), .unset] [])) _
    refine XS.aloadN X0.here hexec rfl (hb hbytes d0) rfl rfl ?_
    refine XS.aloadN X0.here hexec rfl (hb hbytes d1) rfl rfl ?_
    exact Steps.refl _)
  by_cases hxy : x = y
  · have c2 : Steps p.tables e below (s₁.setTop (entryFrame m #[.ref x, .ref y] 3)) (s₁.setTop (mkF m 6 #[.val (.ref x), .val (.ref y), .unset] [.int 1])) := c1.trans (by
      refine acmpNo X0.here hexec rfl (hb hbytes d2) rfl rfl rfl (by simp [acmp, hxy]) ?_
      refine iconstV X0.here hexec rfl 1 (hb hbytes d5) (by decide) ?_
      exact Steps.refl _)
    subst hxy
    have ec : cd = cd' := by
      obtain ⟨D, fd, a1, a2, a3⟩ := hx.2.2.1
      obtain ⟨D', fd', b1, b2, b3⟩ := hy.2.2.1
      cases a1.symm.trans b1
      obtain ⟨q1, q2, q3, q4⟩ := a2.1
      obtain ⟨r1, r2, r3, r4⟩ := b2.1
      cases q4.symm.trans r4
      cases a3.symm.trans b3; rfl
    have et : t = t' := by
      obtain ⟨D, fd, a1, a2, a3⟩ := hx.2.1
      obtain ⟨D', fd', b1, b2, b3⟩ := hy.2.1
      cases a1.symm.trans b1
      obtain ⟨q1, q2, q3, q4⟩ := a2.1
      obtain ⟨r1, r2, r3, r4⟩ := b2.1
      cases q4.symm.trans r4
      cases a3.symm.trans b3; rfl
    subst ec et
    have ev : V = V' := by cases hx.2.2.2.1.1.symm.trans hy.2.2.2.1.1; rfl
    subst ev
    have hs : SameT n f k g := (Cod.eqv hx.2.2.2.2.1 hy.2.2.2.2.1 hx.2.2.2.2.2 hy.2.2.2.2.2).mp ⟨rfl, fun _ _ => rfl⟩
    exact ⟨s₁, some (.int 1), _, _, _, X0, rfl, rfl, rfl, (fun h => by cases h), ⟨1, rfl, hh0, Or.inl ⟨rfl, hs⟩⟩, fun fs hl => c2.trans (X0.ireturnOut hexec hret rfl (Or.inr (Or.inl rfl)) (hb hbytes d6) hl)⟩
  · have c2 : Steps p.tables e below (s₁.setTop (entryFrame m #[.ref x, .ref y] 3)) (s₁.setTop (mkF m 8 #[.val (.ref x), .val (.ref y), .unset] [.ref y])) := c1.trans (by
      refine acmpYes X0.here hexec rfl (pc0 := 2) rfl (hb hbytes d2) rfl rfl rfl (by simp [acmp, hxy]) (by decide) rfl ?_
      refine XS.aloadN X0.here hexec rfl (hb hbytes d7) rfl rfl ?_
      exact Steps.refl _)
    obtain ⟨T3, X3, q3, st3⟩ := cinst X0 hexec hown (wk W (.classLink "java/lang/String" 10 "java/lang/String")) (hy.mv X0.warmed.alike hh0).1 (g := (mkF m 8 #[.val (.ref x), .val (.ref y), .unset] [.ref y])) rfl (rest := []) rfl (hb hbytes d8)
    have hh3 := q3.trans hh0
    have c4 : Steps p.tables e below (s₁.setTop (entryFrame m #[.ref x, .ref y] 3)) (T3.setTop (mkF m 15 #[.val (.ref x), .val (.ref y), .unset] [.ref y])) := (c2.trans (st3 _ (Steps.refl _))).trans (by
      refine XS.ifNo X3.here hexec rfl (hb hbytes d11) rfl (i0_eq_f (by decide)) ?_
      refine XS.aloadN X3.here hexec rfl (hb hbytes d14) rfl rfl ?_
      exact Steps.refl _)
    obtain ⟨T5, X5, q5, st5⟩ := cself X3 hexec hown (wk W (.classLink "java/lang/String" 10 "java/lang/String")) (hy.mv X3.warmed.alike hh3).1 (g := (mkF m 15 #[.val (.ref x), .val (.ref y), .unset] [.ref y])) rfl (rest := []) rfl (hb hbytes d15)
    have hh5 := q5.trans hh3
    have c6 : Steps p.tables e below (s₁.setTop (entryFrame m #[.ref x, .ref y] 3)) (T5.setTop (mkF m 19 #[.val (.ref x), .val (.ref y), .val (.ref y)] [])) := (c4.trans (st5 _ (Steps.refl _))).trans (by
      refine XS.astoreN X5.here hexec rfl (hb hbytes d18) rfl rfl rfl ?_
      exact Steps.refl _)
    obtain ⟨T7, X7, q7, st7⟩ := X5.sget hexec hown (wk W (.fieldLink "java/lang/String" 38 "java/lang/String" "COMPACT_STRINGS" "Z")) s1 (fun _ _ h => by rw [hh5]; exact h) (g := (mkF m 19 #[.val (.ref x), .val (.ref y), .val (.ref y)] [])) rfl (hb hbytes d19)
    have hh7 := q7.trans hh5
    have c8 : Steps p.tables e below (s₁.setTop (entryFrame m #[.ref x, .ref y] 3)) (T7.setTop (mkF m 26 #[.val (.ref x), .val (.ref y), .val (.ref y)] [.ref x])) := (c6.trans (st7 _ (Steps.refl _))).trans (by
      refine XS.ifNo X7.here hexec rfl (hb hbytes d22) rfl (i0_eq_f hz) ?_
      refine XS.aloadN X7.here hexec rfl (hb hbytes d25) rfl rfl ?_
      exact Steps.refl _)
    obtain ⟨T9, X9, q9, st9⟩ := X7.hget hexec hown (wk W (.fieldLink "java/lang/String" 15 "java/lang/String" "coder" "B")) (hx.mv X7.warmed.alike hh7).2.2.1 (g := (mkF m 26 #[.val (.ref x), .val (.ref y), .val (.ref y)] [.ref x])) rfl (rest := []) rfl (hb hbytes d26)
    have hh9 := q9.trans hh7
    have c10 : Steps p.tables e below (s₁.setTop (entryFrame m #[.ref x, .ref y] 3)) (T9.setTop (mkF m 30 #[.val (.ref x), .val (.ref y), .val (.ref y)] [.ref y, .int cd])) := (c8.trans (st9 _ (Steps.refl _))).trans (by
      refine XS.aloadN X9.here hexec rfl (hb hbytes d29) rfl rfl ?_
      exact Steps.refl _)
    obtain ⟨T11, X11, q11, st11⟩ := X9.hget hexec hown (wk W (.fieldLink "java/lang/String" 15 "java/lang/String" "coder" "B")) (hy.mv X9.warmed.alike hh9).2.2.1 (g := (mkF m 30 #[.val (.ref x), .val (.ref y), .val (.ref y)] [.ref y, .int cd])) rfl (rest := [.int cd]) rfl (hb hbytes d30)
    have hh11 := q11.trans hh9
    have c12 : Steps p.tables e below (s₁.setTop (entryFrame m #[.ref x, .ref y] 3)) (T11.setTop (mkF m 33 #[.val (.ref x), .val (.ref y), .val (.ref y)] [.int cd', .int cd])) := c10.trans (st11 _ (Steps.refl _))
    by_cases hcd : cd = cd'
    · subst hcd
      have c13 : Steps p.tables e below (s₁.setTop (entryFrame m #[.ref x, .ref y] 3)) (T11.setTop (mkF m 37 #[.val (.ref x), .val (.ref y), .val (.ref y)] [.ref x])) := c12.trans (by
        refine XS.icmpNo X11.here hexec rfl (hb hbytes d33) rfl (ii_ne_f rfl) ?_
        refine XS.aloadN X11.here hexec rfl (hb hbytes d36) rfl rfl ?_
        exact Steps.refl _)
      obtain ⟨T14, X14, q14, st14⟩ := X11.hget hexec hown (wk W (.fieldLink "java/lang/String" 9 "java/lang/String" "value" "[B")) (hx.mv X11.warmed.alike hh11).2.1 (g := (mkF m 37 #[.val (.ref x), .val (.ref y), .val (.ref y)] [.ref x])) rfl (rest := []) rfl (hb hbytes d37)
      have hh14 := q14.trans hh11
      have c15 : Steps p.tables e below (s₁.setTop (entryFrame m #[.ref x, .ref y] 3)) (T14.setTop (mkF m 41 #[.val (.ref x), .val (.ref y), .val (.ref y)] [.ref y, .ref t])) := (c13.trans (st14 _ (Steps.refl _))).trans (by
        refine XS.aloadN X14.here hexec rfl (hb hbytes d40) rfl rfl ?_
        exact Steps.refl _)
      obtain ⟨T16, X16, q16, st16⟩ := X14.hget hexec hown (wk W (.fieldLink "java/lang/String" 9 "java/lang/String" "value" "[B")) (hy.mv X14.warmed.alike hh14).2.1 (g := (mkF m 41 #[.val (.ref x), .val (.ref y), .val (.ref y)] [.ref y, .ref t])) rfl (rest := [.ref t]) rfl (hb hbytes d41)
      have hh16 := q16.trans hh14
      have c17 : Steps p.tables e below (s₁.setTop (entryFrame m #[.ref x, .ref y] 3)) (T16.setTop (mkF m 44 #[.val (.ref x), .val (.ref y), .val (.ref y)] [.ref t', .ref t])) := c15.trans (st16 _ (Steps.refl _))
      obtain ⟨v18, T18, X18, E18, g18⟩ := X16.callS hexec (LEq.law l t V t' V') hown (wks W (staticW "java/lang/String" 541 LEq.yN)) (wk W LEq.tab) (W := 0) (Nat.le_of_ble_eq_true rfl) (Nat.le_of_ble_eq_true rfl) (Nat.le_refl _) (Nat.le_refl _) (g := (mkF m 44 #[.val (.ref x), .val (.ref y), .val (.ref y)] [.ref t', .ref t])) rfl (by rw [hml]; rfl) c17 (argsL := [.ref t, .ref t']) (rest := []) rfl rfl (by show 2 * 0 + 0 ≤ _; decide) (hb hbytes d44) (⟨rfl, hx.2.2.2.1.mv X16.warmed.alike hh16, hx.2.2.2.2.1.ty, hy.2.2.2.1.mv X16.warmed.alike hh16, hy.2.2.2.2.1.ty⟩)
      obtain ⟨v, rfl, q18, hv⟩ := E18
      have iff := Cod.eqv hx.2.2.2.2.1 hy.2.2.2.2.1 hx.2.2.2.2.2 hy.2.2.2.2.2
      rcases hv with ⟨rfl, he⟩ | ⟨rfl, he⟩
      · have c19 : Steps p.tables e below (s₁.setTop (entryFrame m #[.ref x, .ref y] 3)) (T18.setTop (mkF m 55 #[.val (.ref x), .val (.ref y), .val (.ref y)] [.int 1])) := Steps.trans g18 (by
          refine XS.ifNo X18.here hexec rfl (hb hbytes d47) rfl (i0_eq_f (by decide)) ?_
          refine iconstV X18.here hexec rfl 1 (hb hbytes d50) (by decide) ?_
          refine XS.goto X18.here hexec rfl (pc0 := 51) rfl (hb hbytes d51) (by decide) rfl ?_
          exact Steps.refl _)
        exact ⟨T18, some (.int 1), _, _, _, X18, rfl, rfl, rfl, (fun h => by cases h), ⟨1, rfl, q18.trans hh16, Or.inl ⟨rfl, iff.mp he⟩⟩, fun fs hl => c19.trans (X18.ireturnOut hexec hret rfl (Or.inr (Or.inl rfl)) (hb hbytes d55) hl)⟩
      · have c19 : Steps p.tables e below (s₁.setTop (entryFrame m #[.ref x, .ref y] 3)) (T18.setTop (mkF m 55 #[.val (.ref x), .val (.ref y), .val (.ref y)] [.int 0])) := Steps.trans g18 (by
          refine XS.ifYes X18.here hexec rfl (pc0 := 47) rfl (hb hbytes d47) rfl (i0_eq_t rfl) (by decide) rfl ?_
          refine iconstV X18.here hexec rfl 0 (hb hbytes d54) (by decide) ?_
          exact Steps.refl _)
        exact ⟨T18, some (.int 0), _, _, _, X18, rfl, rfl, rfl, (fun h => by cases h), ⟨0, rfl, q18.trans hh16, Or.inr ⟨rfl, fun q => he (iff.mpr q)⟩⟩, fun fs hl => c19.trans (X18.ireturnOut hexec hret rfl (Or.inr (Or.inl rfl)) (hb hbytes d55) hl)⟩
    · have c13 : Steps p.tables e below (s₁.setTop (entryFrame m #[.ref x, .ref y] 3)) (T11.setTop (mkF m 55 #[.val (.ref x), .val (.ref y), .val (.ref y)] [.int 0])) := c12.trans (by
        refine XS.icmpYes X11.here hexec rfl (pc0 := 33) rfl (hb hbytes d33) rfl (ii_ne_t hcd) (by decide) rfl ?_
        refine iconstV X11.here hexec rfl 0 (hb hbytes d54) (by decide) ?_
        exact Steps.refl _)
      exact ⟨T11, some (.int 0), _, _, _, X11, rfl, rfl, rfl, (fun h => by cases h), ⟨0, rfl, hh11, Or.inr ⟨rfl, Cod.dif hx.2.2.2.2.1 hy.2.2.2.2.1 hcd⟩⟩, fun fs hl => c13.trans (X11.ireturnOut hexec hret rfl (Or.inr (Or.inl rfl)) (hb hbytes d55) hl)⟩
theorem pays {l : Launch} {R : Room} {p : Program} {e : Env} {below : List Frame} {s : State} {sargs : Array Value} {len W : Nat} (x t : Addr) (V : Cell) (cd : Int32) (n : Nat) (f : Nat → Int32) (y t' : Addr) (V' : Cell) (cd' : Int32) (k : Nat) (g : Nat → Int32) (z : Int32) (htab : tab.before sargs s = true) (hfr : 2 ≤ R.frames) (hlo : W + 28 ≤ R.locals) :
    Back l R p e below s sargs yN len W (fun A₁ a₁ => A₁.cells + 0 ≤ R.cells ∧ A₁.slots + 0 ≤ R.slots ∧ P x t V cd n f y t' V' cd' k g z a₁ A₁.U) (fun A₁ _ v₁ B₁ => Says01 (SameT n f k g) v₁ A₁.U B₁.U ∧ B₁.locs = A₁.locs ++ [] ∧ B₁.cells = A₁.cells + 0 ∧ B₁.slots = A₁.slots + 0) :=
  (law l x t V cd n f y t' V' cd' k g z).pays htab hfr (by omega)
end SEq
end StrChars
namespace StrChars.Road
open Jvm Sem ClassFile Op Lib Jvm.Stand Jvm.Free Jvm.Free.XT
open Jvm.Lib.Cold (StaticIs)
/-- the words of String.equals(Object) -/
abbrev wordsEq : List Jvm.Cond := [.code SEq.yN SEq.yB 3 (some .boolean), .initialized ST, .classLink ST 10 ST, .fieldLink ST 38 ST "COMPACT_STRINGS" "Z", .fieldLink ST 15 ST "coder" "B", .fieldLink ST 9 ST "value" "[B", .methodLink ST 541 LEq.yN, .static LEq.yN, .code LEq.yN LEq.yB 3 (some .boolean), .initialized "java/lang/StringLatin1"]
theorem tabEq_of {a : Array Value} {s : State} (h : ∀ w ∈ wordsEq, w.before a s = true) : SEq.tab.before a s = true := by
  have hl : LEq.tab.before a s = true := unparts (wk h (.code LEq.yN LEq.yB 3 (some .boolean))) (wks h (.initialized LEq.yN.cls :: LEq.site))
  have q := consq hl h
  exact unparts (wk q (.code SEq.yN SEq.yB 3 (some .boolean))) (wks q (.initialized SEq.yN.cls :: SEq.site))
theorem movedEq {Z s : State} {a0 args : Array Value} (hZ : Z.Warmed39 s.vm) (hw : ∀ d ∈ wordsEq, d.before a0 Z = true) : ∀ d ∈ wordsEq, d.before args s = true := fun d hd => by
  have t : ∀ d ∈ wordsEq, (d.onTables && d.keepsFace) = true := by decide +kernel
  exact RoadKit.mv hZ (hw d hd) (t d hd)
/-- the road's facts of a String, as the laws ask it -/
theorem txt_of {Z U : State} {a0 : Array Value} {kI : Nat} (wi : (Jvm.Cond.instantiable ST kI).before a0 Z = true) (al : Z.vm.Alike U.vm) {x t : Addr} {kb : ClassId} {cs : List Int32} {cd N2 : Int32} {vs : List Value} (E : RoadKit.Exa Z U.heap x ST) (V : RoadKit.Fld Z U.heap x ST "value" "[B" (.ref t)) (C : RoadKit.Fld Z U.heap x ST "coder" "B" (.int cd)) (K : RoadKit.Arv Z U.heap t kb .byte N2 vs (.int 0)) (hc : CodA cs cd N2 vs) (hb : ∀ c ∈ cs, ¬ c < 0 ∧ ¬ (65535 : Int32) < c) (l2 : cs.length ≤ 4000) :
    ∃ A, Txt x t A cd cs.length (fun j => cs.getD j 0) U := by
  obtain ⟨A, K1, K2, K3, K4, K5, K6⟩ := K
  have hcod := hc.cod (by omega) K3 K5
  obtain ⟨D, fV, fC, hB, F1, F2, g1, g2, -, -⟩ := strObj wi al E V C
  exact ⟨A, ⟨_, hB.2.2.1, D, hB.1, rfl, by cases q : D.vm <;> first | rfl | exact absurd q (hB.2.1.2 _)⟩, Has.of hB F1 g1, Has.of hB F2 g2, ⟨K1.1, State.isArrayOf_alike al K1.2.1, K1.2.2, by rcases hcod with ⟨-, q, -⟩ | ⟨-, q, -⟩ <;> omega⟩, hcod, fun j hj => by
    have e : cs.getD j 0 = cs[j] := by simp [List.getD_eq_getElem?_getD, hj]
    show ¬ cs.getD j 0 < 0 ∧ ¬ 65535 < cs.getD j 0
    rw [e]; exact hb _ (List.getElem_mem _)⟩
theorem same_list (cs ds : List Int32) : SameT cs.length (fun j => cs.getD j 0) ds.length (fun j => ds.getD j 0) ↔ cs = ds := by
  constructor
  · rintro ⟨e, q⟩
    refine List.ext_getElem e fun j h1 h2 => ?_
    have := q j h1
    simpa [List.getD_eq_getElem?_getD, h1, h2] using this
  · rintro rfl
    exact ⟨rfl, fun _ _ => rfl⟩
/-- **equals(Object) OF TWO SUCH STRINGS**: 1 just where the chars are the same -/
theorem eqW {p : Program} {l : Launch} {e : Env} {R : Room} {s : State} {args : Array Value} {below : List Frame} {len W : Nat} {Z : State} {a0 : Array Value} {h : Heap} (hZ : Z.Warmed39 s.vm) (hw : ∀ d ∈ wordsEq, d.before a0 Z = true) {kI : Nat} (wi : (Jvm.Cond.instantiable ST kI).before a0 Z = true)
    {x t : Addr} {kb : ClassId} {cs : List Int32} {cd N2 : Int32} {vs : List Value} (E : RoadKit.Exa Z h x ST) (V : RoadKit.Fld Z h x ST "value" "[B" (.ref t)) (C : RoadKit.Fld Z h x ST "coder" "B" (.int cd)) (K : RoadKit.Arv Z h t kb .byte N2 vs (.int 0)) (hc : CodA cs cd N2 vs) (hb : ∀ c ∈ cs, ¬ c < 0 ∧ ¬ (65535 : Int32) < c) (l2 : cs.length ≤ 4000)
    {y t' : Addr} {kb' : ClassId} {ds : List Int32} {cd' N2' : Int32} {vs' : List Value} (E' : RoadKit.Exa Z h y ST) (V' : RoadKit.Fld Z h y ST "value" "[B" (.ref t')) (C' : RoadKit.Fld Z h y ST "coder" "B" (.int cd')) (K' : RoadKit.Arv Z h t' kb' .byte N2' vs' (.int 0)) (hc' : CodA ds cd' N2' vs') (hb' : ∀ c ∈ ds, ¬ c < 0 ∧ ¬ (65535 : Int32) < c) (l2' : ds.length ≤ 4000)
    {z : Int32} (S : RoadKit.Sta Z h ST "COMPACT_STRINGS" "Z" (.int z)) (hz : ¬ z = 0) (hfr : 2 ≤ R.frames) (hlo : W + 28 ≤ R.locals) :
    Back l R p e below s args (⟨"java/lang/String", "equals", "(Ljava/lang/Object;)Z"⟩ : MethodName) len W (fun P a => a = #[.ref x, .ref y] ∧ P.U.heap = h ∧ P.cells + 0 ≤ R.cells ∧ P.slots + 0 ≤ R.slots)
      (fun P _ v B => ∃ L, (((v = some (.int 1) ∧ cs = ds) ∨ (v = some (.int 0) ∧ ¬ cs = ds)) ∧ L = [] ∧ B.U.heap = h) ∧ B.locs = P.locs ++ L ∧ B.cells = P.cells + 0 ∧ B.slots = P.slots + 0) := by
  intro m meth c P g ig mk a X hg hsize hdg hW hn hp'
  obtain ⟨rfl, rfl, r1, r2⟩ := hp'
  have al : Z.vm.Alike P.U.vm := hZ.alike.trans X.warmed.alike
  obtain ⟨A, hx⟩ := txt_of wi al E V C K hc hb l2
  obtain ⟨A', hy⟩ := txt_of wi al E' V' C' K' hc' hb' l2'
  obtain ⟨v, B, X', ⟨⟨w, hv, hh, hq⟩, hl, hk, hs⟩, st⟩ := SEq.pays x t A cd cs.length (fun j => cs.getD j 0) y t' A' cd' ds.length (fun j => ds.getD j 0) z (tabEq_of (movedEq hZ hw)) hfr hlo m meth c P g ig mk _ X hg hsize hdg hW hn ⟨r1, r2, rfl, hx, hy, sta_is al S, hz⟩
  refine ⟨v, B, X', ⟨[], ⟨?_, rfl, hh⟩, hl, hk, hs⟩, st⟩
  rcases hq with ⟨rfl, q⟩ | ⟨rfl, q⟩
  · exact Or.inl ⟨hv, (same_list cs ds).mp q⟩
  · exact Or.inr ⟨hv, fun e => q ((same_list cs ds).mpr e)⟩
end StrChars.Road
end Jvm.Pilot.@@N@@
namespace Jvm.Pilot.@@N@@
open Jvm Jvm.ClassFile Sem Op Lib Jvm.Free Jvm.Stand Jvm.LawKit Jvm.RoadKit Bundle Jvm.Pilot.@@N@@.Jvm.D
abbrev HW (a0 : Array Value) (Z : State) : Prop := ∀ d ∈ tables_1, d.before a0 Z = true
abbrev Y0 : MethodName := ⟨"com/example/breakwater/breakwater/engine/Address", "<init>", "(Ljava/lang/String;Ljava/lang/String;Ljava/lang/String;)V"⟩
abbrev Y1 : MethodName := ⟨"com/example/breakwater/breakwater/engine/Address", "<init>", "(Ljava/lang/String;Ljava/lang/String;Ljava/lang/String;Ljava/lang/String;)V"⟩
abbrev Y2 : MethodName := ⟨"com/example/breakwater/breakwater/engine/Address", "equals", "(Ljava/lang/Object;)Z"⟩
abbrev Y3 : MethodName := ⟨"com/example/breakwater/breakwater/engine/AddressEqualsPinLaw", "endChar", "(I)C"⟩
abbrev Y4 : MethodName := ⟨"com/example/breakwater/breakwater/engine/AddressEqualsPinLaw", "endpoint", "(I)Ljava/lang/String;"⟩
abbrev Y5 : MethodName := ⟨"com/example/breakwater/breakwater/engine/AddressEqualsPinLaw", "name", "(I)Ljava/lang/String;"⟩
abbrev Y6 : MethodName := ⟨"com/example/breakwater/breakwater/engine/AddressEqualsPinLaw", "nameChar", "(I)C"⟩
abbrev Y7 : MethodName := ⟨"java/lang/AbstractStringBuilder", "<init>", "(I)V"⟩
abbrev Y8 : MethodName := ⟨"java/lang/AbstractStringBuilder", "append", "(C)Ljava/lang/AbstractStringBuilder;"⟩
abbrev Y9 : MethodName := ⟨"java/lang/AbstractStringBuilder", "append", "(Ljava/lang/String;)Ljava/lang/AbstractStringBuilder;"⟩
abbrev Y10 : MethodName := ⟨"java/lang/AbstractStringBuilder", "ensureCapacityInternal", "(I)V"⟩
abbrev Y11 : MethodName := ⟨"java/lang/AbstractStringBuilder", "getValue", "()[B"⟩
abbrev Y12 : MethodName := ⟨"java/lang/AbstractStringBuilder", "inflateIfNeededFor", "(Ljava/lang/String;)V"⟩
abbrev Y13 : MethodName := ⟨"java/lang/AbstractStringBuilder", "isLatin1", "()Z"⟩
abbrev Y14 : MethodName := ⟨"java/lang/AbstractStringBuilder", "length", "()I"⟩
abbrev Y15 : MethodName := ⟨"java/lang/AbstractStringBuilder", "putStringAt", "(ILjava/lang/String;)V"⟩
abbrev Y16 : MethodName := ⟨"java/lang/Math", "min", "(II)I"⟩
abbrev Y17 : MethodName := ⟨"java/lang/String", "<init>", "(Ljava/lang/AbstractStringBuilder;Ljava/lang/Void;)V"⟩
abbrev Y18 : MethodName := ⟨"java/lang/String", "<init>", "(Ljava/lang/StringBuilder;)V"⟩
abbrev Y19 : MethodName := ⟨"java/lang/String", "<init>", "([BB)V"⟩
abbrev Y20 : MethodName := ⟨"java/lang/String", "<init>", "([C)V"⟩
abbrev Y21 : MethodName := ⟨"java/lang/String", "<init>", "([CIILjava/lang/Void;)V"⟩
abbrev Y22 : MethodName := ⟨"java/lang/String", "coder", "()B"⟩
abbrev Y23 : MethodName := ⟨"java/lang/String", "equals", "(Ljava/lang/Object;)Z"⟩
abbrev Y24 : MethodName := ⟨"java/lang/String", "getBytes", "([BIB)V"⟩
abbrev Y25 : MethodName := ⟨"java/lang/String", "length", "()I"⟩
abbrev Y26 : MethodName := ⟨"java/lang/String", "valueOf", "(C)Ljava/lang/String;"⟩
abbrev Y27 : MethodName := ⟨"java/lang/StringBuilder", "<init>", "()V"⟩
abbrev Y28 : MethodName := ⟨"java/lang/StringBuilder", "append", "(C)Ljava/lang/StringBuilder;"⟩
abbrev Y29 : MethodName := ⟨"java/lang/StringBuilder", "append", "(Ljava/lang/String;)Ljava/lang/StringBuilder;"⟩
abbrev Y30 : MethodName := ⟨"java/lang/StringBuilder", "length", "()I"⟩
abbrev Y31 : MethodName := ⟨"java/lang/StringBuilder", "toString", "()Ljava/lang/String;"⟩
abbrev Y32 : MethodName := ⟨"java/lang/StringLatin1", "canEncode", "(C)Z"⟩
abbrev Y33 : MethodName := ⟨"java/lang/StringLatin1", "toBytes", "(C)[B"⟩
abbrev Y34 : MethodName := ⟨"java/lang/StringUTF16", "coderFromArrayLen", "([BI)B"⟩
abbrev Y35 : MethodName := ⟨"java/lang/StringUTF16", "compress", "([CII)[B"⟩
abbrev Y36 : MethodName := ⟨"java/lang/StringUTF16", "compress", "([CI[BII)I"⟩
abbrev Y37 : MethodName := ⟨"java/util/Arrays", "checkLength", "(II)V"⟩
abbrev Y38 : MethodName := ⟨"java/util/Arrays", "copyOfRange", "([BII)[B"⟩
abbrev Y39 : MethodName := ⟨"java/util/Arrays", "copyOfRangeByte", "([BII)[B"⟩
theorem own_eqk {args : Array Value} {first s : State} {o : Option Outcome} {idx : List Nat} {t : Term} {k : Int32} (h : (Jvm.Cond.eq t (Term.int k)).value args first o s idx = some true) : t.eval args first o idx s = some (.int k) := by
  obtain ⟨x, y, ex, ey, -, k2⟩ := cmp_v (Or.inl h)
  have e2 : y = .int k := Option.some.inj (ey.symm.trans (Term.int_eval k))
  subst e2
  obtain ⟨z, rfl⟩ := k2
  have := gotT (Cond.eq_ints ex (Term.int_eval k)) h
  rw [ex, this]

theorem own_ch (x : Int32) : ¬ (255 : Int32) < (x &&& (255 : Int32)).toUInt32.toUInt16.toUInt32.toInt32 := by
  rw [i2c_mask]
  have q := c_mask x 255 8 (by decide) (by decide)
  have z : (255 : Int32).toInt = 255 := by decide
  rw [Int32.lt_iff_toInt_lt, z]
  omega
theorem own_ch0 (x : Int32) : ¬ (x &&& (255 : Int32)).toUInt32.toUInt16.toUInt32.toInt32 < (0 : Int32) := by
  rw [i2c_mask]
  have q := c_mask x 255 8 (by decide) (by decide)
  have z : (0 : Int32).toInt = 0 := by decide
  rw [Int32.lt_iff_toInt_lt, z]
  omega
theorem own_nar (x : Int32) : nar .char ((x &&& (255 : Int32)).toUInt32.toUInt16.toUInt32.toInt32) = (x &&& (255 : Int32)) := by
  show ((x &&& (255 : Int32)).toUInt32.toUInt16.toUInt32.toInt32).toUInt32.toUInt16.toUInt32.toInt32 = _
  rw [i2c_mask, i2c_mask]
theorem own_chn (x : Int32) : ¬ (255 : Int32) < nar .char ((x &&& (255 : Int32)).toUInt32.toUInt16.toUInt32.toInt32) := by
  rw [own_nar]
  have q := c_mask x 255 8 (by decide) (by decide)
  have z : (255 : Int32).toInt = 255 := by decide
  rw [Int32.lt_iff_toInt_lt, z]
  omega

abbrev own_EL : List (String × Nat) := [("java/lang/String", 7)]
theorem own_hEL {Z : State} {a0 : Array Value} (hw : HW a0 Z) : EW Z a0 own_EL := (EW.cons (wd hw 214 rfl) (by decide) EW.nil)
theorem own_wS {Z : State} {a0 : Array Value} (hw : HW a0 Z) : ∀ a ∈ Bundle.stringAtoms, a.before a0 Z = true := fun a ha => by
  simp only [Bundle.stringAtoms, Bundle.sN, List.mem_cons, List.not_mem_nil, or_false] at ha
  rcases ha with rfl | rfl | rfl | rfl | rfl | rfl | rfl
  · exact (wd hw 9 rfl)
  · exact (wd hw 17 rfl)
  · exact (wd hw 21 rfl)
  · exact (wd hw 30 rfl)
  · exact (wd hw 32 rfl)
  · exact (wd hw 215 rfl)
  · exact (wd hw 216 rfl)
def own_vs (cs : List Int32) : List Value := cs.map fun c => Value.int (StrChars.lo8 c)
def own_z (cs : List Int32) : Int32 := Int32.ofNat cs.length
def own_ok (cs : List Int32) : Prop := (∀ c ∈ cs, ¬ c < 0 ∧ ¬ (255 : Int32) < c) ∧ cs.length ≤ 4000
theorem own_cod {cs : List Int32} (h : own_ok cs) : StrChars.Road.CodA cs 0 (own_z cs) (own_vs cs) := Or.inl ⟨rfl, rfl, rfl, fun c hc => (h.1 c hc).2⟩
theorem own_up {cs : List Int32} (h : own_ok cs) : ∀ c ∈ cs, ¬ c < 0 ∧ ¬ (65535 : Int32) < c := fun c hc => by
  obtain ⟨h1, h2⟩ := h.1 c hc
  refine ⟨h1, ?_⟩
  have z1 : (255 : Int32).toInt = 255 := by decide
  have z2 : (65535 : Int32).toInt = 65535 := by decide
  rw [Int32.lt_iff_toInt_lt] at h2 ⊢
  omega
theorem own_lo (x : Int32) : nar .byte (x.toInt8.toInt32) = StrChars.lo8 x := by
  show x.toInt8.toInt32.toInt8.toInt32 = x.toInt8.toInt32
  simp
theorem own_ok_of {cs : List Int32} (h1 : ∀ c ∈ cs, ∃ x : Int32, c = x &&& (255 : Int32)) (h2 : cs.length ≤ 4000) : own_ok cs := ⟨fun c hc => by
  obtain ⟨x, rfl⟩ := h1 c hc
  have q := c_mask x 255 8 (by decide) (by decide)
  have z1 : (255 : Int32).toInt = 255 := by decide
  have z2 : (0 : Int32).toInt = 0 := by decide
  rw [Int32.lt_iff_toInt_lt, Int32.lt_iff_toInt_lt]
  omega, h2⟩

theorem own_heq {Z : State} {a0 : Array Value} (hw : HW a0 Z) : ∀ d ∈ StrChars.Road.wordsEq, d.before a0 Z = true := fun d hd => by
  simp only [StrChars.Road.wordsEq, List.mem_cons, List.not_mem_nil, or_false] at hd
  rcases hd with rfl | rfl | rfl | rfl | rfl | rfl | rfl | rfl | rfl | rfl
  · exact (wd hw 197 rfl)
  · exact (wd hw 9 rfl)
  · exact (wd hw 16 rfl)
  · exact (wd hw 11 rfl)
  · exact (wd hw 31 rfl)
  · exact (wd hw 29 rfl)
  · exact (wd hw 198 rfl)
  · exact (wd hw 199 rfl)
  · exact (wd hw 200 rfl)
  · exact (wd hw 14 rfl)
theorem own_notsub {Z : State} {a0 : Array Value} {C S K : String} {n : Nat} (w : (Jvm.Cond.superclass C S).before a0 Z = true) (wo : (Jvm.Cond.noSuperclass S).before a0 Z = true) (wi : (Jvm.Cond.instantiable K n).before a0 Z = true) (h1 : C ≠ K) (h2 : S ≠ K) : ∃ c t, Z.vm.findClass C = some c ∧ Z.vm.findClass K = some t ∧ Z.vm.assignable c t = false := by
  obtain ⟨t, kt, g0, g2, g5, g7, -, -⟩ := Cond.instantiable_spec (show (Jvm.Cond.instantiable K n).holds a0 Z none Z [] = true from wi)
  obtain ⟨c, h0⟩ := found_sup w
  obtain ⟨p, k, kp, a1, a2, a3, a4, a5, -, a7⟩ := Cond.superclass_spec h0 (show (Jvm.Cond.superclass C S).holds a0 Z none Z [] = true from w)
  obtain ⟨o, ko, b1, b2, b3, -, -⟩ := Cond.noSuperclass_spec (show (Jvm.Cond.noSuperclass S).holds a0 Z none Z [] = true from wo)
  have hpo : p = o := Option.some.inj (a1.symm.trans b1)
  subst hpo
  have ne1 := ids_ne h0 g0 h1
  have ne2 := ids_ne b1 g0 h2
  have gi : kt.isInterface = false := (Bool.or_eq_false_iff.mp g7).1
  have q0 : ∀ fuel, Z.vm.isSubclassAux fuel p t = false := fun fuel => by
    cases fuel with
    | zero => rfl
    | succ f => simp [Vm.isSubclassAux, ne2, b2, b3]
  have q1 : ∀ fuel, Z.vm.isSubclassAux fuel c t = false := fun fuel => by
    cases fuel with
    | zero => rfl
    | succ f => simp [Vm.isSubclassAux, ne1, a2, a4, q0]
  refine ⟨c, t, h0, g0, ?_⟩
  show Z.vm.assignableAux (255 + 1) c t = false
  simp [Vm.assignableAux, ne1, a2, g2, a5, g5, gi, Vm.isSubclass, q1]

theorem ef_rm_canEnc (m : MethodId) (x0 : Int32) : entryFrame m #[(.int x0)] 1 = mkF m 0 #[vi x0] [] := by first | (simp [entryFrame, mkF, argsToLocals, Value.category]; done) | rfl
theorem d4_0 : decode jdk_43_method_3_code 0 = .ok (.iload_n 0, 1) := by decide +kernel
theorem d4_1 : decode jdk_43_method_3_code 1 = .ok (.sipush 255, 3) := by decide +kernel
theorem d4_4 : decode jdk_43_method_3_code 4 = .ok (.if_icmp .gt 7, 3) := by decide +kernel
theorem d4_7 : decode jdk_43_method_3_code 7 = .ok (.iconst 1, 1) := by decide +kernel
theorem d4_8 : decode jdk_43_method_3_code 8 = .ok (.goto 4, 3) := by decide +kernel
theorem d4_12 : decode jdk_43_method_3_code 12 = .ok (.ireturn, 1) := by decide +kernel
theorem pn_java_lang_StringLatin1 : plainName "java/lang/StringLatin1" = true := by first | (simp [plainName, overriddenIn]; done) | decide +kernel
def Q_rm_canEnc (Z : State) (p1 : Int32) (h0 : Heap) (n0 : Nat) (vv : Option Value) (h : Heap) (L : List Loc) : Prop := vv = some (.int 1) ∧ Fr n0 L ∧ h = h0
set_option maxRecDepth 65536 in
set_option maxHeartbeats 40000000 in
theorem rm_canEnc (l : Launch) (Z : State) (a0 : Array Value) (hw : HW a0 Z) (ws : List Jvm.Cond) (p1 : Int32) (h0 : Heap) (n0 : Nat) (Z0 : n0 ≤ h0.size) (q0 : ¬ ((255 : Int32) < p1)) :
    Met l Z Y32 jdk_43_method_3_code 1 (some .boolean) ws ({ frames := 0, cells := 0, slots := 0, locals := 0 } : Room) #[(.int p1)] h0 (Q_rm_canEnc Z p1 h0 n0) := by
  refine Met.enter (f0 := fun m => mkF m 0 #[vi p1] []) (plainFor_of_name pn_java_lang_StringLatin1) (fun m => ef_rm_canEnc m p1) ?_
  intro p e s m below meth c s₁ hx hby hml hown hnm hret hlk hZ X0 e0
  have hown : s.vm.findClass "java/lang/StringLatin1" = some m.cls := hown
  have hnm : meth.name = "canEncode" := hnm
  have hml : c.maxLocals = 1 := hml
  have dk : ∀ {i : Nat} {r : Except DecodeError (Instr × Nat)}, decode jdk_43_method_3_code i = r → decode c.code i = r := fun h => hb hby h
  have N0 := Fr.nil n0
  refine gy (St s₁ m 12 #[vi p1] [(.int 1)]) (fun _ k => XS.iloadN X0.here hx rfl (dk d4_0) rfl (XS.sipush X0.here hx rfl (dk d4_1) (XS.icmpNo X0.here hx rfl (dk d4_4) rfl (flt q0).2.2.1 (XS.iconst X0.here hx rfl (dk d4_7) (XS.goto X0.here hx rfl (pc0 := 8) (pc' := 12) rfl (dk d4_8) (by decide) (by decide) k))))) ?_
  refine Go.ret X0 hx hlk (t := .boolean) hret rfl (Or.inl ⟨rfl, by simp, _, rfl⟩) (dk d4_12) (by decide) (by decide) ?_
  rw [e0]
  exact ⟨rfl, N0, rfl⟩
theorem ef_rm_toBytes (m : MethodId) (x0 : Int32) : entryFrame m #[(.int x0)] 1 = mkF m 0 #[vi x0] [] := by first | (simp [entryFrame, mkF, argsToLocals, Value.category]; done) | rfl
theorem d5_0 : decode jdk_43_method_46_code 0 = .ok (.iconst 1, 1) := by decide +kernel
theorem d5_1 : decode jdk_43_method_46_code 1 = .ok (.newarray .byte, 2) := by decide +kernel
theorem d5_3 : decode jdk_43_method_46_code 3 = .ok (.dup, 1) := by decide +kernel
theorem d5_4 : decode jdk_43_method_46_code 4 = .ok (.iconst 0, 1) := by decide +kernel
theorem d5_5 : decode jdk_43_method_46_code 5 = .ok (.iload_n 0, 1) := by decide +kernel
theorem d5_6 : decode jdk_43_method_46_code 6 = .ok (.i2b, 1) := by decide +kernel
theorem d5_7 : decode jdk_43_method_46_code 7 = .ok (.bastore, 1) := by decide +kernel
theorem d5_8 : decode jdk_43_method_46_code 8 = .ok (.areturn, 1) := by decide +kernel
def Q_rm_toBytes (Z : State) (p1 : Int32) (h0 : Heap) (n0 : Nat) (vv : Option Value) (h : Heap) (L : List Loc) : Prop := ∃ b : Addr, ∃ k : ClassId, vv = some (.ref b) ∧ Fr n0 L ∧ Keep h0 h [] ∧ Arv Z h b k .byte (1 : Int32) [(.int (nar .byte (p1.toInt8.toInt32)))] (.int 0) ∧ h0.size ≤ b
set_option maxRecDepth 65536 in
set_option maxHeartbeats 40000000 in
theorem rm_toBytes (l : Launch) (Z : State) (a0 : Array Value) (hw : HW a0 Z) (ws : List Jvm.Cond) (p1 : Int32) (h0 : Heap) (n0 : Nat) (Z0 : n0 ≤ h0.size) (pr0 : Old Z n0 h0) :
    Met l Z Y33 jdk_43_method_46_code 1 (some (.array .byte)) ws ({ frames := 0, cells := 1, slots := 1, locals := 0 } : Room) #[(.int p1)] h0 (Q_rm_toBytes Z p1 h0 n0) := by
  refine Met.enter (f0 := fun m => mkF m 0 #[vi p1] []) (plainFor_of_name pn_java_lang_StringLatin1) (fun m => ef_rm_toBytes m p1) ?_
  intro p e s m below meth c s₁ hx hby hml hown hnm hret hlk hZ X0 e0
  have hown : s.vm.findClass "java/lang/StringLatin1" = some m.cls := hown
  have hnm : meth.name = "toBytes" := hnm
  have hml : c.maxLocals = 1 := hml
  have dk : ∀ {i : Nat} {r : Except DecodeError (Instr × Nat)}, decode jdk_43_method_46_code i = r → decode c.code i = r := fun h => hb hby h
  have N0 := Fr.nil n0
  refine gy (St s₁ m 1 #[vi p1] [(.int 1)]) (fun _ k => XS.iconst X0.here hx rfl (dk d5_0) k) ?_
  obtain ⟨T1, h1, k1, X1, e1, E1, A1, st1⟩ := newP X0 hx hZ (wd hw 21 rfl) e0 (g := (mkF m 1 #[vi p1] [(.int 1)])) rfl (dk d5_1) rfl (by decide) (cap := 1) (by decide) (by decide) (by decide) (by decide)
  obtain ⟨b1, g1⟩ : ∃ z, z = h0.size := ⟨_, rfl⟩
  rw [← g1] at A1 st1
  have sz_b1 : h0.size ≤ b1 := Nat.le_of_eq g1.symm
  have V1 : Arv Z h1 b1 k1 .byte (1 : Int32) [(.int 0)] (.int 0) := (Arv.new A1 (by decide)).pad (pad_rep [] (.int 0) 1)
  have O2 := pr0.ext E1
  have Z2 : n0 ≤ h1.size := Nat.le_trans Z0 E1.1
  refine gy (St T1 m 3 #[vi p1] [(.ref b1)]) st1 ?_
  refine gy (St T1 m 7 #[vi p1] [(.int (p1.toInt8.toInt32)), (.int 0), (.ref b1), (.ref b1)]) (fun _ k => XS.dup X1.here hx rfl (dk d5_3) rfl rfl (XS.iconst X1.here hx rfl (dk d5_4) (XS.iloadN X1.here hx rfl (dk d5_5) rfl (XS.i2b X1.here hx rfl (dk d5_6) rfl k)))) ?_
  obtain ⟨cl3, Ar3, q3, S3, N_3, Hs3, G3⟩ := id V1
  have hin4 : ¬ ((0 : Int32) < 0 ∨ cl3.slots.size ≤ ((0 : Int32)).toNatClampNeg) := inb_of S3 ⟨by decide, by decide⟩
  obtain ⟨T4, h4, X4, e4, W4, st4⟩ := stB X1 hx hZ e1 Ar3 (j := (0 : Int32)) hin4 (g := (mkF m 7 #[vi p1] [(.int (p1.toInt8.toInt32)), (.int 0), (.ref b1), (.ref b1)])) rfl rfl (dk d5_7)
  have O5 := O2.wr W4 (Nat.le_trans Z0 sz_b1)
  have Z5 : n0 ≤ h4.size := Nat.le_trans Z2 (Keep.of_wr W4).1
  have V4 : Arv Z h4 b1 k1 .byte (1 : Int32) [(.int (nar .byte (p1.toInt8.toInt32)))] (.int 0) := Arv.set Ar3 q3 S3 N_3 Hs3 G3 (fits_nar_byte _) W4 0 rfl (Nat.le_of_ble_eq_true rfl)
  have N4 := Fr.snoc X4 N0 (Nat.le_trans Z0 sz_b1)
  refine gy (St T4 m 8 #[vi p1] [(.ref b1)]) st4 ?_
  refine Go.ret X4 hx hlk (t := (.array .byte)) hret rfl (Or.inr (Or.inr (Or.inr (Or.inr ⟨rfl, rfl, rfl⟩)))) (dk d5_8) (by decide) (by decide) ?_
  rw [e4]
  exact ⟨b1, k1, rfl, N4, (((Keep.refl h0 []).ext E1).wr W4 (Or.inr (Nat.le_trans (Nat.le_refl _) sz_b1))), V4, (Nat.le_trans (Nat.le_refl _) sz_b1)⟩
theorem ef_rm_sinit (m : MethodId) (x0 : Addr) (x1 : Addr) : entryFrame m #[(.ref x0), (.ref x1), (.int 0)] 3 = mkF m 0 #[vr x0, vr x1, vi 0] [] := by first | (simp [entryFrame, mkF, argsToLocals, Value.category]; done) | rfl
theorem d6_0 : decode jdk_42_method_151_code 0 = .ok (.aload_n 0, 1) := by decide +kernel
theorem d6_1 : decode jdk_42_method_151_code 1 = .ok (.invokespecial 1, 3) := by decide +kernel
theorem d6_4 : decode jdk_42_method_151_code 4 = .ok (.aload_n 0, 1) := by decide +kernel
theorem d6_5 : decode jdk_42_method_151_code 5 = .ok (.aload_n 1, 1) := by decide +kernel
theorem d6_6 : decode jdk_42_method_151_code 6 = .ok (.putfield 9, 3) := by decide +kernel
theorem d6_9 : decode jdk_42_method_151_code 9 = .ok (.aload_n 0, 1) := by decide +kernel
theorem d6_10 : decode jdk_42_method_151_code 10 = .ok (.iload_n 2, 1) := by decide +kernel
theorem d6_11 : decode jdk_42_method_151_code 11 = .ok (.putfield 15, 3) := by decide +kernel
theorem d6_14 : decode jdk_42_method_151_code 14 = .ok (.return_, 1) := by decide +kernel
theorem pn_java_lang_String : plainName "java/lang/String" = true := by first | (simp [plainName, overriddenIn]; done) | decide +kernel
def Q_rm_sinit (Z : State) (a1 : Addr) (v1 : Addr) (h0 : Heap) (n0 : Nat) (vv : Option Value) (h : Heap) (L : List Loc) : Prop := vv = none ∧ Fr n0 L ∧ Keep h0 h [a1] ∧ Exa Z h a1 "java/lang/String" ∧ Fld Z h a1 "java/lang/String" "value" "[B" (.ref v1) ∧ Fld Z h a1 "java/lang/String" "coder" "B" (.int 0)
set_option maxRecDepth 65536 in
set_option maxHeartbeats 40000000 in
theorem rm_sinit (l : Launch) (Z : State) (a0 : Array Value) (hw : HW a0 Z) (ws : List Jvm.Cond) (a1 : Addr) (v1 : Addr) (h0 : Heap) (n0 : Nat) (Z0 : n0 ≤ h0.size) (pr0 : Old Z n0 h0) (pr1 : Exa Z h0 a1 "java/lang/String") (pr2 : Fld Z h0 a1 "java/lang/String" "value" "[B" .null) (pr3 : Fld Z h0 a1 "java/lang/String" "coder" "B" (.int 0)) (pr4 : n0 ≤ a1) :
    Met l Z Y19 jdk_42_method_151_code 3 none ws ({ frames := 1, cells := 0, slots := 0, locals := 12 } : Room) #[(.ref a1), (.ref v1), (.int 0)] h0 (Q_rm_sinit Z a1 v1 h0 n0) := by
  refine Met.enter (f0 := fun m => mkF m 0 #[vr a1, vr v1, vi 0] []) (plainFor_of_name pn_java_lang_String) (fun m => ef_rm_sinit m a1 v1) ?_
  intro p e s m below meth c s₁ hx hby hml hown hnm hret hlk hZ X0 e0
  have hown : s.vm.findClass "java/lang/String" = some m.cls := hown
  have hnm : meth.name = "<init>" := hnm
  have hml : c.maxLocals = 3 := hml
  have dk : ∀ {i : Nat} {r : Except DecodeError (Instr × Nat)}, decode jdk_42_method_151_code i = r → decode c.code i = r := fun h => hb hby h
  have N0 := Fr.nil n0
  refine gy (St s₁ m 1 #[vr a1, vr v1, vi 0] [(.ref a1)]) (fun _ k => XS.aloadN X0.here hx rfl (dk d6_0) rfl rfl k) ?_
  obtain ⟨T6, X6, e6, st6⟩ := initO X0 hx hZ hown (wd hw 26 rfl) (wd hw 27 rfl) (wd hw 28 rfl) e0 (g := (mkF m 1 #[vr a1, vr v1, vi 0] [(.ref a1)])) rfl (by rw [hml]; rfl) rfl (dk d6_1) (by decide) (W := 0) (by show 2 * 0 + _ ≤ _; exact Nat.le_of_eq rfl) (by decide)
  refine gy (St T6 m 4 #[vr a1, vr v1, vi 0] []) st6 ?_
  refine gy (St T6 m 6 #[vr a1, vr v1, vi 0] [(.ref v1), (.ref a1)]) (fun _ k => XS.aloadN X6.here hx rfl (dk d6_4) rfl rfl (XS.aloadN X6.here hx rfl (dk d6_5) rfl rfl k)) ?_
  obtain ⟨T7, h7, X7, e7, W7, st7⟩ := putF X6 hx hZ hown (host := "") (Or.inl (wd hw 29 rfl)) Via.refl e6 pr2 pr1 (Or.inr ⟨(wd hw 30 rfl), rfl, hnm⟩) (wd hw 17 rfl) (ty := (.array .byte)) (by decide) rfl rfl (g := (mkF m 6 #[vr a1, vr v1, vi 0] [(.ref v1), (.ref a1)])) rfl rfl (dk d6_6)
  have N7 := Fr.snoc X7 N0 pr4
  have O8 := pr0.wr W7 pr4
  have Z8 : n0 ≤ h7.size := Nat.le_trans Z0 (Keep.of_wr W7).1
  have F7 := pr2.same W7
  refine gy (St T7 m 9 #[vr a1, vr v1, vi 0] []) st7 ?_
  refine gy (St T7 m 11 #[vr a1, vr v1, vi 0] [(.int 0), (.ref a1)]) (fun _ k => XS.aloadN X7.here hx rfl (dk d6_9) rfl rfl (XS.iloadN X7.here hx rfl (dk d6_10) rfl k)) ?_
  have f9 := (pr3.other W7 (Or.inr (slot_ne (Or.inr (wd hw 32 rfl)) (Or.inr (wd hw 30 rfl)) (by decide) (t := .byte) (t' := (.array .byte)) (by decide) (by decide))))
  obtain ⟨T10, h10, X10, e10, W10, st10⟩ := putFN X7 hx hZ hown (wd hw 31 rfl) Via.refl e7 f9 (pr1.wr W7) (Or.inr ⟨(wd hw 32 rfl), rfl, hnm⟩) (wd hw 17 rfl) (ty := .byte) (v' := (.int 0)) (by decide) rfl rfl (g := (mkF m 11 #[vr a1, vr v1, vi 0] [(.int 0), (.ref a1)])) rfl rfl (dk d6_11)
  have N10 := Fr.snoc X10 N7 pr4
  have O11 := O8.wr W10 pr4
  have Z11 : n0 ≤ h10.size := Nat.le_trans Z8 (Keep.of_wr W10).1
  have F10 := f9.same W10
  refine gy (St T10 m 14 #[vr a1, vr v1, vi 0] []) st10 ?_
  refine Go.retV X10 hx hlk hret (dk d6_14) (by decide) (by decide) ?_
  rw [e10]
  exact ⟨rfl, N10, (((Keep.refl h0 [a1]).wr W7 (Or.inl (List.mem_of_getElem? (i := 0) rfl))).wr W10 (Or.inl (List.mem_of_getElem? (i := 0) rfl))), ((pr1.wr W7).wr W10), (F7.other W10 (Or.inr (slot_ne (Or.inr (wd hw 30 rfl)) (Or.inr (wd hw 32 rfl)) (by decide) (t := (.array .byte)) (t' := .byte) (by decide) (by decide)))), F10⟩
theorem ef_rm_valueOfC (m : MethodId) (x0 : Int32) : entryFrame m #[(.int x0)] 1 = mkF m 0 #[vi x0] [] := by first | (simp [entryFrame, mkF, argsToLocals, Value.category]; done) | rfl
theorem d3_0 : decode jdk_42_method_139_code 0 = .ok (.getstatic 38, 3) := by decide +kernel
theorem d3_3 : decode jdk_42_method_139_code 3 = .ok (.ifCond .eq 23, 3) := by decide +kernel
theorem d3_6 : decode jdk_42_method_139_code 6 = .ok (.iload_n 0, 1) := by decide +kernel
theorem d3_7 : decode jdk_42_method_139_code 7 = .ok (.invokestatic 1015, 3) := by decide +kernel
theorem pd_0 : parseMethodDescriptor "(C)Z" = some ⟨[.char], some .boolean⟩ := by decide +kernel
theorem d3_10 : decode jdk_42_method_139_code 10 = .ok (.ifCond .eq 16, 3) := by decide +kernel
theorem d3_13 : decode jdk_42_method_139_code 13 = .ok (.new 10, 3) := by decide +kernel
theorem d3_16 : decode jdk_42_method_139_code 16 = .ok (.dup, 1) := by decide +kernel
theorem d3_17 : decode jdk_42_method_139_code 17 = .ok (.iload_n 0, 1) := by decide +kernel
theorem d3_18 : decode jdk_42_method_139_code 18 = .ok (.invokestatic 1018, 3) := by decide +kernel
theorem pd_1 : parseMethodDescriptor "(C)[B" = some ⟨[.char], some (.array .byte)⟩ := by decide +kernel
theorem d3_21 : decode jdk_42_method_139_code 21 = .ok (.iconst 0, 1) := by decide +kernel
theorem d3_22 : decode jdk_42_method_139_code 22 = .ok (.invokespecial 209, 3) := by decide +kernel
theorem pd_2 : parseMethodDescriptor "([BB)V" = some ⟨[(.array .byte), .byte], none⟩ := by decide +kernel
theorem d3_25 : decode jdk_42_method_139_code 25 = .ok (.areturn, 1) := by decide +kernel
def Q_rm_valueOfC (Z : State) (p1 : Int32) (cs : Int32) (h0 : Heap) (n0 : Nat) (vv : Option Value) (h : Heap) (L : List Loc) : Prop := ∃ b : Addr, ∃ t : Addr, ∃ k : ClassId, vv = some (.ref b) ∧ Fr n0 L ∧ Keep h0 h [] ∧ Exa Z h b "java/lang/String" ∧ Fld Z h b "java/lang/String" "value" "[B" (.ref t) ∧ Fld Z h b "java/lang/String" "coder" "B" (.int 0) ∧ Arv Z h t k .byte (1 : Int32) [(.int (nar .byte (p1.toInt8.toInt32)))] (.int 0) ∧ h0.size ≤ b ∧ h0.size ≤ t
set_option maxRecDepth 65536 in
set_option maxHeartbeats 40000000 in
theorem rm_valueOfC (l : Launch) (Z : State) (a0 : Array Value) (hw : HW a0 Z) (ws : List Jvm.Cond) (p1 : Int32) (cs : Int32) (h0 : Heap) (n0 : Nat) (Z0 : n0 ≤ h0.size) (pr0 : Old Z n0 h0) (pr1 : Sta Z Z.heap "java/lang/String" "COMPACT_STRINGS" "Z" (.int cs)) (hcs : ¬ (cs = (0 : Int32))) (q0 : ¬ ((255 : Int32) < p1)) :
    Met l Z Y26 jdk_42_method_139_code 1 (some (.object "java/lang/String")) ws ({ frames := 2, cells := 2, slots := 5, locals := 27 } : Room) #[(.int p1)] h0 (Q_rm_valueOfC Z p1 cs h0 n0) := by
  refine Met.enter (f0 := fun m => mkF m 0 #[vi p1] []) (plainFor_of_name pn_java_lang_String) (fun m => ef_rm_valueOfC m p1) ?_
  intro p e s m below meth c s₁ hx hby hml hown hnm hret hlk hZ X0 e0
  have hown : s.vm.findClass "java/lang/String" = some m.cls := hown
  have hnm : meth.name = "valueOf" := hnm
  have hml : c.maxLocals = 1 := hml
  have dk : ∀ {i : Nat} {r : Except DecodeError (Instr × Nat)}, decode jdk_42_method_139_code i = r → decode c.code i = r := fun h => hb hby h
  have N0 := Fr.nil n0
  obtain ⟨T12, X12, e12, st12⟩ := getS2 X0 hx hZ hown (host := "") (Or.inl (wd hw 11 rfl)) Via.refl e0 (pr1.ext pr0.2) (g := (mkF m 0 #[vi p1] [])) rfl (dk d3_0)
  refine gy (St T12 m 3 #[vi p1] [(.int cs)]) st12 ?_
  refine gy (St T12 m 7 #[vi p1] [(.int p1)]) (fun _ k => XS.ifNo X12.here hx rfl (dk d3_3) rfl ((if0 _ _).trans (feq hcs).1) (XS.iloadN X12.here hx rfl (dk d3_6) rfl k)) ?_
  obtain ⟨_, _, ⟨T13, L13, k13, n13⟩, -, X13, ⟨Lc13, hQ13, l13, y13, z13⟩, st13⟩ := Jvm.LawKit.callS X12 hx (y := Y32) hown (mvT hZ (wd hw 12 rfl)) (mvT hZ (wd hw 13 rfl)) (mvT hZ (wd hw 14 rfl)) (mvT hZ (wd hw 15 rfl)) (by decide) (backOf (W := 0) (rm_canEnc l Z a0 hw [] p1 h0 n0 Z0 q0) hZ (wd hw 15 rfl) (wd hw 14 rfl) (by decide) (by decide)) (g := (mkF m 7 #[vi p1] [(.int p1)])) rfl (by rw [hml]; rfl) (argsL := [(.int p1)]) (rest := []) (lenOf pd_0 rfl) rfl (by show 2 * 0 + _ ≤ _; exact Nat.le_of_eq rfl) (dk d3_7) (fun _ _ => ⟨rfl, e12, Nat.le_of_ble_eq_true rfl, Nat.le_of_ble_eq_true rfl⟩)
  dsimp only [Pt.U, Pt.locs, Pt.cells, Pt.slots] at X13 l13 y13 z13 st13 hQ13
  subst l13 y13 z13
  obtain ⟨rfl, Nq13, hh13⟩ := hQ13
  have N13 := Fr.app N0 Nq13
  have X13 : Stand p l e _ _ m _ below meth c T13 _ 0 0 := X13
  refine gy (St T13 m 10 #[vi p1] [(.int 1)]) (fun _ k => st13 _ k) ?_
  refine gy (St T13 m 13 #[vi p1] []) (fun _ k => XS.ifNo X13.here hx rfl (dk d3_10) rfl ((if0 _ _).trans (feq (by decide : ¬ ((1 : Int32) = (0 : Int32)))).1) k) ?_
  obtain ⟨T14, h14, X14, e14, E14, A14, D14, -, st14⟩ := newO X13 hx hZ hown (wd hw 16 rfl) (wd hw 17 rfl) (wd hw 9 rfl) hh13 (g := (mkF m 13 #[vi p1] [])) rfl (dk d3_13) (by decide) (by decide)
  obtain ⟨b14, g14⟩ : ∃ z, z = h0.size := ⟨_, rfl⟩
  rw [← g14] at A14 D14 st14
  have sz_b14 : h0.size ≤ b14 := Nat.le_of_eq g14.symm
  have O15 := pr0.ext E14
  have Z15 : n0 ≤ h14.size := Nat.le_trans Z0 E14.1
  have F16 : Fld Z h14 b14 "java/lang/String" "value" "[B" .null := D14 (Or.inr (wd hw 30 rfl)) (ty := (.array .byte)) (by decide)
  have F17 : Fld Z h14 b14 "java/lang/String" "coder" "B" (.int 0) := D14 (Or.inr (wd hw 32 rfl)) (ty := .byte) (by decide)
  refine gy (St T14 m 16 #[vi p1] [(.ref b14)]) st14 ?_
  refine gy (St T14 m 18 #[vi p1] [(.int p1), (.ref b14), (.ref b14)]) (fun _ k => XS.dup X14.here hx rfl (dk d3_16) rfl rfl (XS.iloadN X14.here hx rfl (dk d3_17) rfl k)) ?_
  obtain ⟨_, _, ⟨T18, L18, k18, n18⟩, -, X18, ⟨Lc18, hQ18, l18, y18, z18⟩, st18⟩ := Jvm.LawKit.callS X14 hx (y := Y33) hown (mvT hZ (wd hw 18 rfl)) (mvT hZ (wd hw 19 rfl)) (mvT hZ (wd hw 14 rfl)) (mvT hZ (wd hw 20 rfl)) (by decide) (backOf (W := 2) (rm_toBytes l Z a0 hw [] p1 h14 n0 Z15 O15) hZ (wd hw 20 rfl) (wd hw 14 rfl) (by decide) (by decide)) (g := (mkF m 18 #[vi p1] [(.int p1), (.ref b14), (.ref b14)])) rfl (by rw [hml]; rfl) (argsL := [(.int p1)]) (rest := [(.ref b14), (.ref b14)]) (lenOf pd_1 rfl) rfl (by show 2 * 0 + _ ≤ _; exact Nat.le_of_eq rfl) (dk d3_18) (fun _ _ => ⟨rfl, e14, Nat.le_of_ble_eq_true rfl, Nat.le_of_ble_eq_true rfl⟩)
  dsimp only [Pt.U, Pt.locs, Pt.cells, Pt.slots] at X18 l18 y18 z18 st18 hQ18
  subst l18 y18 z18
  obtain ⟨b18, k18, rfl, Nq18, K18, p18_0, p18_1⟩ := hQ18
  have N18 := Fr.app N13 Nq18
  have X18 : Stand p l e _ _ m _ below meth c T18 _ 2 5 := X18
  have O19 := O15.keep K18 all0
  have Z19 : n0 ≤ T18.heap.size := Nat.le_trans Z15 K18.1
  have sz_b18 : h14.size ≤ b18 := p18_1
  refine gy (St T18 m 21 #[vi p1] [(.ref b18), (.ref b14), (.ref b14)]) (fun _ k => st18 _ k) ?_
  refine gy (St T18 m 22 #[vi p1] [(.int 0), (.ref b18), (.ref b14), (.ref b14)]) (fun _ k => XS.iconst X18.here hx rfl (dk d3_21) k) ?_
  obtain ⟨_, _, ⟨T20, L20, k20, n20⟩, -, X20, ⟨Lc20, hQ20, l20, y20, z20⟩, st20⟩ := X18.specialBack hx (y := Y19) rfl hown (mvT hZ (wd hw 22 rfl)) (mvT hZ (wd hw 23 rfl)) (mvT hZ (wd hw 25 rfl)) (by decide) (backOf (W := 1) (rm_sinit l Z a0 hw [] b14 b18 T18.heap n0 Z19 O19 (A14.keep K18) (F16.keep K18 nin0) (F17.keep K18 nin0) (Nat.le_trans Z0 sz_b14)) hZ (wd hw 25 rfl) (wd hw 9 rfl) (by decide) (by decide)) (g := (mkF m 22 #[vi p1] [(.int 0), (.ref b18), (.ref b14), (.ref b14)])) rfl (by rw [hml]; rfl) (Steps.refl _) (a := b14) (argsL := [(.ref b18), (.int 0)]) (rest := [(.ref b14)]) (lenOf pd_2 rfl) rfl (by show 2 * 0 + _ ≤ _; exact Nat.le_of_eq rfl) (dk d3_22) (fun _ _ => ⟨rfl, rfl, Nat.le_of_ble_eq_true rfl, Nat.le_of_ble_eq_true rfl⟩)
  dsimp only [Pt.U, Pt.locs, Pt.cells, Pt.slots] at X20 l20 y20 z20 st20 hQ20
  subst l20 y20 z20
  obtain ⟨rfl, Nq20, K20, p20_0, p20_1, p20_2⟩ := hQ20
  have N20 := Fr.app N18 Nq20
  have X20 : Stand p l e _ _ m _ below meth c T20 _ 2 5 := X20
  have O21 := O19.keep K20 (allS (Nat.le_trans Z0 sz_b14) all0)
  have Z21 : n0 ≤ T20.heap.size := Nat.le_trans Z19 K20.1
  refine gy (St T20 m 25 #[vi p1] [(.ref b14)]) (fun _ k => st20.trans k) ?_
  refine Go.ret X20 hx hlk (t := (.object "java/lang/String")) hret rfl (Or.inr (Or.inr (Or.inr (Or.inr ⟨rfl, rfl, rfl⟩)))) (dk d3_25) (by decide) (by decide) ?_
  exact ⟨b14, b18, k18, rfl, N20, ((((Keep.refl h0 []).ext E14).trans K18 all0).trans K20 (allS (Or.inr (Nat.le_trans (Nat.le_refl _) sz_b14)) all0)), p20_0, p20_1, p20_2, (p18_0.keep K20 (ninS (Ne.symm (Nat.ne_of_lt (Nat.lt_of_lt_of_le A14.lt sz_b18))) nin0)), (Nat.le_trans (Nat.le_refl _) sz_b14), (Nat.le_trans (Nat.le_trans (Nat.le_refl _) E14.1) sz_b18)⟩
theorem ef_rm_cmp5_2 (m : MethodId) (x0 : Addr) (x2 : Addr) : entryFrame m #[(.ref x0), (.int 0), (.ref x2), (.int 0), (.int 2)] 7 = mkF m 0 #[vr x0, vi 0, vr x2, vi 0, vi 2, .unset, .unset] [] := by first | (simp [entryFrame, mkF, argsToLocals, Value.category]; done) | rfl
theorem d12_0 : decode jdk_52_method_21_code 0 = .ok (.iconst 0, 1) := by decide +kernel
theorem d12_1 : decode jdk_52_method_21_code 1 = .ok (.istore 5, 2) := by decide +kernel
theorem d12_3 : decode jdk_52_method_21_code 3 = .ok (.iload 5, 2) := by decide +kernel
theorem d12_5 : decode jdk_52_method_21_code 5 = .ok (.iload 4, 2) := by decide +kernel
theorem d12_7 : decode jdk_52_method_21_code 7 = .ok (.if_icmp .ge 37, 3) := by decide +kernel
theorem d12_10 : decode jdk_52_method_21_code 10 = .ok (.aload_n 0, 1) := by decide +kernel
theorem d12_11 : decode jdk_52_method_21_code 11 = .ok (.iload_n 1, 1) := by decide +kernel
theorem d12_12 : decode jdk_52_method_21_code 12 = .ok (.caload, 1) := by decide +kernel
theorem d12_13 : decode jdk_52_method_21_code 13 = .ok (.istore 6, 2) := by decide +kernel
theorem d12_15 : decode jdk_52_method_21_code 15 = .ok (.iload 6, 2) := by decide +kernel
theorem d12_17 : decode jdk_52_method_21_code 17 = .ok (.sipush 255, 3) := by decide +kernel
theorem d12_20 : decode jdk_52_method_21_code 20 = .ok (.if_icmp .le 6, 3) := by decide +kernel
theorem d12_26 : decode jdk_52_method_21_code 26 = .ok (.aload_n 2, 1) := by decide +kernel
theorem d12_27 : decode jdk_52_method_21_code 27 = .ok (.iload_n 3, 1) := by decide +kernel
theorem d12_28 : decode jdk_52_method_21_code 28 = .ok (.iload 6, 2) := by decide +kernel
theorem d12_30 : decode jdk_52_method_21_code 30 = .ok (.i2b, 1) := by decide +kernel
theorem d12_31 : decode jdk_52_method_21_code 31 = .ok (.bastore, 1) := by decide +kernel
theorem d12_32 : decode jdk_52_method_21_code 32 = .ok (.iinc 1 1, 3) := by decide +kernel
theorem d12_35 : decode jdk_52_method_21_code 35 = .ok (.iinc 3 1, 3) := by decide +kernel
theorem d12_38 : decode jdk_52_method_21_code 38 = .ok (.iinc 5 1, 3) := by decide +kernel
theorem d12_41 : decode jdk_52_method_21_code 41 = .ok (.goto (-38), 3) := by decide +kernel
theorem d12_44 : decode jdk_52_method_21_code 44 = .ok (.iload 4, 2) := by decide +kernel
theorem d12_46 : decode jdk_52_method_21_code 46 = .ok (.ireturn, 1) := by decide +kernel
theorem pn_java_lang_StringUTF16 : plainName "java/lang/StringUTF16" = true := by first | (simp [plainName, overriddenIn]; done) | decide +kernel
def Q_rm_cmp5_2 (Z : State) (a1 : Addr) (b1 : Addr) (ka : ClassId) (kb : ClassId) (c0 : Int32) (c1 : Int32) (h0 : Heap) (n0 : Nat) (vv : Option Value) (h : Heap) (L : List Loc) : Prop := vv = some (.int 2) ∧ Fr n0 L ∧ Keep h0 h [b1] ∧ Arv Z h b1 kb .byte (2 : Int32) [(.int (nar .byte (c0.toInt8.toInt32))), (.int (nar .byte (c1.toInt8.toInt32)))] (.int 0)
set_option maxRecDepth 65536 in
set_option maxHeartbeats 40000000 in
theorem rm_cmp5_2 (l : Launch) (Z : State) (a0 : Array Value) (hw : HW a0 Z) (ws : List Jvm.Cond) (a1 : Addr) (b1 : Addr) (ka : ClassId) (kb : ClassId) (c0 : Int32) (c1 : Int32) (h0 : Heap) (n0 : Nat) (Z0 : n0 ≤ h0.size) (pr0 : Old Z n0 h0) (pr1 : Arv Z h0 a1 ka .char (2 : Int32) [(.int c0), (.int c1)] (.int 0)) (pr2 : Arv Z h0 b1 kb .byte (2 : Int32) [(.int 0), (.int 0)] (.int 0)) (pr3 : n0 ≤ b1) (pr4 : a1 ≠ b1) (hc0 : ¬ ((255 : Int32) < c0)) (hc1 : ¬ ((255 : Int32) < c1)) :
    Met l Z Y36 jdk_52_method_21_code 7 (some .int) ws ({ frames := 0, cells := 0, slots := 0, locals := 0 } : Room) #[(.ref a1), (.int 0), (.ref b1), (.int 0), (.int 2)] h0 (Q_rm_cmp5_2 Z a1 b1 ka kb c0 c1 h0 n0) := by
  refine Met.enter (f0 := fun m => mkF m 0 #[vr a1, vi 0, vr b1, vi 0, vi 2, .unset, .unset] []) (plainFor_of_name pn_java_lang_StringUTF16) (fun m => ef_rm_cmp5_2 m a1 b1) ?_
  intro p e s m below meth c s₁ hx hby hml hown hnm hret hlk hZ X0 e0
  have hown : s.vm.findClass "java/lang/StringUTF16" = some m.cls := hown
  have hnm : meth.name = "compress" := hnm
  have hml : c.maxLocals = 7 := hml
  have dk : ∀ {i : Nat} {r : Except DecodeError (Instr × Nat)}, decode jdk_52_method_21_code i = r → decode c.code i = r := fun h => hb hby h
  have N0 := Fr.nil n0
  refine gy (St s₁ m 12 #[vr a1, vi 0, vr b1, vi 0, vi 2, vi 0, .unset] [(.int 0), (.ref a1)]) (fun _ k => XS.iconst X0.here hx rfl (dk d12_0) (XS.istore X0.here hx rfl (dk d12_1) rfl (l' := #[vr a1, vi 0, vr b1, vi 0, vi 2, vi 0, .unset]) rfl (XS.iload X0.here hx rfl (dk d12_3) rfl (XS.iload X0.here hx rfl (dk d12_5) rfl (XS.icmpNo X0.here hx rfl (dk d12_7) rfl (tlt (by decide : (0 : Int32) < (2 : Int32))).2.1 (XS.aloadN X0.here hx rfl (dk d12_10) rfl rfl (XS.iloadN X0.here hx rfl (dk d12_11) rfl k))))))) ?_
  obtain ⟨cl22, Ar22, q22, S22, N_22, Hs22, G22⟩ := id pr1
  have hin23 : ¬ ((0 : Int32) < 0 ∨ cl22.slots.size ≤ ((0 : Int32)).toNatClampNeg) := inb_of S22 ⟨by decide, by decide⟩
  have hat23 : cl22.slots[((0 : Int32)).toNatClampNeg]? = some (.int c0) := Hs22.at hin23 rfl
  refine gy (St s₁ m 13 #[vr a1, vi 0, vr b1, vi 0, vi 2, vi 0, .unset] [(.int c0)]) (fun _ k => X0.caload hx (j := (0 : Int32)) (v := (.int c0)) (by rw [e0]; exact Ar22.1) (State.isArrayOf_alike hZ.alike Ar22.2.1) Ar22.2.2 hin23 hat23 (g := (mkF m 12 #[vr a1, vi 0, vr b1, vi 0, vi 2, vi 0, .unset] [(.int 0), (.ref a1)])) rfl rfl (dk d12_12) _ k) ?_
  refine gy (St s₁ m 31 #[vr a1, vi 0, vr b1, vi 0, vi 2, vi 0, vi c0] [(.int (c0.toInt8.toInt32)), (.int 0), (.ref b1)]) (fun _ k => XS.istore X0.here hx rfl (dk d12_13) rfl (l' := #[vr a1, vi 0, vr b1, vi 0, vi 2, vi 0, vi c0]) rfl (XS.iload X0.here hx rfl (dk d12_15) rfl (XS.sipush X0.here hx rfl (dk d12_17) (XS.icmpYes X0.here hx rfl (pc0 := 20) (pc' := 26) rfl (dk d12_20) rfl (flt hc0).2.2.2 (by decide) (by decide) (XS.aloadN X0.here hx rfl (dk d12_26) rfl rfl (XS.iloadN X0.here hx rfl (dk d12_27) rfl (XS.iload X0.here hx rfl (dk d12_28) rfl (XS.i2b X0.here hx rfl (dk d12_30) rfl k)))))))) ?_
  obtain ⟨cl24, Ar24, q24, S24, N_24, Hs24, G24⟩ := id pr2
  have hin25 : ¬ ((0 : Int32) < 0 ∨ cl24.slots.size ≤ ((0 : Int32)).toNatClampNeg) := inb_of S24 ⟨by decide, by decide⟩
  obtain ⟨T25, h25, X25, e25, W25, st25⟩ := stB X0 hx hZ e0 Ar24 (j := (0 : Int32)) hin25 (g := (mkF m 31 #[vr a1, vi 0, vr b1, vi 0, vi 2, vi 0, vi c0] [(.int (c0.toInt8.toInt32)), (.int 0), (.ref b1)])) rfl rfl (dk d12_31)
  have O26 := pr0.wr W25 pr3
  have Z26 : n0 ≤ h25.size := Nat.le_trans Z0 (Keep.of_wr W25).1
  have V25 : Arv Z h25 b1 kb .byte (2 : Int32) [(.int (nar .byte (c0.toInt8.toInt32))), (.int 0)] (.int 0) := Arv.set Ar24 q24 S24 N_24 Hs24 G24 (fits_nar_byte _) W25 0 rfl (Nat.le_of_ble_eq_true rfl)
  have N25 := Fr.snoc X25 N0 pr3
  refine gy (St T25 m 32 #[vr a1, vi 0, vr b1, vi 0, vi 2, vi 0, vi c0] []) st25 ?_
  refine gy (St T25 m 11 #[vr a1, vi 1, vr b1, vi 1, vi 2, vi 1, vi c0] [(.ref a1)]) (fun _ k => XS.iinc X25.here hx rfl (dk d12_32) rfl (l' := #[vr a1, vi 1, vr b1, vi 0, vi 2, vi 0, vi c0]) rfl (XS.iinc X25.here hx rfl (dk d12_35) rfl (l' := #[vr a1, vi 1, vr b1, vi 1, vi 2, vi 0, vi c0]) rfl (XS.iinc X25.here hx rfl (dk d12_38) rfl (l' := #[vr a1, vi 1, vr b1, vi 1, vi 2, vi 1, vi c0]) rfl (XS.goto X25.here hx rfl (pc0 := 41) (pc' := 3) rfl (dk d12_41) (by decide) (by decide) (XS.iload X25.here hx rfl (dk d12_3) rfl (XS.iload X25.here hx rfl (dk d12_5) rfl (XS.icmpNo X25.here hx rfl (dk d12_7) rfl (tlt (by decide : (1 : Int32) < (2 : Int32))).2.1 (XS.aloadN X25.here hx rfl (dk d12_10) rfl rfl k)))))))) ?_
  refine gy (St T25 m 12 #[vr a1, vi 1, vr b1, vi 1, vi 2, vi 1, vi c0] [(.int 1), (.ref a1)]) (fun _ k => XS.iloadN X25.here hx rfl (dk d12_11) rfl k) ?_
  obtain ⟨cl27, Ar27, q27, S27, N_27, Hs27, G27⟩ := id (pr1.other W25 pr4)
  have hin28 : ¬ ((1 : Int32) < 0 ∨ cl27.slots.size ≤ ((1 : Int32)).toNatClampNeg) := inb_of S27 ⟨by decide, by decide⟩
  have hat28 : cl27.slots[((1 : Int32)).toNatClampNeg]? = some (.int c1) := Hs27.at hin28 rfl
  refine gy (St T25 m 13 #[vr a1, vi 1, vr b1, vi 1, vi 2, vi 1, vi c0] [(.int c1)]) (fun _ k => X25.caload hx (j := (1 : Int32)) (v := (.int c1)) (by rw [e25]; exact Ar27.1) (State.isArrayOf_alike hZ.alike Ar27.2.1) Ar27.2.2 hin28 hat28 (g := (mkF m 12 #[vr a1, vi 1, vr b1, vi 1, vi 2, vi 1, vi c0] [(.int 1), (.ref a1)])) rfl rfl (dk d12_12) _ k) ?_
  refine gy (St T25 m 31 #[vr a1, vi 1, vr b1, vi 1, vi 2, vi 1, vi c1] [(.int (c1.toInt8.toInt32)), (.int 1), (.ref b1)]) (fun _ k => XS.istore X25.here hx rfl (dk d12_13) rfl (l' := #[vr a1, vi 1, vr b1, vi 1, vi 2, vi 1, vi c1]) rfl (XS.iload X25.here hx rfl (dk d12_15) rfl (XS.sipush X25.here hx rfl (dk d12_17) (XS.icmpYes X25.here hx rfl (pc0 := 20) (pc' := 26) rfl (dk d12_20) rfl (flt hc1).2.2.2 (by decide) (by decide) (XS.aloadN X25.here hx rfl (dk d12_26) rfl rfl (XS.iloadN X25.here hx rfl (dk d12_27) rfl (XS.iload X25.here hx rfl (dk d12_28) rfl (XS.i2b X25.here hx rfl (dk d12_30) rfl k)))))))) ?_
  obtain ⟨cl29, Ar29, q29, S29, N_29, Hs29, G29⟩ := id V25
  have hin30 : ¬ ((1 : Int32) < 0 ∨ cl29.slots.size ≤ ((1 : Int32)).toNatClampNeg) := inb_of S29 ⟨by decide, by decide⟩
  obtain ⟨T30, h30, X30, e30, W30, st30⟩ := stB X25 hx hZ e25 Ar29 (j := (1 : Int32)) hin30 (g := (mkF m 31 #[vr a1, vi 1, vr b1, vi 1, vi 2, vi 1, vi c1] [(.int (c1.toInt8.toInt32)), (.int 1), (.ref b1)])) rfl rfl (dk d12_31)
  have O31 := O26.wr W30 pr3
  have Z31 : n0 ≤ h30.size := Nat.le_trans Z26 (Keep.of_wr W30).1
  have V30 : Arv Z h30 b1 kb .byte (2 : Int32) [(.int (nar .byte (c0.toInt8.toInt32))), (.int (nar .byte (c1.toInt8.toInt32)))] (.int 0) := Arv.set Ar29 q29 S29 N_29 Hs29 G29 (fits_nar_byte _) W30 1 rfl (Nat.le_of_ble_eq_true rfl)
  have N30 := Fr.snoc X30 N25 pr3
  refine gy (St T30 m 32 #[vr a1, vi 1, vr b1, vi 1, vi 2, vi 1, vi c1] []) st30 ?_
  refine gy (St T30 m 46 #[vr a1, vi 2, vr b1, vi 2, vi 2, vi 2, vi c1] [(.int 2)]) (fun _ k => XS.iinc X30.here hx rfl (dk d12_32) rfl (l' := #[vr a1, vi 2, vr b1, vi 1, vi 2, vi 1, vi c1]) rfl (XS.iinc X30.here hx rfl (dk d12_35) rfl (l' := #[vr a1, vi 2, vr b1, vi 2, vi 2, vi 1, vi c1]) rfl (XS.iinc X30.here hx rfl (dk d12_38) rfl (l' := #[vr a1, vi 2, vr b1, vi 2, vi 2, vi 2, vi c1]) rfl (XS.goto X30.here hx rfl (pc0 := 41) (pc' := 3) rfl (dk d12_41) (by decide) (by decide) (XS.iload X30.here hx rfl (dk d12_3) rfl (XS.iload X30.here hx rfl (dk d12_5) rfl (XS.icmpYes X30.here hx rfl (pc0 := 7) (pc' := 44) rfl (dk d12_7) rfl (flt (by decide : ¬ ((2 : Int32) < (2 : Int32)))).2.1 (by decide) (by decide) (XS.iload X30.here hx rfl (dk d12_44) rfl k)))))))) ?_
  refine Go.ret X30 hx hlk (t := .int) hret rfl (Or.inl ⟨rfl, by simp, _, rfl⟩) (dk d12_46) (by decide) (by decide) ?_
  rw [e30]
  exact ⟨rfl, N30, (((Keep.refl h0 [b1]).wr W25 (Or.inl (List.mem_of_getElem? (i := 0) rfl))).wr W30 (Or.inl (List.mem_of_getElem? (i := 0) rfl))), V30⟩
theorem ef_rm_cmp3_2 (m : MethodId) (x0 : Addr) : entryFrame m #[(.ref x0), (.int 0), (.int 2)] 6 = mkF m 0 #[vr x0, vi 0, vi 2, .unset, .unset, .unset] [] := by first | (simp [entryFrame, mkF, argsToLocals, Value.category]; done) | rfl
theorem d11_0 : decode jdk_52_method_16_code 0 = .ok (.iload_n 2, 1) := by decide +kernel
theorem d11_1 : decode jdk_52_method_16_code 1 = .ok (.newarray .byte, 2) := by decide +kernel
theorem d11_3 : decode jdk_52_method_16_code 3 = .ok (.astore_n 3, 1) := by decide +kernel
theorem d11_4 : decode jdk_52_method_16_code 4 = .ok (.aload_n 0, 1) := by decide +kernel
theorem d11_5 : decode jdk_52_method_16_code 5 = .ok (.iload_n 1, 1) := by decide +kernel
theorem d11_6 : decode jdk_52_method_16_code 6 = .ok (.aload_n 3, 1) := by decide +kernel
theorem d11_7 : decode jdk_52_method_16_code 7 = .ok (.iconst 0, 1) := by decide +kernel
theorem d11_8 : decode jdk_52_method_16_code 8 = .ok (.iload_n 2, 1) := by decide +kernel
theorem d11_9 : decode jdk_52_method_16_code 9 = .ok (.invokestatic 115, 3) := by decide +kernel
theorem pd_3 : parseMethodDescriptor "([CI[BII)I" = some ⟨[(.array .char), .int, (.array .byte), .int, .int], some .int⟩ := by decide +kernel
theorem d11_12 : decode jdk_52_method_16_code 12 = .ok (.istore 4, 2) := by decide +kernel
theorem d11_14 : decode jdk_52_method_16_code 14 = .ok (.iload 4, 2) := by decide +kernel
theorem d11_16 : decode jdk_52_method_16_code 16 = .ok (.iload_n 2, 1) := by decide +kernel
theorem d11_17 : decode jdk_52_method_16_code 17 = .ok (.if_icmp .eq 40, 3) := by decide +kernel
theorem d11_57 : decode jdk_52_method_16_code 57 = .ok (.aload_n 3, 1) := by decide +kernel
theorem d11_58 : decode jdk_52_method_16_code 58 = .ok (.areturn, 1) := by decide +kernel
def Q_rm_cmp3_2 (Z : State) (a1 : Addr) (ka : ClassId) (c0 : Int32) (c1 : Int32) (h0 : Heap) (n0 : Nat) (vv : Option Value) (h : Heap) (L : List Loc) : Prop := ∃ b : Addr, ∃ k : ClassId, vv = some (.ref b) ∧ Fr n0 L ∧ Keep h0 h [] ∧ Arv Z h b k .byte (2 : Int32) [(.int (nar .byte (c0.toInt8.toInt32))), (.int (nar .byte (c1.toInt8.toInt32)))] (.int 0) ∧ h0.size ≤ b
set_option maxRecDepth 65536 in
set_option maxHeartbeats 40000000 in
theorem rm_cmp3_2 (l : Launch) (Z : State) (a0 : Array Value) (hw : HW a0 Z) (ws : List Jvm.Cond) (a1 : Addr) (ka : ClassId) (c0 : Int32) (c1 : Int32) (h0 : Heap) (n0 : Nat) (Z0 : n0 ≤ h0.size) (pr0 : Old Z n0 h0) (pr1 : Arv Z h0 a1 ka .char (2 : Int32) [(.int c0), (.int c1)] (.int 0)) (hc0 : ¬ ((255 : Int32) < c0)) (hc1 : ¬ ((255 : Int32) < c1)) :
    Met l Z Y35 jdk_52_method_16_code 6 (some (.array .byte)) ws ({ frames := 1, cells := 1, slots := 2, locals := 18 } : Room) #[(.ref a1), (.int 0), (.int 2)] h0 (Q_rm_cmp3_2 Z a1 ka c0 c1 h0 n0) := by
  refine Met.enter (f0 := fun m => mkF m 0 #[vr a1, vi 0, vi 2, .unset, .unset, .unset] []) (plainFor_of_name pn_java_lang_StringUTF16) (fun m => ef_rm_cmp3_2 m a1) ?_
  intro p e s m below meth c s₁ hx hby hml hown hnm hret hlk hZ X0 e0
  have hown : s.vm.findClass "java/lang/StringUTF16" = some m.cls := hown
  have hnm : meth.name = "compress" := hnm
  have hml : c.maxLocals = 6 := hml
  have dk : ∀ {i : Nat} {r : Except DecodeError (Instr × Nat)}, decode jdk_52_method_16_code i = r → decode c.code i = r := fun h => hb hby h
  have N0 := Fr.nil n0
  refine gy (St s₁ m 1 #[vr a1, vi 0, vi 2, .unset, .unset, .unset] [(.int 2)]) (fun _ k => XS.iloadN X0.here hx rfl (dk d11_0) rfl k) ?_
  obtain ⟨T32, h32, k32, X32, e32, E32, A32, st32⟩ := newP X0 hx hZ (wd hw 21 rfl) e0 (g := (mkF m 1 #[vr a1, vi 0, vi 2, .unset, .unset, .unset] [(.int 2)])) rfl (dk d11_1) rfl (by decide) (cap := 2) (by decide) (by decide) (by decide) (by decide)
  obtain ⟨b32, g32⟩ : ∃ z, z = h0.size := ⟨_, rfl⟩
  rw [← g32] at A32 st32
  have sz_b32 : h0.size ≤ b32 := Nat.le_of_eq g32.symm
  have V32 : Arv Z h32 b32 k32 .byte (2 : Int32) [(.int 0), (.int 0)] (.int 0) := (Arv.new A32 (by decide)).pad (pad_rep [] (.int 0) 2)
  have O33 := pr0.ext E32
  have Z33 : n0 ≤ h32.size := Nat.le_trans Z0 E32.1
  refine gy (St T32 m 3 #[vr a1, vi 0, vi 2, .unset, .unset, .unset] [(.ref b32)]) st32 ?_
  refine gy (St T32 m 9 #[vr a1, vi 0, vi 2, vr b32, .unset, .unset] [(.int 2), (.int 0), (.ref b32), (.int 0), (.ref a1)]) (fun _ k => XS.astoreN X32.here hx rfl (dk d11_3) rfl rfl (l' := #[vr a1, vi 0, vi 2, vr b32, .unset, .unset]) rfl (XS.aloadN X32.here hx rfl (dk d11_4) rfl rfl (XS.iloadN X32.here hx rfl (dk d11_5) rfl (XS.aloadN X32.here hx rfl (dk d11_6) rfl rfl (XS.iconst X32.here hx rfl (dk d11_7) (XS.iloadN X32.here hx rfl (dk d11_8) rfl k)))))) ?_
  obtain ⟨_, _, ⟨T34, L34, k34, n34⟩, -, X34, ⟨Lc34, hQ34, l34, y34, z34⟩, st34⟩ := Jvm.LawKit.callS X32 hx (y := Y36) hown (mvT hZ (wd hw 48 rfl)) (mvT hZ (wd hw 49 rfl)) (mvT hZ (wd hw 46 rfl)) (mvT hZ (wd hw 50 rfl)) (by decide) (backOf (W := 0) (rm_cmp5_2 l Z a0 hw [] a1 b32 ka k32 c0 c1 h32 n0 Z33 O33 (pr1.ext E32) V32 (Nat.le_trans Z0 sz_b32) (Nat.ne_of_lt (Nat.lt_of_lt_of_le pr1.lt sz_b32)) hc0 hc1) hZ (wd hw 50 rfl) (wd hw 46 rfl) (by decide) (by decide)) (g := (mkF m 9 #[vr a1, vi 0, vi 2, vr b32, .unset, .unset] [(.int 2), (.int 0), (.ref b32), (.int 0), (.ref a1)])) rfl (by rw [hml]; rfl) (argsL := [(.ref a1), (.int 0), (.ref b32), (.int 0), (.int 2)]) (rest := []) (lenOf pd_3 rfl) rfl (by show 2 * 0 + _ ≤ _; exact Nat.le_of_eq rfl) (dk d11_9) (fun _ _ => ⟨rfl, e32, Nat.le_of_ble_eq_true rfl, Nat.le_of_ble_eq_true rfl⟩)
  dsimp only [Pt.U, Pt.locs, Pt.cells, Pt.slots] at X34 l34 y34 z34 st34 hQ34
  subst l34 y34 z34
  obtain ⟨rfl, Nq34, K34, p34_0⟩ := hQ34
  have N34 := Fr.app N0 Nq34
  have X34 : Stand p l e _ _ m _ below meth c T34 _ 1 2 := X34
  have O35 := O33.keep K34 (allS (Nat.le_trans Z0 sz_b32) all0)
  have Z35 : n0 ≤ T34.heap.size := Nat.le_trans Z33 K34.1
  refine gy (St T34 m 12 #[vr a1, vi 0, vi 2, vr b32, .unset, .unset] [(.int 2)]) (fun _ k => st34 _ k) ?_
  refine gy (St T34 m 58 #[vr a1, vi 0, vi 2, vr b32, vi 2, .unset] [(.ref b32)]) (fun _ k => XS.istore X34.here hx rfl (dk d11_12) rfl (l' := #[vr a1, vi 0, vi 2, vr b32, vi 2, .unset]) rfl (XS.iload X34.here hx rfl (dk d11_14) rfl (XS.iloadN X34.here hx rfl (dk d11_16) rfl (XS.icmpYes X34.here hx rfl (pc0 := 17) (pc' := 57) rfl (dk d11_17) rfl (teq (by decide : (2 : Int32) = (2 : Int32))).1 (by decide) (by decide) (XS.aloadN X34.here hx rfl (dk d11_57) rfl rfl k))))) ?_
  refine Go.ret X34 hx hlk (t := (.array .byte)) hret rfl (Or.inr (Or.inr (Or.inr (Or.inr ⟨rfl, rfl, rfl⟩)))) (dk d11_58) (by decide) (by decide) ?_
  exact ⟨b32, k32, rfl, N34, (((Keep.refl h0 []).ext E32).trans K34 (allS (Or.inr (Nat.le_trans (Nat.le_refl _) sz_b32)) all0)), p34_0, (Nat.le_trans (Nat.le_refl _) sz_b32)⟩
theorem ef_rm_cfal_2 (m : MethodId) (x0 : Addr) : entryFrame m #[(.ref x0), (.int 2)] 2 = mkF m 0 #[vr x0, vi 2] [] := by first | (simp [entryFrame, mkF, argsToLocals, Value.category]; done) | rfl
theorem d13_0 : decode jdk_52_method_15_code 0 = .ok (.iload_n 1, 1) := by decide +kernel
theorem d13_1 : decode jdk_52_method_15_code 1 = .ok (.aload_n 0, 1) := by decide +kernel
theorem d13_2 : decode jdk_52_method_15_code 2 = .ok (.arraylength, 1) := by decide +kernel
theorem d13_3 : decode jdk_52_method_15_code 3 = .ok (.isub, 1) := by decide +kernel
theorem d13_4 : decode jdk_52_method_15_code 4 = .ok (.bipush 31, 2) := by decide +kernel
theorem d13_6 : decode jdk_52_method_15_code 6 = .ok (.iushr, 1) := by decide +kernel
theorem d13_7 : decode jdk_52_method_15_code 7 = .ok (.i2b, 1) := by decide +kernel
theorem d13_8 : decode jdk_52_method_15_code 8 = .ok (.ireturn, 1) := by decide +kernel
def Q_rm_cfal_2 (Z : State) (b1 : Addr) (kb : ClassId) (c0 : Int32) (c1 : Int32) (h0 : Heap) (n0 : Nat) (vv : Option Value) (h : Heap) (L : List Loc) : Prop := vv = some (.int 0) ∧ Fr n0 L ∧ h = h0
set_option maxRecDepth 65536 in
set_option maxHeartbeats 40000000 in
theorem rm_cfal_2 (l : Launch) (Z : State) (a0 : Array Value) (hw : HW a0 Z) (ws : List Jvm.Cond) (b1 : Addr) (kb : ClassId) (c0 : Int32) (c1 : Int32) (h0 : Heap) (n0 : Nat) (Z0 : n0 ≤ h0.size) (pr0 : Arv Z h0 b1 kb .byte (2 : Int32) [(.int (nar .byte (c0.toInt8.toInt32))), (.int (nar .byte (c1.toInt8.toInt32)))] (.int 0)) :
    Met l Z Y34 jdk_52_method_15_code 2 (some .byte) ws ({ frames := 0, cells := 0, slots := 0, locals := 0 } : Room) #[(.ref b1), (.int 2)] h0 (Q_rm_cfal_2 Z b1 kb c0 c1 h0 n0) := by
  refine Met.enter (f0 := fun m => mkF m 0 #[vr b1, vi 2] []) (plainFor_of_name pn_java_lang_StringUTF16) (fun m => ef_rm_cfal_2 m b1) ?_
  intro p e s m below meth c s₁ hx hby hml hown hnm hret hlk hZ X0 e0
  have hown : s.vm.findClass "java/lang/StringUTF16" = some m.cls := hown
  have hnm : meth.name = "coderFromArrayLen" := hnm
  have hml : c.maxLocals = 2 := hml
  have dk : ∀ {i : Nat} {r : Except DecodeError (Instr × Nat)}, decode jdk_52_method_15_code i = r → decode c.code i = r := fun h => hb hby h
  have N0 := Fr.nil n0
  refine gy (St s₁ m 2 #[vr b1, vi 2] [(.ref b1), (.int 2)]) (fun _ k => XS.iloadN X0.here hx rfl (dk d13_0) rfl (XS.aloadN X0.here hx rfl (dk d13_1) rfl rfl k)) ?_
  obtain ⟨cl36, Ar36, q36, S36, N_36, Hs36, G36⟩ := id pr0
  refine gy (St s₁ m 3 #[vr b1, vi 2] [(.int 2), (.int 2)]) (fun _ k => X0.arraylength hx (by rw [e0]; exact Ar36.1) (State.isArrayOf_alike hZ.alike Ar36.2.1) (g := (mkF m 2 #[vr b1, vi 2] [(.ref b1), (.int 2)])) rfl rfl (dk d13_2) _ (by rw [len_of S36 N_36]; exact k)) ?_
  refine gy (St s₁ m 8 #[vr b1, vi 2] [(.int 0)]) (fun _ k => XS.isub X0.here hx rfl (dk d13_3) rfl (XS.bipush X0.here hx rfl (dk d13_4) (XS.iushr X0.here hx rfl (dk d13_6) rfl (XS.i2b X0.here hx rfl (dk d13_7) rfl k)))) ?_
  refine Go.ret X0 hx hlk (t := .byte) hret rfl (Or.inl ⟨rfl, by simp, _, rfl⟩) (dk d13_8) (by decide) (by decide) ?_
  rw [e0]
  exact ⟨rfl, N0, rfl⟩
theorem ef_rm_sV_2 (m : MethodId) (x0 : Addr) (x1 : Addr) : entryFrame m #[(.ref x0), (.ref x1), (.int 0), (.int 2), .null] 6 = mkF m 0 #[vr x0, vr x1, vi 0, vi 2, .val .null, .unset] [] := by first | (simp [entryFrame, mkF, argsToLocals, Value.category]; done) | rfl
theorem d10_0 : decode jdk_42_method_149_code 0 = .ok (.aload_n 0, 1) := by decide +kernel
theorem d10_1 : decode jdk_42_method_149_code 1 = .ok (.invokespecial 1, 3) := by decide +kernel
theorem d10_4 : decode jdk_42_method_149_code 4 = .ok (.iload_n 3, 1) := by decide +kernel
theorem d10_5 : decode jdk_42_method_149_code 5 = .ok (.ifCond .ne 22, 3) := by decide +kernel
theorem d10_27 : decode jdk_42_method_149_code 27 = .ok (.getstatic 38, 3) := by decide +kernel
theorem d10_30 : decode jdk_42_method_149_code 30 = .ok (.ifCond .eq 28, 3) := by decide +kernel
theorem d10_33 : decode jdk_42_method_149_code 33 = .ok (.aload_n 1, 1) := by decide +kernel
theorem d10_34 : decode jdk_42_method_149_code 34 = .ok (.iload_n 2, 1) := by decide +kernel
theorem d10_35 : decode jdk_42_method_149_code 35 = .ok (.iload_n 3, 1) := by decide +kernel
theorem d10_36 : decode jdk_42_method_149_code 36 = .ok (.invokestatic 177, 3) := by decide +kernel
theorem pd_4 : parseMethodDescriptor "([CII)[B" = some ⟨[(.array .char), .int, .int], some (.array .byte)⟩ := by decide +kernel
theorem d10_39 : decode jdk_42_method_149_code 39 = .ok (.astore 5, 2) := by decide +kernel
theorem d10_41 : decode jdk_42_method_149_code 41 = .ok (.aload_n 0, 1) := by decide +kernel
theorem d10_42 : decode jdk_42_method_149_code 42 = .ok (.aload 5, 2) := by decide +kernel
theorem d10_44 : decode jdk_42_method_149_code 44 = .ok (.iload_n 3, 1) := by decide +kernel
theorem d10_45 : decode jdk_42_method_149_code 45 = .ok (.invokestatic 47, 3) := by decide +kernel
theorem pd_5 : parseMethodDescriptor "([BI)B" = some ⟨[(.array .byte), .int], some .byte⟩ := by decide +kernel
theorem d10_48 : decode jdk_42_method_149_code 48 = .ok (.putfield 15, 3) := by decide +kernel
theorem d10_51 : decode jdk_42_method_149_code 51 = .ok (.aload_n 0, 1) := by decide +kernel
theorem d10_52 : decode jdk_42_method_149_code 52 = .ok (.aload 5, 2) := by decide +kernel
theorem d10_54 : decode jdk_42_method_149_code 54 = .ok (.putfield 9, 3) := by decide +kernel
theorem d10_57 : decode jdk_42_method_149_code 57 = .ok (.return_, 1) := by decide +kernel
def Q_rm_sV_2 (Z : State) (a1 : Addr) (v1 : Addr) (ka : ClassId) (c0 : Int32) (c1 : Int32) (cs : Int32) (h0 : Heap) (n0 : Nat) (vv : Option Value) (h : Heap) (L : List Loc) : Prop := ∃ t : Addr, ∃ k : ClassId, vv = none ∧ Fr n0 L ∧ Keep h0 h [a1] ∧ Exa Z h a1 "java/lang/String" ∧ Fld Z h a1 "java/lang/String" "value" "[B" (.ref t) ∧ Fld Z h a1 "java/lang/String" "coder" "B" (.int 0) ∧ Arv Z h t k .byte (2 : Int32) [(.int (nar .byte (c0.toInt8.toInt32))), (.int (nar .byte (c1.toInt8.toInt32)))] (.int 0) ∧ h0.size ≤ t
set_option maxRecDepth 65536 in
set_option maxHeartbeats 40000000 in
theorem rm_sV_2 (l : Launch) (Z : State) (a0 : Array Value) (hw : HW a0 Z) (ws : List Jvm.Cond) (a1 : Addr) (v1 : Addr) (ka : ClassId) (c0 : Int32) (c1 : Int32) (cs : Int32) (h0 : Heap) (n0 : Nat) (Z0 : n0 ≤ h0.size) (pr0 : Old Z n0 h0) (pr1 : Sta Z Z.heap "java/lang/String" "COMPACT_STRINGS" "Z" (.int cs)) (hcs : ¬ (cs = (0 : Int32))) (pr3 : Exa Z h0 a1 "java/lang/String") (pr4 : Fld Z h0 a1 "java/lang/String" "value" "[B" .null) (pr5 : Fld Z h0 a1 "java/lang/String" "coder" "B" (.int 0)) (pr6 : n0 ≤ a1) (pr7 : Arv Z h0 v1 ka .char (2 : Int32) [(.int c0), (.int c1)] (.int 0)) (hc0 : ¬ ((255 : Int32) < c0)) (hc1 : ¬ ((255 : Int32) < c1)) :
    Met l Z Y21 jdk_42_method_149_code 6 none ws ({ frames := 2, cells := 1, slots := 2, locals := 35 } : Room) #[(.ref a1), (.ref v1), (.int 0), (.int 2), .null] h0 (Q_rm_sV_2 Z a1 v1 ka c0 c1 cs h0 n0) := by
  refine Met.enter (f0 := fun m => mkF m 0 #[vr a1, vr v1, vi 0, vi 2, .val .null, .unset] []) (plainFor_of_name pn_java_lang_String) (fun m => ef_rm_sV_2 m a1 v1) ?_
  intro p e s m below meth c s₁ hx hby hml hown hnm hret hlk hZ X0 e0
  have hown : s.vm.findClass "java/lang/String" = some m.cls := hown
  have hnm : meth.name = "<init>" := hnm
  have hml : c.maxLocals = 6 := hml
  have dk : ∀ {i : Nat} {r : Except DecodeError (Instr × Nat)}, decode jdk_42_method_149_code i = r → decode c.code i = r := fun h => hb hby h
  have N0 := Fr.nil n0
  refine gy (St s₁ m 1 #[vr a1, vr v1, vi 0, vi 2, .val .null, .unset] [(.ref a1)]) (fun _ k => XS.aloadN X0.here hx rfl (dk d10_0) rfl rfl k) ?_
  obtain ⟨T37, X37, e37, st37⟩ := initO X0 hx hZ hown (wd hw 26 rfl) (wd hw 27 rfl) (wd hw 28 rfl) e0 (g := (mkF m 1 #[vr a1, vr v1, vi 0, vi 2, .val .null, .unset] [(.ref a1)])) rfl (by rw [hml]; rfl) rfl (dk d10_1) (by decide) (W := 0) (by show 2 * 0 + _ ≤ _; exact Nat.le_of_eq rfl) (by decide)
  refine gy (St T37 m 4 #[vr a1, vr v1, vi 0, vi 2, .val .null, .unset] []) st37 ?_
  refine gy (St T37 m 27 #[vr a1, vr v1, vi 0, vi 2, .val .null, .unset] []) (fun _ k => XS.iloadN X37.here hx rfl (dk d10_4) rfl (XS.ifYes X37.here hx rfl (pc0 := 5) (pc' := 27) rfl (dk d10_5) rfl ((if0 _ _).trans (feq (by decide : ¬ ((2 : Int32) = (0 : Int32)))).2) (by decide) (by decide) k)) ?_
  obtain ⟨T38, X38, e38, st38⟩ := getS2 X37 hx hZ hown (host := "") (Or.inl (wd hw 11 rfl)) Via.refl e37 (pr1.ext pr0.2) (g := (mkF m 27 #[vr a1, vr v1, vi 0, vi 2, .val .null, .unset] [])) rfl (dk d10_27)
  refine gy (St T38 m 30 #[vr a1, vr v1, vi 0, vi 2, .val .null, .unset] [(.int cs)]) st38 ?_
  refine gy (St T38 m 36 #[vr a1, vr v1, vi 0, vi 2, .val .null, .unset] [(.int 2), (.int 0), (.ref v1)]) (fun _ k => XS.ifNo X38.here hx rfl (dk d10_30) rfl ((if0 _ _).trans (feq hcs).1) (XS.aloadN X38.here hx rfl (dk d10_33) rfl rfl (XS.iloadN X38.here hx rfl (dk d10_34) rfl (XS.iloadN X38.here hx rfl (dk d10_35) rfl k)))) ?_
  obtain ⟨_, _, ⟨T39, L39, k39, n39⟩, -, X39, ⟨Lc39, hQ39, l39, y39, z39⟩, st39⟩ := Jvm.LawKit.callS X38 hx (y := Y35) hown (mvT hZ (wd hw 44 rfl)) (mvT hZ (wd hw 45 rfl)) (mvT hZ (wd hw 46 rfl)) (mvT hZ (wd hw 47 rfl)) (by decide) (backOf (W := 0) (rm_cmp3_2 l Z a0 hw [] v1 ka c0 c1 h0 n0 Z0 pr0 pr7 hc0 hc1) hZ (wd hw 47 rfl) (wd hw 46 rfl) (by decide) (by decide)) (g := (mkF m 36 #[vr a1, vr v1, vi 0, vi 2, .val .null, .unset] [(.int 2), (.int 0), (.ref v1)])) rfl (by rw [hml]; rfl) (argsL := [(.ref v1), (.int 0), (.int 2)]) (rest := []) (lenOf pd_4 rfl) rfl (by show 2 * 0 + _ ≤ _; exact Nat.le_of_eq rfl) (dk d10_36) (fun _ _ => ⟨rfl, e38, Nat.le_of_ble_eq_true rfl, Nat.le_of_ble_eq_true rfl⟩)
  dsimp only [Pt.U, Pt.locs, Pt.cells, Pt.slots] at X39 l39 y39 z39 st39 hQ39
  subst l39 y39 z39
  obtain ⟨b39, k39, rfl, Nq39, K39, p39_0, p39_1⟩ := hQ39
  have N39 := Fr.app N0 Nq39
  have X39 : Stand p l e _ _ m _ below meth c T39 _ 1 2 := X39
  have O40 := pr0.keep K39 all0
  have Z40 : n0 ≤ T39.heap.size := Nat.le_trans Z0 K39.1
  have sz_b39 : h0.size ≤ b39 := p39_1
  refine gy (St T39 m 39 #[vr a1, vr v1, vi 0, vi 2, .val .null, .unset] [(.ref b39)]) (fun _ k => st39 _ k) ?_
  refine gy (St T39 m 45 #[vr a1, vr v1, vi 0, vi 2, .val .null, vr b39] [(.int 2), (.ref b39), (.ref a1)]) (fun _ k => XS.astore X39.here hx rfl (dk d10_39) rfl rfl (l' := #[vr a1, vr v1, vi 0, vi 2, .val .null, vr b39]) rfl (XS.aloadN X39.here hx rfl (dk d10_41) rfl rfl (XS.aload X39.here hx rfl (dk d10_42) rfl rfl (XS.iloadN X39.here hx rfl (dk d10_44) rfl k)))) ?_
  obtain ⟨_, _, ⟨T41, L41, k41, n41⟩, -, X41, ⟨Lc41, hQ41, l41, y41, z41⟩, st41⟩ := Jvm.LawKit.callS X39 hx (y := Y34) hown (mvT hZ (wd hw 51 rfl)) (mvT hZ (wd hw 52 rfl)) (mvT hZ (wd hw 46 rfl)) (mvT hZ (wd hw 53 rfl)) (by decide) (backOf (W := 1) (rm_cfal_2 l Z a0 hw [] b39 k39 c0 c1 T39.heap n0 Z40 p39_0) hZ (wd hw 53 rfl) (wd hw 46 rfl) (by decide) (by decide)) (g := (mkF m 45 #[vr a1, vr v1, vi 0, vi 2, .val .null, vr b39] [(.int 2), (.ref b39), (.ref a1)])) rfl (by rw [hml]; rfl) (argsL := [(.ref b39), (.int 2)]) (rest := [(.ref a1)]) (lenOf pd_5 rfl) rfl (by show 2 * 0 + _ ≤ _; exact Nat.le_of_eq rfl) (dk d10_45) (fun _ _ => ⟨rfl, rfl, Nat.le_of_ble_eq_true rfl, Nat.le_of_ble_eq_true rfl⟩)
  dsimp only [Pt.U, Pt.locs, Pt.cells, Pt.slots] at X41 l41 y41 z41 st41 hQ41
  subst l41 y41 z41
  obtain ⟨rfl, Nq41, hh41⟩ := hQ41
  have N41 := Fr.app N39 Nq41
  have X41 : Stand p l e _ _ m _ below meth c T41 _ 1 2 := X41
  refine gy (St T41 m 48 #[vr a1, vr v1, vi 0, vi 2, .val .null, vr b39] [(.int 0), (.ref a1)]) (fun _ k => st41 _ k) ?_
  obtain ⟨T42, h42, X42, e42, W42, st42⟩ := putFN X41 hx hZ hown (wd hw 31 rfl) Via.refl hh41 (pr5.keep K39 nin0) (pr3.keep K39) (Or.inr ⟨(wd hw 32 rfl), rfl, hnm⟩) (wd hw 17 rfl) (ty := .byte) (v' := (.int 0)) (by decide) rfl rfl (g := (mkF m 48 #[vr a1, vr v1, vi 0, vi 2, .val .null, vr b39] [(.int 0), (.ref a1)])) rfl rfl (dk d10_48)
  have N42 := Fr.snoc X42 N41 pr6
  have O43 := O40.wr W42 pr6
  have Z43 : n0 ≤ h42.size := Nat.le_trans Z40 (Keep.of_wr W42).1
  have F42 := (pr5.keep K39 nin0).same W42
  refine gy (St T42 m 51 #[vr a1, vr v1, vi 0, vi 2, .val .null, vr b39] []) st42 ?_
  refine gy (St T42 m 54 #[vr a1, vr v1, vi 0, vi 2, .val .null, vr b39] [(.ref b39), (.ref a1)]) (fun _ k => XS.aloadN X42.here hx rfl (dk d10_51) rfl rfl (XS.aload X42.here hx rfl (dk d10_52) rfl rfl k)) ?_
  have f44 := ((pr4.keep K39 nin0).other W42 (Or.inr (slot_ne (Or.inr (wd hw 30 rfl)) (Or.inr (wd hw 32 rfl)) (by decide) (t := (.array .byte)) (t' := .byte) (by decide) (by decide))))
  obtain ⟨T45, h45, X45, e45, W45, st45⟩ := putF X42 hx hZ hown (host := "") (Or.inl (wd hw 29 rfl)) Via.refl e42 f44 ((pr3.keep K39).wr W42) (Or.inr ⟨(wd hw 30 rfl), rfl, hnm⟩) (wd hw 17 rfl) (ty := (.array .byte)) (by decide) rfl rfl (g := (mkF m 54 #[vr a1, vr v1, vi 0, vi 2, .val .null, vr b39] [(.ref b39), (.ref a1)])) rfl rfl (dk d10_54)
  have N45 := Fr.snoc X45 N42 pr6
  have O46 := O43.wr W45 pr6
  have Z46 : n0 ≤ h45.size := Nat.le_trans Z43 (Keep.of_wr W45).1
  have F45 := f44.same W45
  refine gy (St T45 m 57 #[vr a1, vr v1, vi 0, vi 2, .val .null, vr b39] []) st45 ?_
  refine Go.retV X45 hx hlk hret (dk d10_57) (by decide) (by decide) ?_
  rw [e45]
  exact ⟨b39, k39, rfl, N45, ((((Keep.refl h0 [a1]).trans K39 all0).wr W42 (Or.inl (List.mem_of_getElem? (i := 0) rfl))).wr W45 (Or.inl (List.mem_of_getElem? (i := 0) rfl))), (((pr3.keep K39).wr W42).wr W45), F45, (F42.other W45 (Or.inr (slot_ne (Or.inr (wd hw 32 rfl)) (Or.inr (wd hw 30 rfl)) (by decide) (t := .byte) (t' := (.array .byte)) (by decide) (by decide)))), ((p39_0.other W42 (Ne.symm (Nat.ne_of_lt (Nat.lt_of_lt_of_le pr3.lt sz_b39)))).other W45 (Ne.symm (Nat.ne_of_lt (Nat.lt_of_lt_of_le pr3.lt sz_b39)))), (Nat.le_trans (Nat.le_refl _) sz_b39)⟩
theorem ef_rm_sC_2 (m : MethodId) (x0 : Addr) (x1 : Addr) : entryFrame m #[(.ref x0), (.ref x1)] 2 = mkF m 0 #[vr x0, vr x1] [] := by first | (simp [entryFrame, mkF, argsToLocals, Value.category]; done) | rfl
theorem d9_0 : decode jdk_42_method_3_code 0 = .ok (.aload_n 0, 1) := by decide +kernel
theorem d9_1 : decode jdk_42_method_3_code 1 = .ok (.aload_n 1, 1) := by decide +kernel
theorem d9_2 : decode jdk_42_method_3_code 2 = .ok (.iconst 0, 1) := by decide +kernel
theorem d9_3 : decode jdk_42_method_3_code 3 = .ok (.aload_n 1, 1) := by decide +kernel
theorem d9_4 : decode jdk_42_method_3_code 4 = .ok (.arraylength, 1) := by decide +kernel
theorem d9_5 : decode jdk_42_method_3_code 5 = .ok (.aconst_null, 1) := by decide +kernel
theorem d9_6 : decode jdk_42_method_3_code 6 = .ok (.invokespecial 27, 3) := by decide +kernel
theorem pd_6 : parseMethodDescriptor "([CIILjava/lang/Void;)V" = some ⟨[(.array .char), .int, .int, (.object "java/lang/Void")], none⟩ := by decide +kernel
theorem d9_9 : decode jdk_42_method_3_code 9 = .ok (.return_, 1) := by decide +kernel
def Q_rm_sC_2 (Z : State) (a1 : Addr) (v1 : Addr) (ka : ClassId) (c0 : Int32) (c1 : Int32) (cs : Int32) (h0 : Heap) (n0 : Nat) (vv : Option Value) (h : Heap) (L : List Loc) : Prop := ∃ t : Addr, ∃ k : ClassId, vv = none ∧ Fr n0 L ∧ Keep h0 h [a1] ∧ Exa Z h a1 "java/lang/String" ∧ Fld Z h a1 "java/lang/String" "value" "[B" (.ref t) ∧ Fld Z h a1 "java/lang/String" "coder" "B" (.int 0) ∧ Arv Z h t k .byte (2 : Int32) [(.int (nar .byte (c0.toInt8.toInt32))), (.int (nar .byte (c1.toInt8.toInt32)))] (.int 0) ∧ h0.size ≤ t
set_option maxRecDepth 65536 in
set_option maxHeartbeats 40000000 in
theorem rm_sC_2 (l : Launch) (Z : State) (a0 : Array Value) (hw : HW a0 Z) (ws : List Jvm.Cond) (a1 : Addr) (v1 : Addr) (ka : ClassId) (c0 : Int32) (c1 : Int32) (cs : Int32) (h0 : Heap) (n0 : Nat) (Z0 : n0 ≤ h0.size) (pr0 : Old Z n0 h0) (pr1 : Sta Z Z.heap "java/lang/String" "COMPACT_STRINGS" "Z" (.int cs)) (hcs : ¬ (cs = (0 : Int32))) (pr3 : Exa Z h0 a1 "java/lang/String") (pr4 : Fld Z h0 a1 "java/lang/String" "value" "[B" .null) (pr5 : Fld Z h0 a1 "java/lang/String" "coder" "B" (.int 0)) (pr6 : n0 ≤ a1) (pr7 : Arv Z h0 v1 ka .char (2 : Int32) [(.int c0), (.int c1)] (.int 0)) (hc0 : ¬ ((255 : Int32) < c0)) (hc1 : ¬ ((255 : Int32) < c1)) :
    Met l Z Y20 jdk_42_method_3_code 2 none ws ({ frames := 3, cells := 1, slots := 2, locals := 52 } : Room) #[(.ref a1), (.ref v1)] h0 (Q_rm_sC_2 Z a1 v1 ka c0 c1 cs h0 n0) := by
  refine Met.enter (f0 := fun m => mkF m 0 #[vr a1, vr v1] []) (plainFor_of_name pn_java_lang_String) (fun m => ef_rm_sC_2 m a1 v1) ?_
  intro p e s m below meth c s₁ hx hby hml hown hnm hret hlk hZ X0 e0
  have hown : s.vm.findClass "java/lang/String" = some m.cls := hown
  have hnm : meth.name = "<init>" := hnm
  have hml : c.maxLocals = 2 := hml
  have dk : ∀ {i : Nat} {r : Except DecodeError (Instr × Nat)}, decode jdk_42_method_3_code i = r → decode c.code i = r := fun h => hb hby h
  have N0 := Fr.nil n0
  refine gy (St s₁ m 4 #[vr a1, vr v1] [(.ref v1), (.int 0), (.ref v1), (.ref a1)]) (fun _ k => XS.aloadN X0.here hx rfl (dk d9_0) rfl rfl (XS.aloadN X0.here hx rfl (dk d9_1) rfl rfl (XS.iconst X0.here hx rfl (dk d9_2) (XS.aloadN X0.here hx rfl (dk d9_3) rfl rfl k)))) ?_
  obtain ⟨cl47, Ar47, q47, S47, N_47, Hs47, G47⟩ := id pr7
  refine gy (St s₁ m 5 #[vr a1, vr v1] [(.int 2), (.int 0), (.ref v1), (.ref a1)]) (fun _ k => X0.arraylength hx (by rw [e0]; exact Ar47.1) (State.isArrayOf_alike hZ.alike Ar47.2.1) (g := (mkF m 4 #[vr a1, vr v1] [(.ref v1), (.int 0), (.ref v1), (.ref a1)])) rfl rfl (dk d9_4) _ (by rw [len_of S47 N_47]; exact k)) ?_
  refine gy (St s₁ m 6 #[vr a1, vr v1] [.null, (.int 2), (.int 0), (.ref v1), (.ref a1)]) (fun _ k => XS.aconstNull X0.here hx rfl (dk d9_5) k) ?_
  obtain ⟨_, _, ⟨T48, L48, k48, n48⟩, -, X48, ⟨Lc48, hQ48, l48, y48, z48⟩, st48⟩ := X0.specialBack hx (y := Y21) rfl hown (mvT hZ (wd hw 41 rfl)) (mvT hZ (wd hw 42 rfl)) (mvT hZ (wd hw 43 rfl)) (by decide) (backOf (W := 0) (rm_sV_2 l Z a0 hw [] a1 v1 ka c0 c1 cs h0 n0 Z0 pr0 pr1 hcs pr3 pr4 pr5 pr6 pr7 hc0 hc1) hZ (wd hw 43 rfl) (wd hw 9 rfl) (by decide) (by decide)) (g := (mkF m 6 #[vr a1, vr v1] [.null, (.int 2), (.int 0), (.ref v1), (.ref a1)])) rfl (by rw [hml]; rfl) (Steps.refl _) (a := a1) (argsL := [(.ref v1), (.int 0), (.int 2), .null]) (rest := []) (lenOf pd_6 rfl) rfl (by show 2 * 0 + _ ≤ _; exact Nat.le_of_eq rfl) (dk d9_6) (fun _ _ => ⟨rfl, e0, Nat.le_of_ble_eq_true rfl, Nat.le_of_ble_eq_true rfl⟩)
  dsimp only [Pt.U, Pt.locs, Pt.cells, Pt.slots] at X48 l48 y48 z48 st48 hQ48
  subst l48 y48 z48
  obtain ⟨t48, k48, rfl, Nq48, K48, p48_0, p48_1, p48_2, p48_3, p48_4⟩ := hQ48
  have N48 := Fr.app N0 Nq48
  have X48 : Stand p l e _ _ m _ below meth c T48 _ 1 2 := X48
  have O49 := pr0.keep K48 (allS pr6 all0)
  have Z49 : n0 ≤ T48.heap.size := Nat.le_trans Z0 K48.1
  have sz_t48 : h0.size ≤ t48 := p48_4
  refine gy (St T48 m 9 #[vr a1, vr v1] []) (fun _ k => st48.trans k) ?_
  refine Go.retV X48 hx hlk hret (dk d9_9) (by decide) (by decide) ?_
  exact ⟨t48, k48, rfl, N48, ((Keep.refl h0 [a1]).trans K48 (allS (Or.inl (List.mem_of_getElem? (i := 0) rfl)) all0)), p48_0, p48_1, p48_2, p48_3, (Nat.le_trans (Nat.le_refl _) sz_t48)⟩
theorem ef_rm_sV_0 (m : MethodId) (x0 : Addr) (x1 : Addr) : entryFrame m #[(.ref x0), (.ref x1), (.int 0), (.int 0), .null] 6 = mkF m 0 #[vr x0, vr x1, vi 0, vi 0, .val .null, .unset] [] := by first | (simp [entryFrame, mkF, argsToLocals, Value.category]; done) | rfl
theorem d10_8 : decode jdk_42_method_149_code 8 = .ok (.aload_n 0, 1) := by decide +kernel
theorem d10_9 : decode jdk_42_method_149_code 9 = .ok (.ldc 7, 2) := by decide +kernel
theorem d10_11 : decode jdk_42_method_149_code 11 = .ok (.getfield 9, 3) := by decide +kernel
theorem d10_14 : decode jdk_42_method_149_code 14 = .ok (.putfield 9, 3) := by decide +kernel
theorem d10_17 : decode jdk_42_method_149_code 17 = .ok (.aload_n 0, 1) := by decide +kernel
theorem d10_18 : decode jdk_42_method_149_code 18 = .ok (.ldc 7, 2) := by decide +kernel
theorem d10_20 : decode jdk_42_method_149_code 20 = .ok (.getfield 15, 3) := by decide +kernel
theorem d10_23 : decode jdk_42_method_149_code 23 = .ok (.putfield 15, 3) := by decide +kernel
theorem d10_26 : decode jdk_42_method_149_code 26 = .ok (.return_, 1) := by decide +kernel
def Q_rm_sV_0 (Z : State) (a1 : Addr) (v1 : Addr) (h0 : Heap) (n0 : Nat) (vv : Option Value) (h : Heap) (L : List Loc) : Prop := ∃ t : Addr, ∃ k : ClassId, vv = none ∧ Fr n0 L ∧ Keep h0 h [a1] ∧ Exa Z h a1 "java/lang/String" ∧ Fld Z h a1 "java/lang/String" "value" "[B" (.ref t) ∧ Fld Z h a1 "java/lang/String" "coder" "B" (.int 0) ∧ Arv Z h t k .byte (0 : Int32) [] (.int 0)
set_option maxRecDepth 65536 in
set_option maxHeartbeats 40000000 in
theorem rm_sV_0 (l : Launch) (Z : State) (a0 : Array Value) (hw : HW a0 Z) (ws : List Jvm.Cond) (a1 : Addr) (v1 : Addr) (h0 : Heap) (n0 : Nat) (Z0 : n0 ≤ h0.size) (pr0 : Old Z n0 h0) (pr1 : Exa Z h0 a1 "java/lang/String") (pr2 : Fld Z h0 a1 "java/lang/String" "value" "[B" .null) (pr3 : Fld Z h0 a1 "java/lang/String" "coder" "B" (.int 0)) (pr4 : n0 ≤ a1) :
    MetS l Z own_EL Y21 jdk_42_method_149_code 6 none ws ({ frames := 1, cells := 2, slots := 4, locals := 12 } : Room) #[(.ref a1), (.ref v1), (.int 0), (.int 0), .null] h0 (Q_rm_sV_0 Z a1 v1 h0 n0) := by
  refine MetS.enter (f0 := fun m => mkF m 0 #[vr a1, vr v1, vi 0, vi 0, .val .null, .unset] []) (plainFor_of_name pn_java_lang_String) (fun m => ef_rm_sV_0 m a1 v1) ?_
  intro p e s m below meth c s₁ hx hby hml hown hnm hret hlk hZ X0 e0 hS C0
  have hown : s.vm.findClass "java/lang/String" = some m.cls := hown
  have hnm : meth.name = "<init>" := hnm
  have hml : c.maxLocals = 6 := hml
  have dk : ∀ {i : Nat} {r : Except DecodeError (Instr × Nat)}, decode jdk_42_method_149_code i = r → decode c.code i = r := fun h => hb hby h
  have N0 := Fr.nil n0
  have hk : h0.size ≤ h0.size := Nat.le_refl _
  have hEL : EW Z a0 own_EL := own_hEL hw
  have wS : ∀ a ∈ Bundle.stringAtoms, a.before a0 Z = true := own_wS hw
  have Sf0_a1 : Safe Z own_EL s.vm h0 a1 := own_safe0 hZ.alike pr1 pr2
  refine gy (St s₁ m 1 #[vr a1, vr v1, vi 0, vi 0, .val .null, .unset] [(.ref a1)]) (fun _ k => XS.aloadN X0.here hx rfl (dk d10_0) rfl rfl k) ?_
  obtain ⟨T50, X50, e50, st50⟩ := initO X0 hx hZ hown (wd hw 26 rfl) (wd hw 27 rfl) (wd hw 28 rfl) e0 (g := (mkF m 1 #[vr a1, vr v1, vi 0, vi 0, .val .null, .unset] [(.ref a1)])) rfl (by rw [hml]; rfl) rfl (dk d10_1) (by decide) (W := 0) (by show 2 * 0 + _ ≤ _; exact Nat.le_of_eq rfl) (by decide)
  refine gy (St T50 m 4 #[vr a1, vr v1, vi 0, vi 0, .val .null, .unset] []) st50 ?_
  refine gy (St T50 m 9 #[vr a1, vr v1, vi 0, vi 0, .val .null, .unset] [(.ref a1)]) (fun _ k => XS.iloadN X50.here hx rfl (dk d10_4) rfl (XS.ifNo X50.here hx rfl (dk d10_5) rfl ((if0 _ _).trans (teq (by decide : (0 : Int32) = (0 : Int32))).2) (XS.aloadN X50.here hx rfl (dk d10_8) rfl rfl k))) ?_
  obtain ⟨la51, T51, h51, k151, lb51, kk51, X51, e51, E51, hS, hk, hZ, hown, EA51, FC51, FV51, VA51, -, -, CS51, LI51, SN51, st51⟩ := ldcCH (vs := []) (z := (0 : Int32)) X50 hx hZ hown (wd hw 214 rfl) wS e50 hS hk hEL (by decide) C0.1 ⟨by decide, by decide⟩ (by decide) rfl (g := (mkF m 9 #[vr a1, vr v1, vi 0, vi 0, .val .null, .unset] [(.ref a1)])) rfl (dk d10_9) (n := 0) (by decide) (by decide) (by decide) (by decide)
  have Sf52_a1 := CHr.safe CS51 pr1.lt Sf0_a1
  have C52 := C0.trans CS51
  have O52 := pr0.ext E51
  have Z52 : n0 ≤ h51.size := Nat.le_trans Z0 E51.1
  refine gy (St T51 m 11 #[vr a1, vr v1, vi 0, vi 0, .val .null, .unset] [(.ref la51), (.ref a1)]) st51 ?_
  obtain ⟨T53, X53, e53, st53⟩ := getF X51 hx hZ hown (host := "") (Or.inl (wd hw 29 rfl)) Via.refl e51 FV51 (g := (mkF m 11 #[vr a1, vr v1, vi 0, vi 0, .val .null, .unset] [(.ref la51), (.ref a1)])) rfl rfl (dk d10_11)
  refine gy (St T53 m 14 #[vr a1, vr v1, vi 0, vi 0, .val .null, .unset] [(.ref lb51), (.ref a1)]) st53 ?_
  obtain ⟨T54, h54, X54, e54, W54, st54⟩ := putF X53 hx hZ hown (host := "") (Or.inl (wd hw 29 rfl)) Via.refl e53 (pr2.ext E51) (pr1.ext E51) (Or.inr ⟨(wd hw 30 rfl), rfl, hnm⟩) (wd hw 17 rfl) (ty := (.array .byte)) (by decide) rfl rfl (g := (mkF m 14 #[vr a1, vr v1, vi 0, vi 0, .val .null, .unset] [(.ref lb51), (.ref a1)])) rfl rfl (dk d10_14)
  have N54 := Fr.snoc X54 N0 pr4
  have Sf55_a1 := Safe.wr W54 Sf52_a1 C52.1 Sf52_a1
  have C55 := C52.trans (CHr.wr W54 Sf52_a1 C52.1)
  have O55 := O52.wr W54 pr4
  have Z55 : n0 ≤ h54.size := Nat.le_trans Z52 (Keep.of_wr W54).1
  have F54 := (pr2.ext E51).same W54
  refine gy (St T54 m 17 #[vr a1, vr v1, vi 0, vi 0, .val .null, .unset] []) st54 ?_
  refine gy (St T54 m 18 #[vr a1, vr v1, vi 0, vi 0, .val .null, .unset] [(.ref a1)]) (fun _ k => XS.aloadN X54.here hx rfl (dk d10_17) rfl rfl k) ?_
  refine Go.by (B := (T54.setTop (mkF m 20 #[vr a1, vr v1, vi 0, vi 0, .val .null, .unset] [(.ref la51), (.ref a1)]))) (ldcAgain X54 hx hZ hown (wd hw 214 rfl) LI51 (g := (mkF m 18 #[vr a1, vr v1, vi 0, vi 0, .val .null, .unset] [(.ref a1)])) rfl (dk d10_18)) ?_
  have f56 := (FC51.other W54 (Or.inl (Ne.symm (SN51 _ Sf52_a1).1)))
  obtain ⟨T57, X57, e57, st57⟩ := getF X54 hx hZ hown (host := "") (Or.inl (wd hw 31 rfl)) Via.refl e54 f56 (g := (mkF m 20 #[vr a1, vr v1, vi 0, vi 0, .val .null, .unset] [(.ref la51), (.ref a1)])) rfl rfl (dk d10_20)
  refine gy (St T57 m 23 #[vr a1, vr v1, vi 0, vi 0, .val .null, .unset] [(.int 0), (.ref a1)]) st57 ?_
  have f58 := ((pr3.ext E51).other W54 (Or.inr (slot_ne (Or.inr (wd hw 32 rfl)) (Or.inr (wd hw 30 rfl)) (by decide) (t := .byte) (t' := (.array .byte)) (by decide) (by decide))))
  obtain ⟨T59, h59, X59, e59, W59, st59⟩ := putFN X57 hx hZ hown (wd hw 31 rfl) Via.refl e57 f58 ((pr1.ext E51).wr W54) (Or.inr ⟨(wd hw 32 rfl), rfl, hnm⟩) (wd hw 17 rfl) (ty := .byte) (v' := (.int 0)) (by decide) rfl rfl (g := (mkF m 23 #[vr a1, vr v1, vi 0, vi 0, .val .null, .unset] [(.int 0), (.ref a1)])) rfl rfl (dk d10_23)
  have N59 := Fr.snoc X59 N54 pr4
  have Sf60_a1 := Safe.wr W59 Sf55_a1 C55.1 Sf55_a1
  have C60 := C55.trans (CHr.wr W59 Sf55_a1 C55.1)
  have O60 := O55.wr W59 pr4
  have Z60 : n0 ≤ h59.size := Nat.le_trans Z55 (Keep.of_wr W59).1
  have F59 := f58.same W59
  refine gy (St T59 m 26 #[vr a1, vr v1, vi 0, vi 0, .val .null, .unset] []) st59 ?_
  have hkE61 : _ ≤ T59.heap.size := (by rw [e59]; exact (Nat.le_trans (Nat.le_trans hk (Keep.of_wr W54).1) (Keep.of_wr W59).1))
  have CE61 : CHr Z own_EL s.vm s.heap T51.vm T59.heap := (by rw [e59]; exact C60)
  refine Go.retVS X59 hx hlk hS hkE61 hZ hEL CE61 hret (dk d10_26) (by decide) (by decide) ?_
  rw [e59]
  exact ⟨lb51, kk51, rfl, N59, ((((Keep.refl h0 [a1]).ext E51).wr W54 (Or.inl (List.mem_of_getElem? (i := 0) rfl))).wr W59 (Or.inl (List.mem_of_getElem? (i := 0) rfl))), (((pr1.ext E51).wr W54).wr W59), (F54.other W59 (Or.inr (slot_ne (Or.inr (wd hw 30 rfl)) (Or.inr (wd hw 32 rfl)) (by decide) (t := (.array .byte)) (t' := .byte) (by decide) (by decide)))), F59, ((VA51.other W54 (Ne.symm (SN51 _ Sf52_a1).2)).other W59 (Ne.symm (SN51 _ Sf52_a1).2))⟩
theorem ef_rm_sC_0 (m : MethodId) (x0 : Addr) (x1 : Addr) : entryFrame m #[(.ref x0), (.ref x1)] 2 = mkF m 0 #[vr x0, vr x1] [] := by first | (simp [entryFrame, mkF, argsToLocals, Value.category]; done) | rfl
def Q_rm_sC_0 (Z : State) (a1 : Addr) (v1 : Addr) (ka : ClassId) (h0 : Heap) (n0 : Nat) (vv : Option Value) (h : Heap) (L : List Loc) : Prop := ∃ t : Addr, ∃ k : ClassId, vv = none ∧ Fr n0 L ∧ Keep h0 h [a1] ∧ Exa Z h a1 "java/lang/String" ∧ Fld Z h a1 "java/lang/String" "value" "[B" (.ref t) ∧ Fld Z h a1 "java/lang/String" "coder" "B" (.int 0) ∧ Arv Z h t k .byte (0 : Int32) [] (.int 0)
set_option maxRecDepth 65536 in
set_option maxHeartbeats 40000000 in
theorem rm_sC_0 (l : Launch) (Z : State) (a0 : Array Value) (hw : HW a0 Z) (ws : List Jvm.Cond) (a1 : Addr) (v1 : Addr) (ka : ClassId) (h0 : Heap) (n0 : Nat) (Z0 : n0 ≤ h0.size) (pr0 : Old Z n0 h0) (pr1 : Exa Z h0 a1 "java/lang/String") (pr2 : Fld Z h0 a1 "java/lang/String" "value" "[B" .null) (pr3 : Fld Z h0 a1 "java/lang/String" "coder" "B" (.int 0)) (pr4 : n0 ≤ a1) (pr5 : Arv Z h0 v1 ka .char (0 : Int32) [] (.int 0)) :
    MetS l Z own_EL Y20 jdk_42_method_3_code 2 none ws ({ frames := 2, cells := 2, slots := 4, locals := 29 } : Room) #[(.ref a1), (.ref v1)] h0 (Q_rm_sC_0 Z a1 v1 ka h0 n0) := by
  refine MetS.enter (f0 := fun m => mkF m 0 #[vr a1, vr v1] []) (plainFor_of_name pn_java_lang_String) (fun m => ef_rm_sC_0 m a1 v1) ?_
  intro p e s m below meth c s₁ hx hby hml hown hnm hret hlk hZ X0 e0 hS C0
  have hown : s.vm.findClass "java/lang/String" = some m.cls := hown
  have hnm : meth.name = "<init>" := hnm
  have hml : c.maxLocals = 2 := hml
  have dk : ∀ {i : Nat} {r : Except DecodeError (Instr × Nat)}, decode jdk_42_method_3_code i = r → decode c.code i = r := fun h => hb hby h
  have N0 := Fr.nil n0
  have hk : h0.size ≤ h0.size := Nat.le_refl _
  have hEL : EW Z a0 own_EL := own_hEL hw
  have wS : ∀ a ∈ Bundle.stringAtoms, a.before a0 Z = true := own_wS hw
  refine gy (St s₁ m 4 #[vr a1, vr v1] [(.ref v1), (.int 0), (.ref v1), (.ref a1)]) (fun _ k => XS.aloadN X0.here hx rfl (dk d9_0) rfl rfl (XS.aloadN X0.here hx rfl (dk d9_1) rfl rfl (XS.iconst X0.here hx rfl (dk d9_2) (XS.aloadN X0.here hx rfl (dk d9_3) rfl rfl k)))) ?_
  obtain ⟨cl62, Ar62, q62, S62, N_62, Hs62, G62⟩ := id pr5
  refine gy (St s₁ m 5 #[vr a1, vr v1] [(.int 0), (.int 0), (.ref v1), (.ref a1)]) (fun _ k => X0.arraylength hx (by rw [e0]; exact Ar62.1) (State.isArrayOf_alike hZ.alike Ar62.2.1) (g := (mkF m 4 #[vr a1, vr v1] [(.ref v1), (.int 0), (.ref v1), (.ref a1)])) rfl rfl (dk d9_4) _ (by rw [len_of S62 N_62]; exact k)) ?_
  refine gy (St s₁ m 6 #[vr a1, vr v1] [.null, (.int 0), (.int 0), (.ref v1), (.ref a1)]) (fun _ k => XS.aconstNull X0.here hx rfl (dk d9_5) k) ?_
  have hkT63 : _ ≤ s₁.heap.size := (by rw [e0]; exact hk)
  obtain ⟨_, _, ⟨T63, L63, k63, n63⟩, -, X63, hSn63, hgr63, ⟨Lc63, hQ63, l63, y63, z63, CS63⟩, st63⟩ := X0.specialBackS hx (y := Y21) rfl hown (mvT hZ (wd hw 41 rfl)) (mvT hZ (wd hw 42 rfl)) (mvT hZ (wd hw 43 rfl)) (by decide) (backOfSH (W := 0) (rm_sV_0 l Z a0 hw [] a1 v1 h0 n0 Z0 pr0 pr1 pr2 pr3 pr4) hZ (wd hw 43 rfl) (wd hw 9 rfl) (by decide) (by decide) hEL C0.1) (g := (mkF m 6 #[vr a1, vr v1] [.null, (.int 0), (.int 0), (.ref v1), (.ref a1)])) rfl (by rw [hml]; rfl) (Steps.refl _) (a := a1) (argsL := [(.ref v1), (.int 0), (.int 0), .null]) (rest := []) (lenOf pd_6 rfl) rfl (by show 2 * 0 + _ ≤ _; exact Nat.le_of_eq rfl) (dk d9_6) (fun _ _ => ⟨rfl, e0, Nat.le_of_ble_eq_true rfl, Nat.le_of_ble_eq_true rfl⟩)
  dsimp only [Pt.U, Pt.locs, Pt.cells, Pt.slots] at X63 l63 y63 z63 st63 hQ63 hSn63 hgr63 CS63
  subst l63 y63 z63
  obtain ⟨X63, hS, hZ, hown⟩ := rebS hS hkT63 X63 hSn63 hgr63 hZ hown
  have hk : T63.heap.size ≤ T63.heap.size := Nat.le_refl _
  obtain ⟨t63, k63, rfl, Nq63, K63, p63_0, p63_1, p63_2, p63_3⟩ := hQ63
  have N63 := Fr.app N0 Nq63
  have X63 : Stand p l e _ _ m _ below meth c T63 _ 2 4 := X63
  have C64 := C0.trans CS63
  have O64 := pr0.keep K63 (allS pr4 all0)
  have Z64 : n0 ≤ T63.heap.size := Nat.le_trans Z0 K63.1
  refine gy (St T63 m 9 #[vr a1, vr v1] []) (fun _ k => st63.trans k) ?_
  have hkE65 : _ ≤ T63.heap.size := hk
  have CE65 : CHr Z own_EL s.vm s.heap T63.vm T63.heap := C64
  refine Go.retVS X63 hx hlk hS hkE65 hZ hEL CE65 hret (dk d9_9) (by decide) (by decide) ?_
  exact ⟨t63, k63, rfl, N63, ((Keep.refl h0 [a1]).trans K63 (allS (Or.inl (List.mem_of_getElem? (i := 0) rfl)) all0)), p63_0, p63_1, p63_2, p63_3⟩
def own_nil : List Int32 := []
def own_fit (a b : List Int32) : Prop := a.length + b.length ≤ 16
def own_sh (a : List Int32) : Prop := a.length < 16
theorem own_zI {a : List Int32} (h : a.length ≤ 4000) : (own_z a).toInt = a.length := by
  rw [own_z, Int32.toInt_ofNat_of_lt (by omega)]
theorem own_zn {a : List Int32} (h : a.length ≤ 4000) : (own_z a).toNatClampNeg = a.length := by
  show (own_z a).toInt.toNat = a.length
  rw [own_zI h]; rfl
theorem own_z0 {a : List Int32} (h : a.length ≤ 4000) : ¬ own_z a < (0 : Int32) := by
  have z : (0 : Int32).toInt = 0 := by decide
  rw [Int32.lt_iff_toInt_lt, own_zI h, z]; omega
theorem own_zlt {a : List Int32} (h : a.length < 16) : own_z a < (16 : Int32) := by
  have z : (16 : Int32).toInt = 16 := by decide
  rw [Int32.lt_iff_toInt_lt, own_zI (by omega), z]; omega
theorem own_zadd (a b : List Int32) : own_z (a ++ b) = own_z a + own_z b := by
  rw [own_z, List.length_append, Int32.ofNat_add]; rfl
theorem own_z1 (a : List Int32) (x : Int32) : own_z (a ++ [x]) = own_z a + (1 : Int32) := by
  rw [own_zadd]
  show _ + Int32.ofNat 1 = _
  rfl
theorem own_shr0 (x : Int32) : x >>> ((0 : Int32) &&& 31) = x := by
  have : ((0 : Int32) &&& 31) = 0 := by decide
  rw [this]; simp
theorem own_shl0 (x : Int32) : x <<< ((0 : Int32) &&& 31) = x := by
  have : ((0 : Int32) &&& 31) = 0 := by decide
  rw [this]; simp
theorem own_sub0 (x : Int32) : x - (0 : Int32) = x := by simp
theorem own_cap {a b : List Int32} (h : own_fit a b) : ¬ (0 : Int32) < (own_z a + own_z b) - (16 : Int32) := by
  have h : a.length + b.length ≤ 16 := h
  have z : (0 : Int32).toInt = 0 := by decide
  have z16 : (16 : Int32).toInt = 16 := by decide
  have e : (own_z (a ++ b)).toInt = a.length + b.length := by
    rw [own_zI (by rw [List.length_append]; omega), List.length_append]; omega
  rw [← own_zadd, Int32.lt_iff_toInt_lt, z, Int32.toInt_sub, e, z16, Int.bmod_eq_of_le (by omega) (by omega)]
  omega
theorem own_z11 (x : Int32) : own_z [x] = (1 : Int32) := by
  show Int32.ofNat 1 = 1
  decide
theorem own_cap1 {a : List Int32} {x : Int32} (h : own_fit a [x]) : ¬ (0 : Int32) < (own_z a + (1 : Int32)) - (16 : Int32) := by
  have q := own_cap h
  rwa [own_z11] at q
def own_pad (ds : List Int32) : List Value := own_vs ds ++ List.replicate 16 (.int 0)
theorem own_vl (a : List Int32) : (own_vs a).length = a.length := by simp [own_vs]
theorem own_us (a : List Int32) (h : a.length ≤ 4000) : own_vs a = (List.range (own_z a).toNatClampNeg).map fun i => (own_vs a).getD ((0 : Int32).toNatClampNeg + i) (.int 0) := by
  rw [own_zn h]
  apply List.ext_getElem
  · simp [own_vs]
  · intro i h1 h2
    have z : (0 : Int32).toNatClampNeg = 0 := by decide
    simp only [List.getElem_map, List.getElem_range, z, Nat.zero_add]
    rw [List.getD_eq_getElem?_getD, List.getElem?_eq_getElem h1]; rfl
theorem own_app (ds cc : List Int32) (h : own_fit ds cc) : ∀ i, (own_vs (ds ++ cc)).getD i (.int 0) = ((own_pad ds).take (own_z ds).toNatClampNeg ++ own_vs cc ++ (own_pad ds).drop ((own_z ds).toNatClampNeg + (own_z cc).toNatClampNeg)).getD i (.int 0) := by
  have h : ds.length + cc.length ≤ 16 := h
  rw [own_zn (by omega), own_zn (by omega), own_pad]
  have e1 : (own_vs ds ++ List.replicate 16 (Value.int 0)).take ds.length = own_vs ds := by
    have := own_vl ds
    rw [← this]; simp
  have e2 : (own_vs ds ++ List.replicate 16 (Value.int 0)).drop (ds.length + cc.length) = List.replicate (16 - cc.length) (Value.int 0) := by
    rw [← List.drop_drop, ← own_vl ds, List.drop_left, List.drop_replicate]
  have e3 : own_vs (ds ++ cc) = own_vs ds ++ own_vs cc := by simp [own_vs]
  rw [e1, e2, e3]
  intro i
  exact (pad_rep _ _ _ i).symm
theorem own_st {ds : List Int32} (v : Int32) {x : Int32} (h : own_fit ds [x]) (hv : v = StrChars.lo8 x) : ∀ i, (own_vs (ds ++ [x])).getD i (.int 0) = ((own_pad ds).set ds.length (.int v)).getD i (.int 0) := by
  have h : ds.length + 1 ≤ 16 := h
  have e3 : own_vs (ds ++ [x]) = own_vs ds ++ [Value.int v] := by simp [own_vs, hv]
  have e4 : (own_pad ds).set ds.length (.int v) = own_vs (ds ++ [x]) ++ List.replicate 15 (Value.int 0) := by
    rw [own_pad, e3, List.set_append, if_neg (by rw [own_vl]; omega), own_vl, Nat.sub_self, show (16 : Nat) = 15 + 1 from rfl, List.replicate_succ, List.set_cons_zero, List.append_assoc, List.singleton_append]
  intro i
  rw [e4, pad_rep]
theorem own_padlen (ds : List Int32) : (own_pad ds).length = ds.length + 16 := by simp [own_pad, own_vl]
theorem own_znil : (0 : Int32) = own_z own_nil := by decide
theorem own_f1 {a b : List Int32} (h : own_fit a b) : a.length ≤ 4000 := by
  have h : a.length + b.length ≤ 16 := h
  omega
theorem own_f2 {a b : List Int32} (h : own_fit a b) : b.length ≤ 4000 := by
  have h : a.length + b.length ≤ 16 := h
  omega
theorem own_f16 {a : List Int32} {x : Int32} (h : own_fit a [x]) : a.length < 16 := by
  have h : a.length + 1 ≤ 16 := h
  omega
theorem own_s4 {a : List Int32} (h : own_sh a) : a.length ≤ 4000 := by
  have h : a.length < 16 := h
  omega
theorem own_s16 {a : List Int32} (h : own_sh a) : (own_z a).toNatClampNeg ≤ 16 := by
  have q : a.length < 16 := h
  rw [own_zn (own_s4 h)]; omega
theorem own_fs {a : List Int32} (h : own_sh a) : own_fit own_nil a := by
  have q : a.length < 16 := h
  show 0 + a.length ≤ 16
  omega
theorem own_n16 : (16 : Int32).toNatClampNeg = 16 := by decide
theorem own_4z {a b : List Int32} (h : own_fit a b) : b.length ≤ (own_z b).toNatClampNeg := by
  rw [own_zn (own_f2 h)]; exact Nat.le_refl _
theorem own_516 {a b : List Int32} (h : own_fit a b) : a.length + b.length ≤ (16 : Int32).toNatClampNeg := by
  rw [own_n16]; exact h
theorem own_416 {a : List Int32} (h : own_sh a) : a.length ≤ (16 : Int32).toNatClampNeg := by
  have q : a.length < 16 := h
  rw [own_n16]; omega
theorem own_5n {a : List Int32} (h : own_sh a) : own_nil.length + a.length ≤ (own_z a).toNatClampNeg := by
  rw [own_zn (own_s4 h)]
  show 0 + a.length ≤ a.length
  omega
theorem own_ne16 {a : List Int32} (h : own_sh a) : ¬ own_z a = (16 : Int32) := fun q => by
  have := own_zlt h
  rw [q] at this
  exact absurd this (by decide)
theorem own_selfP {Z : State} {a0 : Array Value} {K : String} {y : MethodName} (w : (Jvm.Cond.selects K y y).before a0 Z = true) (hp : (Jvm.Cond.privateMethod y).before a0 Z = true) (hi : (Jvm.Cond.instanceMethod y).before a0 Z = true) (hy : y.cls ≠ "java/lang/invoke/MethodHandle" ∧ y.cls ≠ "java/lang/invoke/VarHandle") : (Jvm.Cond.selects y.cls y y).before a0 Z = true := by
  obtain ⟨c, r, m, -, -, q3, -, mk, hk, hki⟩ := Cond.selects_spec w
  exact selects_self_of_private (findClass_of_methodNamed q3) hk hki (Cond.privateMethod_at hp) hi hy
theorem own_sameM {Z : State} {a0 : Array Value} {K : String} {y z z' : MethodName} (w : (Jvm.Cond.selects K z z').before a0 Z = true) (hc : z'.cls = y.cls) (hi : (Jvm.Cond.instanceMethod y).before a0 Z = true) (hy : y.cls ≠ "java/lang/invoke/MethodHandle" ∧ y.cls ≠ "java/lang/invoke/VarHandle") : (Jvm.Cond.sameMethod y.cls y.cls y.name y.desc).before a0 Z = true := by
  obtain ⟨c, r, m, -, -, q3, -, mk, hk, hki⟩ := Cond.selects_spec w
  obtain ⟨my, methM, hnamed, hmethM, -, -⟩ := Cond.instanceMethod_spec hi
  have hfound := State.methodFound?_of_named hnamed hy
  have hcl : Z.vm.findClass y.cls = some m.cls := by rw [← hc]; exact findClass_of_methodNamed q3
  have hn : Z.methodNamed? ⟨y.cls, y.name, y.desc⟩ = some my := hnamed
  simp only [Cond.before, Cond.holds, Cond.value, hcl, hfound, hn, hk]
  simp [hki]
theorem own_nf {s : State} {args : Array Value} {K : String} {y z z' : MethodName} (w : (Jvm.Cond.selects K z z').before args s = true) (hc : z'.cls = y.cls) : NotFace s y := fun r0 h0 => by
  obtain ⟨c, r, m, -, -, q3, -, mk, hk, hki⟩ := Cond.selects_spec w
  have e1 := findClass_of_methodNamed h0
  have e2 := findClass_of_methodNamed q3
  rw [hc] at e2
  have e3 : r0.cls = m.cls := Option.some.inj (e1.symm.trans e2)
  exact ⟨mk, by rw [e3]; exact hk, hki⟩
theorem own_nfw : nativeFrameWords "java/lang/System" "arraycopy" 5 = 7 := by first | rfl | decide | simp [nativeFrameWords]
theorem own_cpy {p : Program} {l : Launch} {e : Env} {R : Room} {s Z : State} {m : MethodId} {args : Array Value} {below : List Frame} {meth : Method} {c : Code} {T : State} {locs : List Loc} {cells slots : Nat} {h : Heap} {a b : Addr} (X : Stand p l e R s m args below meth c T locs cells slots) (hx : p.tables.exec = Jvm.exec) (hZ : Z.Warmed39 s.vm) {a0 : Array Value} {own : String} {index : Nat} (hown : s.vm.findClass own = some m.cls)
    (w1 : (Jvm.Cond.methodLink own index Jvm.Stand.acN).before a0 Z = true) (w2 : (Jvm.Cond.native Jvm.Stand.acN).before a0 Z = true) (w3 : (Jvm.Cond.static Jvm.Stand.acN).before a0 Z = true) (w4 : (Jvm.Cond.initialized "java/lang/System").before a0 Z = true) (eT : T.heap = h)
    {ka kb : ClassId} {z z' dp nn : Int32} {cc ds : List Int32} (A : Arv Z h a ka .byte z (own_vs cc) (.int 0)) (B : Arv Z h b kb .byte z' (own_vs ds) (.int 0)) (hdp : dp = own_z ds) (hnn : nn = own_z cc) (hf0 : own_fit ds cc) (h4 : cc.length ≤ z.toNatClampNeg) (h5 : ds.length + cc.length ≤ z'.toNatClampNeg) {n0 : Nat} (N : Fr n0 locs) (ge : n0 ≤ b)
    {g : JFrame} (hg : g.method = m) (hsize : g.locals.size = c.maxLocals) {rest : List Value} (hs : g.stack = .int nn :: .int dp :: .ref b :: .int 0 :: .ref a :: rest) (hd : decode c.code g.pc = .ok (.invokestatic index, 3))
    (hf : 1 ≤ R.frames) {W : Nat} (hW : 2 * g.monitorRoom + (rest.map fun v => v.category).sum ≤ W) (hlo : W + 18 ≤ R.locals) :
    ∃ T' h' L, Stand p l e R s m args below meth c T' L cells slots ∧ T'.heap = h' ∧ Fr n0 L ∧ Keep h h' [b] ∧ Arv Z h' b kb .byte z' (own_vs (ds ++ cc)) (.int 0) ∧
      ∀ target, Steps p.tables e below (T'.setTop { g with pc := g.pc + 3, stack := rest }) target → Steps p.tables e below (T.setTop g) target := by
  have hl : ds.length + cc.length ≤ 16 := hf0
  have z0 : (0 : Int32).toNatClampNeg = 0 := by decide
  subst hdp hnn
  obtain ⟨T', h', L, X', e', N', K', V', st⟩ := cpA X hx hZ hown w1 w2 w3 w4 eT (us := own_vs cc) A (B.pad (vs' := own_pad ds) (pad_rep _ _ _)) (Or.inl ⟨rfl, rfl⟩) (by decide) (own_z0 (by omega)) (own_z0 (by omega)) (by rw [own_zn (by omega), z0]; omega) (by rw [own_zn (by omega), own_zn (by omega)]; exact h5) (own_us cc (by omega)) (by rw [own_zn (by omega), own_zn (by omega), own_padlen]; omega) N ge hg hsize hs hd hf hW (by rw [own_nfw]; omega)
  exact ⟨T', h', L, X', e', N', K', V'.pad (own_app ds cc hf0), st⟩

theorem ef_rm_abinit (m : MethodId) (x0 : Addr) : entryFrame m #[(.ref x0), (.int 16)] 2 = mkF m 0 #[vr x0, vi 16] [] := by first | (simp [entryFrame, mkF, argsToLocals, Value.category]; done) | rfl
theorem d16_0 : decode jdk_68_method_2_code 0 = .ok (.aload_n 0, 1) := by decide +kernel
theorem d16_1 : decode jdk_68_method_2_code 1 = .ok (.invokespecial 3, 3) := by decide +kernel
theorem d16_4 : decode jdk_68_method_2_code 4 = .ok (.getstatic 18, 3) := by decide +kernel
theorem d16_7 : decode jdk_68_method_2_code 7 = .ok (.ifCond .eq 18, 3) := by decide +kernel
theorem d16_10 : decode jdk_68_method_2_code 10 = .ok (.aload_n 0, 1) := by decide +kernel
theorem d16_11 : decode jdk_68_method_2_code 11 = .ok (.iload_n 1, 1) := by decide +kernel
theorem d16_12 : decode jdk_68_method_2_code 12 = .ok (.newarray .byte, 2) := by decide +kernel
theorem d16_14 : decode jdk_68_method_2_code 14 = .ok (.putfield 15, 3) := by decide +kernel
theorem d16_17 : decode jdk_68_method_2_code 17 = .ok (.aload_n 0, 1) := by decide +kernel
theorem d16_18 : decode jdk_68_method_2_code 18 = .ok (.iconst 0, 1) := by decide +kernel
theorem d16_19 : decode jdk_68_method_2_code 19 = .ok (.putfield 22, 3) := by decide +kernel
theorem d16_22 : decode jdk_68_method_2_code 22 = .ok (.goto 16, 3) := by decide +kernel
theorem d16_38 : decode jdk_68_method_2_code 38 = .ok (.return_, 1) := by decide +kernel
theorem pn_java_lang_AbstractStringBuilder : plainName "java/lang/AbstractStringBuilder" = true := by first | (simp [plainName, overriddenIn]; done) | decide +kernel
def Q_rm_abinit (Z : State) (a1 : Addr) (cs : Int32) (h0 : Heap) (n0 : Nat) (vv : Option Value) (h : Heap) (L : List Loc) : Prop := ∃ t : Addr, ∃ k : ClassId, vv = none ∧ Fr n0 L ∧ Keep h0 h [a1] ∧ Exa Z h a1 "java/lang/StringBuilder" ∧ Fld Z h a1 "java/lang/AbstractStringBuilder" "value" "[B" (.ref t) ∧ Fld Z h a1 "java/lang/AbstractStringBuilder" "coder" "B" (.int 0) ∧ Fld Z h a1 "java/lang/AbstractStringBuilder" "count" "I" (.int (own_z own_nil)) ∧ Arv Z h t k .byte (16 : Int32) (own_vs own_nil) (.int 0) ∧ h0.size ≤ t
set_option maxRecDepth 65536 in
set_option maxHeartbeats 40000000 in
theorem rm_abinit (l : Launch) (Z : State) (a0 : Array Value) (hw : HW a0 Z) (ws : List Jvm.Cond) (a1 : Addr) (cs : Int32) (h0 : Heap) (n0 : Nat) (Z0 : n0 ≤ h0.size) (pr0 : Old Z n0 h0) (pr1 : Sta Z Z.heap "java/lang/String" "COMPACT_STRINGS" "Z" (.int cs)) (hcs : ¬ (cs = (0 : Int32))) (pr3 : Exa Z h0 a1 "java/lang/StringBuilder") (pr4 : Fld Z h0 a1 "java/lang/AbstractStringBuilder" "value" "[B" .null) (pr5 : Fld Z h0 a1 "java/lang/AbstractStringBuilder" "coder" "B" (.int 0)) (pr6 : Fld Z h0 a1 "java/lang/AbstractStringBuilder" "count" "I" (.int 0)) (pr7 : n0 ≤ a1) :
    Met l Z Y7 jdk_68_method_2_code 2 none ws ({ frames := 1, cells := 1, slots := 16, locals := 12 } : Room) #[(.ref a1), (.int 16)] h0 (Q_rm_abinit Z a1 cs h0 n0) := by
  refine Met.enter (f0 := fun m => mkF m 0 #[vr a1, vi 16] []) (plainFor_of_name pn_java_lang_AbstractStringBuilder) (fun m => ef_rm_abinit m a1) ?_
  intro p e s m below meth c s₁ hx hby hml hown hnm hret hlk hZ X0 e0
  have hown : s.vm.findClass "java/lang/AbstractStringBuilder" = some m.cls := hown
  have hnm : meth.name = "<init>" := hnm
  have hml : c.maxLocals = 2 := hml
  have dk : ∀ {i : Nat} {r : Except DecodeError (Instr × Nat)}, decode jdk_68_method_2_code i = r → decode c.code i = r := fun h => hb hby h
  have N0 := Fr.nil n0
  refine gy (St s₁ m 1 #[vr a1, vi 16] [(.ref a1)]) (fun _ k => XS.aloadN X0.here hx rfl (dk d16_0) rfl rfl k) ?_
  obtain ⟨T66, X66, e66, st66⟩ := initO X0 hx hZ hown (wd hw 72 rfl) (wd hw 27 rfl) (wd hw 28 rfl) e0 (g := (mkF m 1 #[vr a1, vi 16] [(.ref a1)])) rfl (by rw [hml]; rfl) rfl (dk d16_1) (by decide) (W := 0) (by show 2 * 0 + _ ≤ _; exact Nat.le_of_eq rfl) (by decide)
  refine gy (St T66 m 4 #[vr a1, vi 16] []) st66 ?_
  obtain ⟨T67, X67, e67, st67⟩ := getS2 X66 hx hZ hown (host := "") (Or.inl (wd hw 73 rfl)) Via.refl e66 (pr1.ext pr0.2) (g := (mkF m 4 #[vr a1, vi 16] [])) rfl (dk d16_4)
  refine gy (St T67 m 7 #[vr a1, vi 16] [(.int cs)]) st67 ?_
  refine gy (St T67 m 12 #[vr a1, vi 16] [(.int 16), (.ref a1)]) (fun _ k => XS.ifNo X67.here hx rfl (dk d16_7) rfl ((if0 _ _).trans (feq hcs).1) (XS.aloadN X67.here hx rfl (dk d16_10) rfl rfl (XS.iloadN X67.here hx rfl (dk d16_11) rfl k))) ?_
  obtain ⟨T68, h68, k68, X68, e68, E68, A68, st68⟩ := newP X67 hx hZ (wd hw 21 rfl) e67 (g := (mkF m 12 #[vr a1, vi 16] [(.int 16), (.ref a1)])) rfl (dk d16_12) rfl (by decide) (cap := 16) (by decide) (by decide) (by decide) (by decide)
  obtain ⟨b68, g68⟩ : ∃ z, z = h0.size := ⟨_, rfl⟩
  rw [← g68] at A68 st68
  have sz_b68 : h0.size ≤ b68 := Nat.le_of_eq g68.symm
  have V68 : Arv Z h68 b68 k68 .byte (16 : Int32) [(.int 0), (.int 0), (.int 0), (.int 0), (.int 0), (.int 0), (.int 0), (.int 0), (.int 0), (.int 0), (.int 0), (.int 0), (.int 0), (.int 0), (.int 0), (.int 0)] (.int 0) := (Arv.new A68 (by decide)).pad (pad_rep [] (.int 0) 16)
  have O69 := pr0.ext E68
  have Z69 : n0 ≤ h68.size := Nat.le_trans Z0 E68.1
  refine gy (St T68 m 14 #[vr a1, vi 16] [(.ref b68), (.ref a1)]) st68 ?_
  obtain ⟨T70, h70, X70, e70, W70, st70⟩ := putF X68 hx hZ hown (host := "") (Or.inl (wd hw 74 rfl)) Via.refl e68 (pr4.ext E68) (pr3.ext E68) (Or.inl (wd hw 75 rfl)) (wd hw 61 rfl) (ty := (.array .byte)) (by decide) rfl rfl (g := (mkF m 14 #[vr a1, vi 16] [(.ref b68), (.ref a1)])) rfl rfl (dk d16_14)
  have N70 := Fr.snoc X70 N0 pr7
  have O71 := O69.wr W70 pr7
  have Z71 : n0 ≤ h70.size := Nat.le_trans Z69 (Keep.of_wr W70).1
  have F70 := (pr4.ext E68).same W70
  refine gy (St T70 m 17 #[vr a1, vi 16] []) st70 ?_
  refine gy (St T70 m 19 #[vr a1, vi 16] [(.int 0), (.ref a1)]) (fun _ k => XS.aloadN X70.here hx rfl (dk d16_17) rfl rfl (XS.iconst X70.here hx rfl (dk d16_18) k)) ?_
  have f72 := ((pr5.ext E68).other W70 (Or.inr (slot_ne (Or.inl (wd hw 77 rfl)) (Or.inl (wd hw 75 rfl)) (by decide) (t := .byte) (t' := (.array .byte)) (by decide) (by decide))))
  obtain ⟨T73, h73, X73, e73, W73, st73⟩ := putFN X70 hx hZ hown (wd hw 76 rfl) Via.refl e70 f72 ((pr3.ext E68).wr W70) (Or.inl (wd hw 77 rfl)) (wd hw 61 rfl) (ty := .byte) (v' := (.int 0)) (by decide) rfl rfl (g := (mkF m 19 #[vr a1, vi 16] [(.int 0), (.ref a1)])) rfl rfl (dk d16_19)
  have N73 := Fr.snoc X73 N70 pr7
  have O74 := O71.wr W73 pr7
  have Z74 : n0 ≤ h73.size := Nat.le_trans Z71 (Keep.of_wr W73).1
  have F73 := f72.same W73
  refine gy (St T73 m 22 #[vr a1, vi 16] []) st73 ?_
  refine gy (St T73 m 38 #[vr a1, vi 16] []) (fun _ k => XS.goto X73.here hx rfl (pc0 := 22) (pc' := 38) rfl (dk d16_22) (by decide) (by decide) k) ?_
  refine Go.retV X73 hx hlk hret (dk d16_38) (by decide) (by decide) ?_
  have F75 : Fld Z h73 a1 "java/lang/AbstractStringBuilder" "count" "I" (.int (own_z own_nil)) := (((pr6.ext E68).other W70 (Or.inr (slot_ne (Or.inl (wd hw 99 rfl)) (Or.inl (wd hw 75 rfl)) (by decide) (t := .int) (t' := (.array .byte)) (by decide) (by decide)))).other W73 (Or.inr (slot_ne (Or.inl (wd hw 99 rfl)) (Or.inl (wd hw 77 rfl)) (by decide) (t := .int) (t' := .byte) (by decide) (by decide))))
  rw [e73]
  have V76 : Arv Z h73 b68 k68 .byte (16 : Int32) (own_vs own_nil) (.int 0) := Arv.pad ((V68.other W70 (Ne.symm (Nat.ne_of_lt (Nat.lt_of_lt_of_le pr3.lt sz_b68)))).other W73 (Ne.symm (Nat.ne_of_lt (Nat.lt_of_lt_of_le pr3.lt sz_b68)))) (fun i => (pad_rep [] (.int 0) 16 i).symm)
  exact ⟨b68, k68, rfl, N73, ((((Keep.refl h0 [a1]).ext E68).wr W70 (Or.inl (List.mem_of_getElem? (i := 0) rfl))).wr W73 (Or.inl (List.mem_of_getElem? (i := 0) rfl))), (((pr3.ext E68).wr W70).wr W73), (F70.other W73 (Or.inr (slot_ne (Or.inl (wd hw 75 rfl)) (Or.inl (wd hw 77 rfl)) (by decide) (t := (.array .byte)) (t' := .byte) (by decide) (by decide)))), F73, F75, V76, (Nat.le_trans (Nat.le_refl _) sz_b68)⟩
theorem ef_rm_sbinit (m : MethodId) (x0 : Addr) : entryFrame m #[(.ref x0)] 1 = mkF m 0 #[vr x0] [] := by first | (simp [entryFrame, mkF, argsToLocals, Value.category]; done) | rfl
theorem d15_0 : decode jdk_67_method_1_code 0 = .ok (.aload_n 0, 1) := by decide +kernel
theorem d15_1 : decode jdk_67_method_1_code 1 = .ok (.bipush 16, 2) := by decide +kernel
theorem d15_3 : decode jdk_67_method_1_code 3 = .ok (.invokespecial 1, 3) := by decide +kernel
theorem pd_7 : parseMethodDescriptor "(I)V" = some ⟨[.int], none⟩ := by decide +kernel
theorem d15_6 : decode jdk_67_method_1_code 6 = .ok (.return_, 1) := by decide +kernel
theorem pn_java_lang_StringBuilder : plainName "java/lang/StringBuilder" = true := by first | (simp [plainName, overriddenIn]; done) | decide +kernel
def Q_rm_sbinit (Z : State) (a1 : Addr) (cs : Int32) (h0 : Heap) (n0 : Nat) (vv : Option Value) (h : Heap) (L : List Loc) : Prop := ∃ t : Addr, ∃ k : ClassId, vv = none ∧ Fr n0 L ∧ Keep h0 h [a1] ∧ Exa Z h a1 "java/lang/StringBuilder" ∧ Fld Z h a1 "java/lang/AbstractStringBuilder" "value" "[B" (.ref t) ∧ Fld Z h a1 "java/lang/AbstractStringBuilder" "coder" "B" (.int 0) ∧ Fld Z h a1 "java/lang/AbstractStringBuilder" "count" "I" (.int (own_z own_nil)) ∧ Arv Z h t k .byte (16 : Int32) (own_vs own_nil) (.int 0) ∧ h0.size ≤ t
set_option maxRecDepth 65536 in
set_option maxHeartbeats 40000000 in
theorem rm_sbinit (l : Launch) (Z : State) (a0 : Array Value) (hw : HW a0 Z) (ws : List Jvm.Cond) (a1 : Addr) (cs : Int32) (h0 : Heap) (n0 : Nat) (Z0 : n0 ≤ h0.size) (pr0 : Old Z n0 h0) (pr1 : Sta Z Z.heap "java/lang/String" "COMPACT_STRINGS" "Z" (.int cs)) (hcs : ¬ (cs = (0 : Int32))) (pr3 : Exa Z h0 a1 "java/lang/StringBuilder") (pr4 : Fld Z h0 a1 "java/lang/AbstractStringBuilder" "value" "[B" .null) (pr5 : Fld Z h0 a1 "java/lang/AbstractStringBuilder" "coder" "B" (.int 0)) (pr6 : Fld Z h0 a1 "java/lang/AbstractStringBuilder" "count" "I" (.int 0)) (pr7 : n0 ≤ a1) :
    Met l Z Y27 jdk_67_method_1_code 1 none ws ({ frames := 2, cells := 1, slots := 16, locals := 25 } : Room) #[(.ref a1)] h0 (Q_rm_sbinit Z a1 cs h0 n0) := by
  refine Met.enter (f0 := fun m => mkF m 0 #[vr a1] []) (plainFor_of_name pn_java_lang_StringBuilder) (fun m => ef_rm_sbinit m a1) ?_
  intro p e s m below meth c s₁ hx hby hml hown hnm hret hlk hZ X0 e0
  have hown : s.vm.findClass "java/lang/StringBuilder" = some m.cls := hown
  have hnm : meth.name = "<init>" := hnm
  have hml : c.maxLocals = 1 := hml
  have dk : ∀ {i : Nat} {r : Except DecodeError (Instr × Nat)}, decode jdk_67_method_1_code i = r → decode c.code i = r := fun h => hb hby h
  have N0 := Fr.nil n0
  refine gy (St s₁ m 3 #[vr a1] [(.int 16), (.ref a1)]) (fun _ k => XS.aloadN X0.here hx rfl (dk d15_0) rfl rfl (XS.bipush X0.here hx rfl (dk d15_1) k)) ?_
  obtain ⟨_, _, ⟨T77, L77, k77, n77⟩, -, X77, ⟨Lc77, hQ77, l77, y77, z77⟩, st77⟩ := X0.specialBack hx (y := Y7) rfl hown (mvT hZ (wd hw 66 rfl)) (mvT hZ (wd hw 67 rfl)) (mvT hZ (wd hw 71 rfl)) (by decide) (backOf (W := 0) (rm_abinit l Z a0 hw [] a1 cs h0 n0 Z0 pr0 pr1 hcs pr3 pr4 pr5 pr6 pr7) hZ (wd hw 71 rfl) (wd hw 70 rfl) (by decide) (by decide)) (g := (mkF m 3 #[vr a1] [(.int 16), (.ref a1)])) rfl (by rw [hml]; rfl) (Steps.refl _) (a := a1) (argsL := [(.int 16)]) (rest := []) (lenOf pd_7 rfl) rfl (by show 2 * 0 + _ ≤ _; exact Nat.le_of_eq rfl) (dk d15_3) (fun _ _ => ⟨rfl, e0, Nat.le_of_ble_eq_true rfl, Nat.le_of_ble_eq_true rfl⟩)
  dsimp only [Pt.U, Pt.locs, Pt.cells, Pt.slots] at X77 l77 y77 z77 st77 hQ77
  subst l77 y77 z77
  obtain ⟨t77, k77, rfl, Nq77, K77, p77_0, p77_1, p77_2, p77_3, p77_4, p77_5⟩ := hQ77
  have N77 := Fr.app N0 Nq77
  have X77 : Stand p l e _ _ m _ below meth c T77 _ 1 16 := X77
  have O78 := pr0.keep K77 (allS pr7 all0)
  have Z78 : n0 ≤ T77.heap.size := Nat.le_trans Z0 K77.1
  have sz_t77 : h0.size ≤ t77 := p77_5
  refine gy (St T77 m 6 #[vr a1] []) (fun _ k => st77.trans k) ?_
  refine Go.retV X77 hx hlk hret (dk d15_6) (by decide) (by decide) ?_
  exact ⟨t77, k77, rfl, N77, ((Keep.refl h0 [a1]).trans K77 (allS (Or.inl (List.mem_of_getElem? (i := 0) rfl)) all0)), p77_0, p77_1, p77_2, p77_3, p77_4, (Nat.le_trans (Nat.le_refl _) sz_t77)⟩
theorem ef_rm_coder (m : MethodId) (x0 : Addr) : entryFrame m #[(.ref x0)] 1 = mkF m 0 #[vr x0] [] := by first | (simp [entryFrame, mkF, argsToLocals, Value.category]; done) | rfl
theorem d20_0 : decode jdk_42_method_152_code 0 = .ok (.getstatic 38, 3) := by decide +kernel
theorem d20_3 : decode jdk_42_method_152_code 3 = .ok (.ifCond .eq 10, 3) := by decide +kernel
theorem d20_6 : decode jdk_42_method_152_code 6 = .ok (.aload_n 0, 1) := by decide +kernel
theorem d20_7 : decode jdk_42_method_152_code 7 = .ok (.getfield 15, 3) := by decide +kernel
theorem d20_10 : decode jdk_42_method_152_code 10 = .ok (.goto 4, 3) := by decide +kernel
theorem d20_14 : decode jdk_42_method_152_code 14 = .ok (.ireturn, 1) := by decide +kernel
def Q_rm_coder (Z : State) (a2 : Addr) (cs : Int32) (h0 : Heap) (n0 : Nat) (vv : Option Value) (h : Heap) (L : List Loc) : Prop := vv = some (.int 0) ∧ Fr n0 L ∧ h = h0
set_option maxRecDepth 65536 in
set_option maxHeartbeats 40000000 in
theorem rm_coder (l : Launch) (Z : State) (a0 : Array Value) (hw : HW a0 Z) (ws : List Jvm.Cond) (a2 : Addr) (cs : Int32) (h0 : Heap) (n0 : Nat) (Z0 : n0 ≤ h0.size) (pr0 : Old Z n0 h0) (pr1 : Sta Z Z.heap "java/lang/String" "COMPACT_STRINGS" "Z" (.int cs)) (hcs : ¬ (cs = (0 : Int32))) (pr3 : Fld Z h0 a2 "java/lang/String" "coder" "B" (.int 0)) :
    Met l Z Y22 jdk_42_method_152_code 1 (some .byte) ws ({ frames := 0, cells := 0, slots := 0, locals := 0 } : Room) #[(.ref a2)] h0 (Q_rm_coder Z a2 cs h0 n0) := by
  refine Met.enter (f0 := fun m => mkF m 0 #[vr a2] []) (plainFor_of_name pn_java_lang_String) (fun m => ef_rm_coder m a2) ?_
  intro p e s m below meth c s₁ hx hby hml hown hnm hret hlk hZ X0 e0
  have hown : s.vm.findClass "java/lang/String" = some m.cls := hown
  have hnm : meth.name = "coder" := hnm
  have hml : c.maxLocals = 1 := hml
  have dk : ∀ {i : Nat} {r : Except DecodeError (Instr × Nat)}, decode jdk_42_method_152_code i = r → decode c.code i = r := fun h => hb hby h
  have N0 := Fr.nil n0
  obtain ⟨T79, X79, e79, st79⟩ := getS2 X0 hx hZ hown (host := "") (Or.inl (wd hw 11 rfl)) Via.refl e0 (pr1.ext pr0.2) (g := (mkF m 0 #[vr a2] [])) rfl (dk d20_0)
  refine gy (St T79 m 3 #[vr a2] [(.int cs)]) st79 ?_
  refine gy (St T79 m 7 #[vr a2] [(.ref a2)]) (fun _ k => XS.ifNo X79.here hx rfl (dk d20_3) rfl ((if0 _ _).trans (feq hcs).1) (XS.aloadN X79.here hx rfl (dk d20_6) rfl rfl k)) ?_
  obtain ⟨T80, X80, e80, st80⟩ := getF X79 hx hZ hown (host := "") (Or.inl (wd hw 31 rfl)) Via.refl e79 pr3 (g := (mkF m 7 #[vr a2] [(.ref a2)])) rfl rfl (dk d20_7)
  refine gy (St T80 m 10 #[vr a2] [(.int 0)]) st80 ?_
  refine gy (St T80 m 14 #[vr a2] [(.int 0)]) (fun _ k => XS.goto X80.here hx rfl (pc0 := 10) (pc' := 14) rfl (dk d20_10) (by decide) (by decide) k) ?_
  refine Go.ret X80 hx hlk (t := .byte) hret rfl (Or.inl ⟨rfl, by simp, _, rfl⟩) (dk d20_14) (by decide) (by decide) ?_
  rw [e80]
  exact ⟨rfl, N0, rfl⟩
theorem ef_rm_slen (m : MethodId) (x0 : Addr) : entryFrame m #[(.ref x0)] 1 = mkF m 0 #[vr x0] [] := by first | (simp [entryFrame, mkF, argsToLocals, Value.category]; done) | rfl
theorem d19_0 : decode jdk_42_method_54_code 0 = .ok (.aload_n 0, 1) := by decide +kernel
theorem d19_1 : decode jdk_42_method_54_code 1 = .ok (.getfield 9, 3) := by decide +kernel
theorem d19_4 : decode jdk_42_method_54_code 4 = .ok (.arraylength, 1) := by decide +kernel
theorem d19_5 : decode jdk_42_method_54_code 5 = .ok (.aload_n 0, 1) := by decide +kernel
theorem d19_6 : decode jdk_42_method_54_code 6 = .ok (.invokevirtual 335, 3) := by decide +kernel
theorem pd_8 : parseMethodDescriptor "()B" = some ⟨[], some .byte⟩ := by decide +kernel
theorem d19_9 : decode jdk_42_method_54_code 9 = .ok (.ishr, 1) := by decide +kernel
theorem d19_10 : decode jdk_42_method_54_code 10 = .ok (.ireturn, 1) := by decide +kernel
def Q_rm_slen (Z : State) (a2 : Addr) (t2 : Addr) (k2 : ClassId) (cc : List Int32) (cs : Int32) (h0 : Heap) (n0 : Nat) (vv : Option Value) (h : Heap) (L : List Loc) : Prop := vv = some (.int (own_z cc)) ∧ Fr n0 L ∧ h = h0
set_option maxRecDepth 65536 in
set_option maxHeartbeats 40000000 in
theorem rm_slen (l : Launch) (Z : State) (a0 : Array Value) (hw : HW a0 Z) (ws : List Jvm.Cond) (a2 : Addr) (t2 : Addr) (k2 : ClassId) (cc : List Int32) (cs : Int32) (h0 : Heap) (n0 : Nat) (Z0 : n0 ≤ h0.size) (pr0 : Old Z n0 h0) (pr1 : Sta Z Z.heap "java/lang/String" "COMPACT_STRINGS" "Z" (.int cs)) (hcs : ¬ (cs = (0 : Int32))) (pr3 : Exa Z h0 a2 "java/lang/String") (pr4 : Fld Z h0 a2 "java/lang/String" "value" "[B" (.ref t2)) (pr5 : Fld Z h0 a2 "java/lang/String" "coder" "B" (.int 0)) (pr6 : Arv Z h0 t2 k2 .byte (own_z cc) (own_vs cc) (.int 0)) :
    Met l Z Y25 jdk_42_method_54_code 1 (some .int) ws ({ frames := 1, cells := 0, slots := 0, locals := 13 } : Room) #[(.ref a2)] h0 (Q_rm_slen Z a2 t2 k2 cc cs h0 n0) := by
  refine Met.enter (f0 := fun m => mkF m 0 #[vr a2] []) (plainFor_of_name pn_java_lang_String) (fun m => ef_rm_slen m a2) ?_
  intro p e s m below meth c s₁ hx hby hml hown hnm hret hlk hZ X0 e0
  have hown : s.vm.findClass "java/lang/String" = some m.cls := hown
  have hnm : meth.name = "length" := hnm
  have hml : c.maxLocals = 1 := hml
  have dk : ∀ {i : Nat} {r : Except DecodeError (Instr × Nat)}, decode jdk_42_method_54_code i = r → decode c.code i = r := fun h => hb hby h
  have N0 := Fr.nil n0
  refine gy (St s₁ m 1 #[vr a2] [(.ref a2)]) (fun _ k => XS.aloadN X0.here hx rfl (dk d19_0) rfl rfl k) ?_
  obtain ⟨T81, X81, e81, st81⟩ := getF X0 hx hZ hown (host := "") (Or.inl (wd hw 29 rfl)) Via.refl e0 pr4 (g := (mkF m 1 #[vr a2] [(.ref a2)])) rfl rfl (dk d19_1)
  refine gy (St T81 m 4 #[vr a2] [(.ref t2)]) st81 ?_
  obtain ⟨cl82, Ar82, q82, S82, N_82, Hs82, G82⟩ := id pr6
  refine gy (St T81 m 5 #[vr a2] [(.int (own_z cc))]) (fun _ k => X81.arraylength hx (by rw [e81]; exact Ar82.1) (State.isArrayOf_alike hZ.alike Ar82.2.1) (g := (mkF m 4 #[vr a2] [(.ref t2)])) rfl rfl (dk d19_4) _ (by rw [len_of S82 N_82]; exact k)) ?_
  refine gy (St T81 m 6 #[vr a2] [(.ref a2), (.int (own_z cc))]) (fun _ k => XS.aloadN X81.here hx rfl (dk d19_5) rfl rfl k) ?_
  obtain ⟨cq83, kq83, q83a, q83b, q83c⟩ := isOf hZ e81 pr3
  obtain ⟨_, _, ⟨T83, L83, k83, n83⟩, -, X83, ⟨Lc83, hQ83, l83, y83, z83⟩, st83⟩ := X81.virtualBack hx (y := Y22) (z := Y22) hown (mvT hZ (wd hw 93 rfl)) (mvT hZ (wd hw 94 rfl)) (notFace_of_selects (args := #[]) (mvT hZ (wd hw 96 rfl))) (mvT hZ (wd hw 96 rfl)) (mvT hZ (wd hw 95 rfl)) (by decide) (backOf (W := 1) (rm_coder l Z a0 hw [] a2 cs h0 n0 Z0 pr0 pr1 hcs pr5) hZ (wd hw 97 rfl) (wd hw 9 rfl) (by decide) (by decide)) q83a q83c (g := (mkF m 6 #[vr a2] [(.ref a2), (.int (own_z cc))])) rfl (by rw [hml]; rfl) (Steps.refl _) (argsL := []) (rest := [(.int (own_z cc))]) (lenOf pd_8 rfl) rfl (by show 2 * 0 + _ ≤ _; exact Nat.le_of_eq rfl) (dk d19_6) (fun _ _ => ⟨rfl, e81, Nat.le_of_ble_eq_true rfl, Nat.le_of_ble_eq_true rfl⟩)
  dsimp only [Pt.U, Pt.locs, Pt.cells, Pt.slots] at X83 l83 y83 z83 st83 hQ83
  subst l83 y83 z83
  obtain ⟨rfl, Nq83, hh83⟩ := hQ83
  have N83 := Fr.app N0 Nq83
  have X83 : Stand p l e _ _ m _ below meth c T83 _ 0 0 := X83
  refine gy (St T83 m 9 #[vr a2] [(.int 0), (.int (own_z cc))]) (fun _ k => st83.trans k) ?_
  refine gy (St T83 m 10 #[vr a2] [(.int ((own_z cc) >>> ((0 : Int32) &&& 31)))]) (fun _ k => XS.ishr X83.here hx rfl (dk d19_9) rfl k) ?_
  refine Go.ret X83 hx hlk (t := .int) hret rfl (Or.inl ⟨rfl, by simp, _, rfl⟩) (dk d19_10) (by decide) (by decide) ?_
  rw [hh83]
  exact ⟨(congrArg (fun q => some (Value.int q)) (own_shr0 _)), N83, rfl⟩
theorem ef_rm_ens (m : MethodId) (x0 : Addr) (x1 : Int32) : entryFrame m #[(.ref x0), (.int x1)] 3 = mkF m 0 #[vr x0, vi x1, .unset] [] := by first | (simp [entryFrame, mkF, argsToLocals, Value.category]; done) | rfl
theorem d21_0 : decode jdk_68_method_9_code 0 = .ok (.aload_n 0, 1) := by decide +kernel
theorem d21_1 : decode jdk_68_method_9_code 1 = .ok (.getfield 15, 3) := by decide +kernel
theorem d21_4 : decode jdk_68_method_9_code 4 = .ok (.arraylength, 1) := by decide +kernel
theorem d21_5 : decode jdk_68_method_9_code 5 = .ok (.aload_n 0, 1) := by decide +kernel
theorem d21_6 : decode jdk_68_method_9_code 6 = .ok (.getfield 22, 3) := by decide +kernel
theorem d21_9 : decode jdk_68_method_9_code 9 = .ok (.ishr, 1) := by decide +kernel
theorem d21_10 : decode jdk_68_method_9_code 10 = .ok (.istore_n 2, 1) := by decide +kernel
theorem d21_11 : decode jdk_68_method_9_code 11 = .ok (.iload_n 1, 1) := by decide +kernel
theorem d21_12 : decode jdk_68_method_9_code 12 = .ok (.iload_n 2, 1) := by decide +kernel
theorem d21_13 : decode jdk_68_method_9_code 13 = .ok (.isub, 1) := by decide +kernel
theorem d21_14 : decode jdk_68_method_9_code 14 = .ok (.ifCond .le 24, 3) := by decide +kernel
theorem d21_38 : decode jdk_68_method_9_code 38 = .ok (.return_, 1) := by decide +kernel
def Q_rm_ens (Z : State) (a1 : Addr) (t1 : Addr) (k1 : ClassId) (ds : List Int32) (p1 : Int32) (h0 : Heap) (n0 : Nat) (vv : Option Value) (h : Heap) (L : List Loc) : Prop := vv = none ∧ Fr n0 L ∧ h = h0
set_option maxRecDepth 65536 in
set_option maxHeartbeats 40000000 in
theorem rm_ens (l : Launch) (Z : State) (a0 : Array Value) (hw : HW a0 Z) (ws : List Jvm.Cond) (a1 : Addr) (t1 : Addr) (k1 : ClassId) (ds : List Int32) (p1 : Int32) (h0 : Heap) (n0 : Nat) (Z0 : n0 ≤ h0.size) (pr0 : Exa Z h0 a1 "java/lang/StringBuilder") (pr1 : Fld Z h0 a1 "java/lang/AbstractStringBuilder" "value" "[B" (.ref t1)) (pr2 : Fld Z h0 a1 "java/lang/AbstractStringBuilder" "coder" "B" (.int 0)) (pr3 : Arv Z h0 t1 k1 .byte (16 : Int32) (own_vs ds) (.int 0)) (hp : ¬ ((0 : Int32) < (p1 - (16 : Int32)))) :
    Met l Z Y10 jdk_68_method_9_code 3 none ws ({ frames := 0, cells := 0, slots := 0, locals := 0 } : Room) #[(.ref a1), (.int p1)] h0 (Q_rm_ens Z a1 t1 k1 ds p1 h0 n0) := by
  refine Met.enter (f0 := fun m => mkF m 0 #[vr a1, vi p1, .unset] []) (plainFor_of_name pn_java_lang_AbstractStringBuilder) (fun m => ef_rm_ens m a1 p1) ?_
  intro p e s m below meth c s₁ hx hby hml hown hnm hret hlk hZ X0 e0
  have hown : s.vm.findClass "java/lang/AbstractStringBuilder" = some m.cls := hown
  have hnm : meth.name = "ensureCapacityInternal" := hnm
  have hml : c.maxLocals = 3 := hml
  have dk : ∀ {i : Nat} {r : Except DecodeError (Instr × Nat)}, decode jdk_68_method_9_code i = r → decode c.code i = r := fun h => hb hby h
  have N0 := Fr.nil n0
  refine gy (St s₁ m 1 #[vr a1, vi p1, .unset] [(.ref a1)]) (fun _ k => XS.aloadN X0.here hx rfl (dk d21_0) rfl rfl k) ?_
  obtain ⟨T84, X84, e84, st84⟩ := getF X0 hx hZ hown (host := "") (Or.inl (wd hw 74 rfl)) Via.refl e0 pr1 (g := (mkF m 1 #[vr a1, vi p1, .unset] [(.ref a1)])) rfl rfl (dk d21_1)
  refine gy (St T84 m 4 #[vr a1, vi p1, .unset] [(.ref t1)]) st84 ?_
  obtain ⟨cl85, Ar85, q85, S85, N_85, Hs85, G85⟩ := id pr3
  refine gy (St T84 m 5 #[vr a1, vi p1, .unset] [(.int 16)]) (fun _ k => X84.arraylength hx (by rw [e84]; exact Ar85.1) (State.isArrayOf_alike hZ.alike Ar85.2.1) (g := (mkF m 4 #[vr a1, vi p1, .unset] [(.ref t1)])) rfl rfl (dk d21_4) _ (by rw [len_of S85 N_85]; exact k)) ?_
  refine gy (St T84 m 6 #[vr a1, vi p1, .unset] [(.ref a1), (.int 16)]) (fun _ k => XS.aloadN X84.here hx rfl (dk d21_5) rfl rfl k) ?_
  obtain ⟨T86, X86, e86, st86⟩ := getF X84 hx hZ hown (host := "") (Or.inl (wd hw 76 rfl)) Via.refl e84 pr2 (g := (mkF m 6 #[vr a1, vi p1, .unset] [(.ref a1), (.int 16)])) rfl rfl (dk d21_6)
  refine gy (St T86 m 9 #[vr a1, vi p1, .unset] [(.int 0), (.int 16)]) st86 ?_
  refine gy (St T86 m 38 #[vr a1, vi p1, vi 16] []) (fun _ k => XS.ishr X86.here hx rfl (dk d21_9) rfl (XS.istoreN X86.here hx rfl (dk d21_10) rfl (l' := #[vr a1, vi p1, vi 16]) rfl (XS.iloadN X86.here hx rfl (dk d21_11) rfl (XS.iloadN X86.here hx rfl (dk d21_12) rfl (XS.isub X86.here hx rfl (dk d21_13) rfl (XS.ifYes X86.here hx rfl (pc0 := 14) (pc' := 38) rfl (dk d21_14) rfl ((if0 _ _).trans (flt hp).2.2.2) (by decide) (by decide) k)))))) ?_
  refine Go.retV X86 hx hlk hret (dk d21_38) (by decide) (by decide) ?_
  rw [e86]
  exact ⟨rfl, N0, rfl⟩
theorem ef_rm_infl (m : MethodId) (x0 : Addr) (x1 : Addr) : entryFrame m #[(.ref x0), (.ref x1)] 2 = mkF m 0 #[vr x0, vr x1] [] := by first | (simp [entryFrame, mkF, argsToLocals, Value.category]; done) | rfl
theorem d23_0 : decode jdk_68_method_71_code 0 = .ok (.getstatic 18, 3) := by decide +kernel
theorem d23_3 : decode jdk_68_method_71_code 3 = .ok (.ifCond .eq 18, 3) := by decide +kernel
theorem d23_6 : decode jdk_68_method_71_code 6 = .ok (.aload_n 0, 1) := by decide +kernel
theorem d23_7 : decode jdk_68_method_71_code 7 = .ok (.getfield 22, 3) := by decide +kernel
theorem d23_10 : decode jdk_68_method_71_code 10 = .ok (.aload_n 1, 1) := by decide +kernel
theorem d23_11 : decode jdk_68_method_71_code 11 = .ok (.invokevirtual 40, 3) := by decide +kernel
theorem d23_14 : decode jdk_68_method_71_code 14 = .ok (.if_icmp .eq 7, 3) := by decide +kernel
theorem d23_21 : decode jdk_68_method_71_code 21 = .ok (.return_, 1) := by decide +kernel
def Q_rm_infl (Z : State) (a1 : Addr) (a2 : Addr) (cs : Int32) (h0 : Heap) (n0 : Nat) (vv : Option Value) (h : Heap) (L : List Loc) : Prop := vv = none ∧ Fr n0 L ∧ h = h0
set_option maxRecDepth 65536 in
set_option maxHeartbeats 40000000 in
theorem rm_infl (l : Launch) (Z : State) (a0 : Array Value) (hw : HW a0 Z) (ws : List Jvm.Cond) (a1 : Addr) (a2 : Addr) (cs : Int32) (h0 : Heap) (n0 : Nat) (Z0 : n0 ≤ h0.size) (pr0 : Old Z n0 h0) (pr1 : Sta Z Z.heap "java/lang/String" "COMPACT_STRINGS" "Z" (.int cs)) (hcs : ¬ (cs = (0 : Int32))) (pr3 : Fld Z h0 a1 "java/lang/AbstractStringBuilder" "coder" "B" (.int 0)) (pr4 : Exa Z h0 a2 "java/lang/String") (pr5 : Fld Z h0 a2 "java/lang/String" "coder" "B" (.int 0)) :
    Met l Z Y12 jdk_68_method_71_code 2 none ws ({ frames := 1, cells := 0, slots := 0, locals := 13 } : Room) #[(.ref a1), (.ref a2)] h0 (Q_rm_infl Z a1 a2 cs h0 n0) := by
  refine Met.enter (f0 := fun m => mkF m 0 #[vr a1, vr a2] []) (plainFor_of_name pn_java_lang_AbstractStringBuilder) (fun m => ef_rm_infl m a1 a2) ?_
  intro p e s m below meth c s₁ hx hby hml hown hnm hret hlk hZ X0 e0
  have hown : s.vm.findClass "java/lang/AbstractStringBuilder" = some m.cls := hown
  have hnm : meth.name = "inflateIfNeededFor" := hnm
  have hml : c.maxLocals = 2 := hml
  have dk : ∀ {i : Nat} {r : Except DecodeError (Instr × Nat)}, decode jdk_68_method_71_code i = r → decode c.code i = r := fun h => hb hby h
  have N0 := Fr.nil n0
  obtain ⟨T87, X87, e87, st87⟩ := getS2 X0 hx hZ hown (host := "") (Or.inl (wd hw 73 rfl)) Via.refl e0 (pr1.ext pr0.2) (g := (mkF m 0 #[vr a1, vr a2] [])) rfl (dk d23_0)
  refine gy (St T87 m 3 #[vr a1, vr a2] [(.int cs)]) st87 ?_
  refine gy (St T87 m 7 #[vr a1, vr a2] [(.ref a1)]) (fun _ k => XS.ifNo X87.here hx rfl (dk d23_3) rfl ((if0 _ _).trans (feq hcs).1) (XS.aloadN X87.here hx rfl (dk d23_6) rfl rfl k)) ?_
  obtain ⟨T88, X88, e88, st88⟩ := getF X87 hx hZ hown (host := "") (Or.inl (wd hw 76 rfl)) Via.refl e87 pr3 (g := (mkF m 7 #[vr a1, vr a2] [(.ref a1)])) rfl rfl (dk d23_7)
  refine gy (St T88 m 10 #[vr a1, vr a2] [(.int 0)]) st88 ?_
  refine gy (St T88 m 11 #[vr a1, vr a2] [(.ref a2), (.int 0)]) (fun _ k => XS.aloadN X88.here hx rfl (dk d23_10) rfl rfl k) ?_
  obtain ⟨cq89, kq89, q89a, q89b, q89c⟩ := isOf hZ e88 pr4
  obtain ⟨_, _, ⟨T89, L89, k89, n89⟩, -, X89, ⟨Lc89, hQ89, l89, y89, z89⟩, st89⟩ := X88.virtualBack hx (y := Y22) (z := Y22) hown (mvT hZ (wd hw 115 rfl)) (mvT hZ (wd hw 94 rfl)) (notFace_of_selects (args := #[]) (mvT hZ (wd hw 96 rfl))) (mvT hZ (wd hw 96 rfl)) (mvT hZ (wd hw 95 rfl)) (by decide) (backOf (W := 1) (rm_coder l Z a0 hw [] a2 cs h0 n0 Z0 pr0 pr1 hcs pr5) hZ (wd hw 97 rfl) (wd hw 9 rfl) (by decide) (by decide)) q89a q89c (g := (mkF m 11 #[vr a1, vr a2] [(.ref a2), (.int 0)])) rfl (by rw [hml]; rfl) (Steps.refl _) (argsL := []) (rest := [(.int 0)]) (lenOf pd_8 rfl) rfl (by show 2 * 0 + _ ≤ _; exact Nat.le_of_eq rfl) (dk d23_11) (fun _ _ => ⟨rfl, e88, Nat.le_of_ble_eq_true rfl, Nat.le_of_ble_eq_true rfl⟩)
  dsimp only [Pt.U, Pt.locs, Pt.cells, Pt.slots] at X89 l89 y89 z89 st89 hQ89
  subst l89 y89 z89
  obtain ⟨rfl, Nq89, hh89⟩ := hQ89
  have N89 := Fr.app N0 Nq89
  have X89 : Stand p l e _ _ m _ below meth c T89 _ 0 0 := X89
  refine gy (St T89 m 14 #[vr a1, vr a2] [(.int 0), (.int 0)]) (fun _ k => st89.trans k) ?_
  refine gy (St T89 m 21 #[vr a1, vr a2] []) (fun _ k => XS.icmpYes X89.here hx rfl (pc0 := 14) (pc' := 21) rfl (dk d23_14) rfl (teq (by decide : (0 : Int32) = (0 : Int32))).1 (by decide) (by decide) k) ?_
  refine Go.retV X89 hx hlk hret (dk d23_21) (by decide) (by decide) ?_
  rw [hh89]
  exact ⟨rfl, N89, rfl⟩
theorem ef_rm_getB (m : MethodId) (x0 : Addr) (x1 : Addr) (x2 : Int32) : entryFrame m #[(.ref x0), (.ref x1), (.int x2), (.int 0)] 4 = mkF m 0 #[vr x0, vr x1, vi x2, vi 0] [] := by first | (simp [entryFrame, mkF, argsToLocals, Value.category]; done) | rfl
theorem d24_0 : decode jdk_42_method_147_code 0 = .ok (.aload_n 0, 1) := by decide +kernel
theorem d24_1 : decode jdk_42_method_147_code 1 = .ok (.invokevirtual 335, 3) := by decide +kernel
theorem d24_4 : decode jdk_42_method_147_code 4 = .ok (.iload_n 3, 1) := by decide +kernel
theorem d24_5 : decode jdk_42_method_147_code 5 = .ok (.if_icmp .ne 23, 3) := by decide +kernel
theorem d24_8 : decode jdk_42_method_147_code 8 = .ok (.aload_n 0, 1) := by decide +kernel
theorem d24_9 : decode jdk_42_method_147_code 9 = .ok (.getfield 9, 3) := by decide +kernel
theorem d24_12 : decode jdk_42_method_147_code 12 = .ok (.iconst 0, 1) := by decide +kernel
theorem d24_13 : decode jdk_42_method_147_code 13 = .ok (.aload_n 1, 1) := by decide +kernel
theorem d24_14 : decode jdk_42_method_147_code 14 = .ok (.iload_n 2, 1) := by decide +kernel
theorem d24_15 : decode jdk_42_method_147_code 15 = .ok (.iload_n 3, 1) := by decide +kernel
theorem d24_16 : decode jdk_42_method_147_code 16 = .ok (.ishl, 1) := by decide +kernel
theorem d24_17 : decode jdk_42_method_147_code 17 = .ok (.aload_n 0, 1) := by decide +kernel
theorem d24_18 : decode jdk_42_method_147_code 18 = .ok (.getfield 9, 3) := by decide +kernel
theorem d24_21 : decode jdk_42_method_147_code 21 = .ok (.arraylength, 1) := by decide +kernel
theorem d24_22 : decode jdk_42_method_147_code 22 = .ok (.invokestatic 212, 3) := by decide +kernel
theorem d24_25 : decode jdk_42_method_147_code 25 = .ok (.goto 18, 3) := by decide +kernel
theorem d24_43 : decode jdk_42_method_147_code 43 = .ok (.return_, 1) := by decide +kernel
def Q_rm_getB (Z : State) (a2 : Addr) (t2 : Addr) (k2 : ClassId) (cc : List Int32) (t1 : Addr) (k1 : ClassId) (ds : List Int32) (cs : Int32) (h0 : Heap) (n0 : Nat) (vv : Option Value) (h : Heap) (L : List Loc) : Prop := vv = none ∧ Fr n0 L ∧ Keep h0 h [t1] ∧ Arv Z h t1 k1 .byte (16 : Int32) (own_vs (ds ++ cc)) (.int 0)
set_option maxRecDepth 65536 in
set_option maxHeartbeats 40000000 in
theorem rm_getB (l : Launch) (Z : State) (a0 : Array Value) (hw : HW a0 Z) (ws : List Jvm.Cond) (a2 : Addr) (t2 : Addr) (k2 : ClassId) (cc : List Int32) (t1 : Addr) (k1 : ClassId) (ds : List Int32) (cs : Int32) (h0 : Heap) (n0 : Nat) (Z0 : n0 ≤ h0.size) (pr0 : Old Z n0 h0) (pr1 : Sta Z Z.heap "java/lang/String" "COMPACT_STRINGS" "Z" (.int cs)) (hcs : ¬ (cs = (0 : Int32))) (pr3 : Exa Z h0 a2 "java/lang/String") (pr4 : Fld Z h0 a2 "java/lang/String" "value" "[B" (.ref t2)) (pr5 : Fld Z h0 a2 "java/lang/String" "coder" "B" (.int 0)) (pr6 : Arv Z h0 t2 k2 .byte (own_z cc) (own_vs cc) (.int 0)) (pr7 : Arv Z h0 t1 k1 .byte (16 : Int32) (own_vs ds) (.int 0)) (pr8 : n0 ≤ t1) (hf : own_fit ds cc) :
    Met l Z Y24 jdk_42_method_147_code 4 none ws ({ frames := 1, cells := 0, slots := 0, locals := 18 } : Room) #[(.ref a2), (.ref t1), (.int (own_z ds)), (.int 0)] h0 (Q_rm_getB Z a2 t2 k2 cc t1 k1 ds cs h0 n0) := by
  refine Met.enter (f0 := fun m => mkF m 0 #[vr a2, vr t1, .val (.int (own_z ds)), vi 0] []) (plainFor_of_name pn_java_lang_String) (fun m => ef_rm_getB m a2 t1 (own_z ds)) ?_
  intro p e s m below meth c s₁ hx hby hml hown hnm hret hlk hZ X0 e0
  have hown : s.vm.findClass "java/lang/String" = some m.cls := hown
  have hnm : meth.name = "getBytes" := hnm
  have hml : c.maxLocals = 4 := hml
  have dk : ∀ {i : Nat} {r : Except DecodeError (Instr × Nat)}, decode jdk_42_method_147_code i = r → decode c.code i = r := fun h => hb hby h
  have N0 := Fr.nil n0
  refine gy (St s₁ m 1 #[vr a2, vr t1, .val (.int (own_z ds)), vi 0] [(.ref a2)]) (fun _ k => XS.aloadN X0.here hx rfl (dk d24_0) rfl rfl k) ?_
  obtain ⟨cq90, kq90, q90a, q90b, q90c⟩ := isOf hZ e0 pr3
  obtain ⟨_, _, ⟨T90, L90, k90, n90⟩, -, X90, ⟨Lc90, hQ90, l90, y90, z90⟩, st90⟩ := X0.virtualBack hx (y := Y22) (z := Y22) hown (mvT hZ (wd hw 93 rfl)) (mvT hZ (wd hw 94 rfl)) (notFace_of_selects (args := #[]) (mvT hZ (wd hw 96 rfl))) (mvT hZ (wd hw 96 rfl)) (mvT hZ (wd hw 95 rfl)) (by decide) (backOf (W := 0) (rm_coder l Z a0 hw [] a2 cs h0 n0 Z0 pr0 pr1 hcs pr5) hZ (wd hw 97 rfl) (wd hw 9 rfl) (by decide) (by decide)) q90a q90c (g := (mkF m 1 #[vr a2, vr t1, .val (.int (own_z ds)), vi 0] [(.ref a2)])) rfl (by rw [hml]; rfl) (Steps.refl _) (argsL := []) (rest := []) (lenOf pd_8 rfl) rfl (by show 2 * 0 + _ ≤ _; exact Nat.le_of_eq rfl) (dk d24_1) (fun _ _ => ⟨rfl, e0, Nat.le_of_ble_eq_true rfl, Nat.le_of_ble_eq_true rfl⟩)
  dsimp only [Pt.U, Pt.locs, Pt.cells, Pt.slots] at X90 l90 y90 z90 st90 hQ90
  subst l90 y90 z90
  obtain ⟨rfl, Nq90, hh90⟩ := hQ90
  have N90 := Fr.app N0 Nq90
  have X90 : Stand p l e _ _ m _ below meth c T90 _ 0 0 := X90
  refine gy (St T90 m 4 #[vr a2, vr t1, .val (.int (own_z ds)), vi 0] [(.int 0)]) (fun _ k => st90.trans k) ?_
  refine gy (St T90 m 9 #[vr a2, vr t1, .val (.int (own_z ds)), vi 0] [(.ref a2)]) (fun _ k => XS.iloadN X90.here hx rfl (dk d24_4) rfl (XS.icmpNo X90.here hx rfl (dk d24_5) rfl (teq (by decide : (0 : Int32) = (0 : Int32))).2 (XS.aloadN X90.here hx rfl (dk d24_8) rfl rfl k))) ?_
  obtain ⟨T91, X91, e91, st91⟩ := getF X90 hx hZ hown (host := "") (Or.inl (wd hw 29 rfl)) Via.refl hh90 pr4 (g := (mkF m 9 #[vr a2, vr t1, .val (.int (own_z ds)), vi 0] [(.ref a2)])) rfl rfl (dk d24_9)
  refine gy (St T91 m 12 #[vr a2, vr t1, .val (.int (own_z ds)), vi 0] [(.ref t2)]) st91 ?_
  refine gy (St T91 m 18 #[vr a2, vr t1, .val (.int (own_z ds)), vi 0] [(.ref a2), (.int ((own_z ds) <<< ((0 : Int32) &&& 31))), (.ref t1), (.int 0), (.ref t2)]) (fun _ k => XS.iconst X91.here hx rfl (dk d24_12) (XS.aloadN X91.here hx rfl (dk d24_13) rfl rfl (XS.iloadN X91.here hx rfl (dk d24_14) rfl (XS.iloadN X91.here hx rfl (dk d24_15) rfl (XS.ishl X91.here hx rfl (dk d24_16) rfl (XS.aloadN X91.here hx rfl (dk d24_17) rfl rfl k)))))) ?_
  obtain ⟨T92, X92, e92, st92⟩ := getF X91 hx hZ hown (host := "") (Or.inl (wd hw 29 rfl)) Via.refl e91 pr4 (g := (mkF m 18 #[vr a2, vr t1, .val (.int (own_z ds)), vi 0] [(.ref a2), (.int ((own_z ds) <<< ((0 : Int32) &&& 31))), (.ref t1), (.int 0), (.ref t2)])) rfl rfl (dk d24_18)
  refine gy (St T92 m 21 #[vr a2, vr t1, .val (.int (own_z ds)), vi 0] [(.ref t2), (.int ((own_z ds) <<< ((0 : Int32) &&& 31))), (.ref t1), (.int 0), (.ref t2)]) st92 ?_
  obtain ⟨cl93, Ar93, q93, S93, N_93, Hs93, G93⟩ := id pr6
  refine gy (St T92 m 22 #[vr a2, vr t1, .val (.int (own_z ds)), vi 0] [(.int (own_z cc)), (.int ((own_z ds) <<< ((0 : Int32) &&& 31))), (.ref t1), (.int 0), (.ref t2)]) (fun _ k => X92.arraylength hx (by rw [e92]; exact Ar93.1) (State.isArrayOf_alike hZ.alike Ar93.2.1) (g := (mkF m 21 #[vr a2, vr t1, .val (.int (own_z ds)), vi 0] [(.ref t2), (.int ((own_z ds) <<< ((0 : Int32) &&& 31))), (.ref t1), (.int 0), (.ref t2)])) rfl rfl (dk d24_21) _ (by rw [len_of S93 N_93]; exact k)) ?_
  obtain ⟨T94, h94, L94, X94, e94, N94, K94, V94, st94⟩ := own_cpy X92 hx hZ hown (wd hw 121 rfl) (wd hw 124 rfl) (wd hw 122 rfl) (wd hw 123 rfl) e92 pr6 pr7 (own_shl0 _) rfl hf (own_4z hf) (own_516 hf) N90 pr8 (g := (mkF m 22 #[vr a2, vr t1, .val (.int (own_z ds)), vi 0] [(.int (own_z cc)), (.int ((own_z ds) <<< ((0 : Int32) &&& 31))), (.ref t1), (.int 0), (.ref t2)])) rfl (by rw [hml]; rfl) rfl (dk d24_22) (by decide) (W := 0) (by show 2 * 0 + _ ≤ _; exact Nat.le_of_eq rfl) (by decide)
  have O95 := pr0.keep K94 (allS pr8 all0)
  have Z95 : n0 ≤ h94.size := Nat.le_trans Z0 K94.1
  refine gy (St T94 m 25 #[vr a2, vr t1, .val (.int (own_z ds)), vi 0] []) st94 ?_
  refine gy (St T94 m 43 #[vr a2, vr t1, .val (.int (own_z ds)), vi 0] []) (fun _ k => XS.goto X94.here hx rfl (pc0 := 25) (pc' := 43) rfl (dk d24_25) (by decide) (by decide) k) ?_
  refine Go.retV X94 hx hlk hret (dk d24_43) (by decide) (by decide) ?_
  rw [e94]
  exact ⟨rfl, N94, ((Keep.refl h0 [t1]).trans K94 (allS (Or.inl (List.mem_of_getElem? (i := 0) rfl)) all0)), V94⟩
theorem ef_rm_putS (m : MethodId) (x0 : Addr) (x1 : Int32) (x2 : Addr) : entryFrame m #[(.ref x0), (.int x1), (.ref x2)] 3 = mkF m 0 #[vr x0, vi x1, vr x2] [] := by first | (simp [entryFrame, mkF, argsToLocals, Value.category]; done) | rfl
theorem d22_0 : decode jdk_68_method_73_code 0 = .ok (.aload_n 0, 1) := by decide +kernel
theorem d22_1 : decode jdk_68_method_73_code 1 = .ok (.aload_n 2, 1) := by decide +kernel
theorem d22_2 : decode jdk_68_method_73_code 2 = .ok (.invokevirtual 397, 3) := by decide +kernel
theorem pd_9 : parseMethodDescriptor "(Ljava/lang/String;)V" = some ⟨[(.object "java/lang/String")], none⟩ := by decide +kernel
theorem d22_5 : decode jdk_68_method_73_code 5 = .ok (.aload_n 2, 1) := by decide +kernel
theorem d22_6 : decode jdk_68_method_73_code 6 = .ok (.aload_n 0, 1) := by decide +kernel
theorem d22_7 : decode jdk_68_method_73_code 7 = .ok (.getfield 15, 3) := by decide +kernel
theorem d22_10 : decode jdk_68_method_73_code 10 = .ok (.iload_n 1, 1) := by decide +kernel
theorem d22_11 : decode jdk_68_method_73_code 11 = .ok (.aload_n 0, 1) := by decide +kernel
theorem d22_12 : decode jdk_68_method_73_code 12 = .ok (.getfield 22, 3) := by decide +kernel
theorem d22_15 : decode jdk_68_method_73_code 15 = .ok (.invokevirtual 399, 3) := by decide +kernel
theorem pd_10 : parseMethodDescriptor "([BIB)V" = some ⟨[(.array .byte), .int, .byte], none⟩ := by decide +kernel
theorem d22_18 : decode jdk_68_method_73_code 18 = .ok (.return_, 1) := by decide +kernel
def Q_rm_putS (Z : State) (a1 : Addr) (t1 : Addr) (k1 : ClassId) (ds : List Int32) (a2 : Addr) (t2 : Addr) (k2 : ClassId) (cc : List Int32) (cs : Int32) (h0 : Heap) (n0 : Nat) (vv : Option Value) (h : Heap) (L : List Loc) : Prop := vv = none ∧ Fr n0 L ∧ Keep h0 h [t1] ∧ Arv Z h t1 k1 .byte (16 : Int32) (own_vs (ds ++ cc)) (.int 0)
set_option maxRecDepth 65536 in
set_option maxHeartbeats 40000000 in
theorem rm_putS (l : Launch) (Z : State) (a0 : Array Value) (hw : HW a0 Z) (ws : List Jvm.Cond) (a1 : Addr) (t1 : Addr) (k1 : ClassId) (ds : List Int32) (a2 : Addr) (t2 : Addr) (k2 : ClassId) (cc : List Int32) (cs : Int32) (h0 : Heap) (n0 : Nat) (Z0 : n0 ≤ h0.size) (pr0 : Old Z n0 h0) (pr1 : Sta Z Z.heap "java/lang/String" "COMPACT_STRINGS" "Z" (.int cs)) (hcs : ¬ (cs = (0 : Int32))) (pr3 : Exa Z h0 a1 "java/lang/StringBuilder") (pr4 : Fld Z h0 a1 "java/lang/AbstractStringBuilder" "value" "[B" (.ref t1)) (pr5 : Fld Z h0 a1 "java/lang/AbstractStringBuilder" "coder" "B" (.int 0)) (pr6 : Arv Z h0 t1 k1 .byte (16 : Int32) (own_vs ds) (.int 0)) (pr7 : Exa Z h0 a2 "java/lang/String") (pr8 : Fld Z h0 a2 "java/lang/String" "value" "[B" (.ref t2)) (pr9 : Fld Z h0 a2 "java/lang/String" "coder" "B" (.int 0)) (pr10 : Arv Z h0 t2 k2 .byte (own_z cc) (own_vs cc) (.int 0)) (pr11 : n0 ≤ t1) (hf : own_fit ds cc) :
    Met l Z Y15 jdk_68_method_73_code 3 none ws ({ frames := 2, cells := 0, slots := 0, locals := 33 } : Room) #[(.ref a1), (.int (own_z ds)), (.ref a2)] h0 (Q_rm_putS Z a1 t1 k1 ds a2 t2 k2 cc cs h0 n0) := by
  refine Met.enter (f0 := fun m => mkF m 0 #[vr a1, .val (.int (own_z ds)), vr a2] []) (plainFor_of_name pn_java_lang_AbstractStringBuilder) (fun m => ef_rm_putS m a1 (own_z ds) a2) ?_
  intro p e s m below meth c s₁ hx hby hml hown hnm hret hlk hZ X0 e0
  have hown : s.vm.findClass "java/lang/AbstractStringBuilder" = some m.cls := hown
  have hnm : meth.name = "putStringAt" := hnm
  have hml : c.maxLocals = 3 := hml
  have dk : ∀ {i : Nat} {r : Except DecodeError (Instr × Nat)}, decode jdk_68_method_73_code i = r → decode c.code i = r := fun h => hb hby h
  have N0 := Fr.nil n0
  refine gy (St s₁ m 2 #[vr a1, .val (.int (own_z ds)), vr a2] [(.ref a2), (.ref a1)]) (fun _ k => XS.aloadN X0.here hx rfl (dk d22_0) rfl rfl (XS.aloadN X0.here hx rfl (dk d22_1) rfl rfl k)) ?_
  obtain ⟨cq96, q96, q96'⟩ := pr3.cell
  obtain ⟨_, _, ⟨T96, L96, k96, n96⟩, -, X96, ⟨Lc96, hQ96, l96, y96, z96⟩, st96⟩ := X0.privateBack hx (y := Y12) hown (mvT hZ (wd hw 110 rfl)) (mvT hZ (wd hw 111 rfl)) (mvT hZ (own_selfP (y := Y12) (wd hw 113 rfl) (wd hw 112 rfl) (wd hw 111 rfl) (by decide))) (Cond.privateMethod_at (mvP hZ (wd hw 112 rfl) (args := #[]))) (mvT hZ (wd hw 114 rfl)) (by decide) (backOf (W := 0) (rm_infl l Z a0 hw [] a1 a2 cs h0 n0 Z0 pr0 pr1 hcs pr5 pr7 pr9) hZ (wd hw 114 rfl) (wd hw 70 rfl) (by decide) (by decide)) (g := (mkF m 2 #[vr a1, .val (.int (own_z ds)), vr a2] [(.ref a2), (.ref a1)])) rfl (by rw [hml]; rfl) (Steps.refl _) (a := a1) (by rw [e0]; exact q96) q96' (argsL := [(.ref a2)]) (rest := []) (lenOf pd_9 rfl) rfl (by show 2 * 0 + _ ≤ _; exact Nat.le_of_eq rfl) (dk d22_2) (fun _ _ => ⟨rfl, e0, Nat.le_of_ble_eq_true rfl, Nat.le_of_ble_eq_true rfl⟩)
  dsimp only [Pt.U, Pt.locs, Pt.cells, Pt.slots] at X96 l96 y96 z96 st96 hQ96
  subst l96 y96 z96
  obtain ⟨rfl, Nq96, hh96⟩ := hQ96
  have N96 := Fr.app N0 Nq96
  have X96 : Stand p l e _ _ m _ below meth c T96 _ 0 0 := X96
  refine gy (St T96 m 5 #[vr a1, .val (.int (own_z ds)), vr a2] []) (fun _ k => st96.trans k) ?_
  refine gy (St T96 m 7 #[vr a1, .val (.int (own_z ds)), vr a2] [(.ref a1), (.ref a2)]) (fun _ k => XS.aloadN X96.here hx rfl (dk d22_5) rfl rfl (XS.aloadN X96.here hx rfl (dk d22_6) rfl rfl k)) ?_
  obtain ⟨T97, X97, e97, st97⟩ := getF X96 hx hZ hown (host := "") (Or.inl (wd hw 74 rfl)) Via.refl hh96 pr4 (g := (mkF m 7 #[vr a1, .val (.int (own_z ds)), vr a2] [(.ref a1), (.ref a2)])) rfl rfl (dk d22_7)
  refine gy (St T97 m 10 #[vr a1, .val (.int (own_z ds)), vr a2] [(.ref t1), (.ref a2)]) st97 ?_
  refine gy (St T97 m 12 #[vr a1, .val (.int (own_z ds)), vr a2] [(.ref a1), (.int (own_z ds)), (.ref t1), (.ref a2)]) (fun _ k => XS.iloadN X97.here hx rfl (dk d22_10) rfl (XS.aloadN X97.here hx rfl (dk d22_11) rfl rfl k)) ?_
  obtain ⟨T98, X98, e98, st98⟩ := getF X97 hx hZ hown (host := "") (Or.inl (wd hw 76 rfl)) Via.refl e97 pr5 (g := (mkF m 12 #[vr a1, .val (.int (own_z ds)), vr a2] [(.ref a1), (.int (own_z ds)), (.ref t1), (.ref a2)])) rfl rfl (dk d22_12)
  refine gy (St T98 m 15 #[vr a1, .val (.int (own_z ds)), vr a2] [(.int 0), (.int (own_z ds)), (.ref t1), (.ref a2)]) st98 ?_
  obtain ⟨cq99, kq99, q99a, q99b, q99c⟩ := isOf hZ e98 pr7
  obtain ⟨_, _, ⟨T99, L99, k99, n99⟩, -, X99, ⟨Lc99, hQ99, l99, y99, z99⟩, st99⟩ := X98.virtualBack hx (y := Y24) (z := Y24) hown (mvT hZ (wd hw 116 rfl)) (mvT hZ (wd hw 117 rfl)) (notFace_of_selects (args := #[]) (mvT hZ (wd hw 119 rfl))) (mvT hZ (wd hw 119 rfl)) (mvT hZ (wd hw 118 rfl)) (by decide) (backOf (W := 0) (rm_getB l Z a0 hw [] a2 t2 k2 cc t1 k1 ds cs h0 n0 Z0 pr0 pr1 hcs pr7 pr8 pr9 pr10 pr6 pr11 hf) hZ (wd hw 120 rfl) (wd hw 9 rfl) (by decide) (by decide)) q99a q99c (g := (mkF m 15 #[vr a1, .val (.int (own_z ds)), vr a2] [(.int 0), (.int (own_z ds)), (.ref t1), (.ref a2)])) rfl (by rw [hml]; rfl) (Steps.refl _) (argsL := [(.ref t1), (.int (own_z ds)), (.int 0)]) (rest := []) (lenOf pd_10 rfl) rfl (by show 2 * 0 + _ ≤ _; exact Nat.le_of_eq rfl) (dk d22_15) (fun _ _ => ⟨rfl, e98, Nat.le_of_ble_eq_true rfl, Nat.le_of_ble_eq_true rfl⟩)
  dsimp only [Pt.U, Pt.locs, Pt.cells, Pt.slots] at X99 l99 y99 z99 st99 hQ99
  subst l99 y99 z99
  obtain ⟨rfl, Nq99, K99, p99_0⟩ := hQ99
  have N99 := Fr.app N96 Nq99
  have X99 : Stand p l e _ _ m _ below meth c T99 _ 0 0 := X99
  have O100 := pr0.keep K99 (allS pr11 all0)
  have Z100 : n0 ≤ T99.heap.size := Nat.le_trans Z0 K99.1
  refine gy (St T99 m 18 #[vr a1, .val (.int (own_z ds)), vr a2] []) (fun _ k => st99.trans k) ?_
  refine Go.retV X99 hx hlk hret (dk d22_18) (by decide) (by decide) ?_
  exact ⟨rfl, N99, ((Keep.refl h0 [t1]).trans K99 (allS (Or.inl (List.mem_of_getElem? (i := 0) rfl)) all0)), p99_0⟩
theorem ef_rm_abapp (m : MethodId) (x0 : Addr) (x1 : Addr) : entryFrame m #[(.ref x0), (.ref x1)] 3 = mkF m 0 #[vr x0, vr x1, .unset] [] := by first | (simp [entryFrame, mkF, argsToLocals, Value.category]; done) | rfl
theorem d18_0 : decode jdk_68_method_22_code 0 = .ok (.aload_n 1, 1) := by decide +kernel
theorem d18_1 : decode jdk_68_method_22_code 1 = .ok (.ifnonnull 8, 3) := by decide +kernel
theorem d18_9 : decode jdk_68_method_22_code 9 = .ok (.aload_n 1, 1) := by decide +kernel
theorem d18_10 : decode jdk_68_method_22_code 10 = .ok (.invokevirtual 32, 3) := by decide +kernel
theorem pd_11 : parseMethodDescriptor "()I" = some ⟨[], some .int⟩ := by decide +kernel
theorem d18_13 : decode jdk_68_method_22_code 13 = .ok (.istore_n 2, 1) := by decide +kernel
theorem d18_14 : decode jdk_68_method_22_code 14 = .ok (.aload_n 0, 1) := by decide +kernel
theorem d18_15 : decode jdk_68_method_22_code 15 = .ok (.aload_n 0, 1) := by decide +kernel
theorem d18_16 : decode jdk_68_method_22_code 16 = .ok (.getfield 79, 3) := by decide +kernel
theorem d18_19 : decode jdk_68_method_22_code 19 = .ok (.iload_n 2, 1) := by decide +kernel
theorem d18_20 : decode jdk_68_method_22_code 20 = .ok (.iadd, 1) := by decide +kernel
theorem d18_21 : decode jdk_68_method_22_code 21 = .ok (.invokevirtual 100, 3) := by decide +kernel
theorem d18_24 : decode jdk_68_method_22_code 24 = .ok (.aload_n 0, 1) := by decide +kernel
theorem d18_25 : decode jdk_68_method_22_code 25 = .ok (.aload_n 0, 1) := by decide +kernel
theorem d18_26 : decode jdk_68_method_22_code 26 = .ok (.getfield 79, 3) := by decide +kernel
theorem d18_29 : decode jdk_68_method_22_code 29 = .ok (.aload_n 1, 1) := by decide +kernel
theorem d18_30 : decode jdk_68_method_22_code 30 = .ok (.invokevirtual 208, 3) := by decide +kernel
theorem pd_12 : parseMethodDescriptor "(ILjava/lang/String;)V" = some ⟨[.int, (.object "java/lang/String")], none⟩ := by decide +kernel
theorem d18_33 : decode jdk_68_method_22_code 33 = .ok (.aload_n 0, 1) := by decide +kernel
theorem d18_34 : decode jdk_68_method_22_code 34 = .ok (.dup, 1) := by decide +kernel
theorem d18_35 : decode jdk_68_method_22_code 35 = .ok (.getfield 79, 3) := by decide +kernel
theorem d18_38 : decode jdk_68_method_22_code 38 = .ok (.iload_n 2, 1) := by decide +kernel
theorem d18_39 : decode jdk_68_method_22_code 39 = .ok (.iadd, 1) := by decide +kernel
theorem d18_40 : decode jdk_68_method_22_code 40 = .ok (.putfield 79, 3) := by decide +kernel
theorem d18_43 : decode jdk_68_method_22_code 43 = .ok (.aload_n 0, 1) := by decide +kernel
theorem d18_44 : decode jdk_68_method_22_code 44 = .ok (.areturn, 1) := by decide +kernel
def Q_rm_abapp (Z : State) (a1 : Addr) (t1 : Addr) (k1 : ClassId) (ds : List Int32) (a2 : Addr) (t2 : Addr) (k2 : ClassId) (cc : List Int32) (cs : Int32) (h0 : Heap) (n0 : Nat) (vv : Option Value) (h : Heap) (L : List Loc) : Prop := vv = some (.ref a1) ∧ Fr n0 L ∧ Keep h0 h [a1, t1] ∧ Exa Z h a1 "java/lang/StringBuilder" ∧ Fld Z h a1 "java/lang/AbstractStringBuilder" "value" "[B" (.ref t1) ∧ Fld Z h a1 "java/lang/AbstractStringBuilder" "coder" "B" (.int 0) ∧ Fld Z h a1 "java/lang/AbstractStringBuilder" "count" "I" (.int (own_z (ds ++ cc))) ∧ Arv Z h t1 k1 .byte (16 : Int32) (own_vs (ds ++ cc)) (.int 0)
set_option maxRecDepth 65536 in
set_option maxHeartbeats 40000000 in
theorem rm_abapp (l : Launch) (Z : State) (a0 : Array Value) (hw : HW a0 Z) (ws : List Jvm.Cond) (a1 : Addr) (t1 : Addr) (k1 : ClassId) (ds : List Int32) (a2 : Addr) (t2 : Addr) (k2 : ClassId) (cc : List Int32) (cs : Int32) (h0 : Heap) (n0 : Nat) (Z0 : n0 ≤ h0.size) (pr0 : Old Z n0 h0) (pr1 : Sta Z Z.heap "java/lang/String" "COMPACT_STRINGS" "Z" (.int cs)) (hcs : ¬ (cs = (0 : Int32))) (pr3 : Exa Z h0 a1 "java/lang/StringBuilder") (pr4 : Fld Z h0 a1 "java/lang/AbstractStringBuilder" "value" "[B" (.ref t1)) (pr5 : Fld Z h0 a1 "java/lang/AbstractStringBuilder" "coder" "B" (.int 0)) (pr6 : Fld Z h0 a1 "java/lang/AbstractStringBuilder" "count" "I" (.int (own_z ds))) (pr7 : Arv Z h0 t1 k1 .byte (16 : Int32) (own_vs ds) (.int 0)) (pr8 : Exa Z h0 a2 "java/lang/String") (pr9 : Fld Z h0 a2 "java/lang/String" "value" "[B" (.ref t2)) (pr10 : Fld Z h0 a2 "java/lang/String" "coder" "B" (.int 0)) (pr11 : Arv Z h0 t2 k2 .byte (own_z cc) (own_vs cc) (.int 0)) (pr12 : n0 ≤ a1) (pr13 : n0 ≤ t1) (hf : own_fit ds cc) :
    Met l Z Y9 jdk_68_method_22_code 3 (some (.object "java/lang/AbstractStringBuilder")) ws ({ frames := 3, cells := 0, slots := 0, locals := 47 } : Room) #[(.ref a1), (.ref a2)] h0 (Q_rm_abapp Z a1 t1 k1 ds a2 t2 k2 cc cs h0 n0) := by
  refine Met.enter (f0 := fun m => mkF m 0 #[vr a1, vr a2, .unset] []) (plainFor_of_name pn_java_lang_AbstractStringBuilder) (fun m => ef_rm_abapp m a1 a2) ?_
  intro p e s m below meth c s₁ hx hby hml hown hnm hret hlk hZ X0 e0
  have hown : s.vm.findClass "java/lang/AbstractStringBuilder" = some m.cls := hown
  have hnm : meth.name = "append" := hnm
  have hml : c.maxLocals = 3 := hml
  have dk : ∀ {i : Nat} {r : Except DecodeError (Instr × Nat)}, decode jdk_68_method_22_code i = r → decode c.code i = r := fun h => hb hby h
  have N0 := Fr.nil n0
  refine gy (St s₁ m 10 #[vr a1, vr a2, .unset] [(.ref a2)]) (fun _ k => XS.aloadN X0.here hx rfl (dk d18_0) rfl rfl (XS.ifnonnullYes X0.here hx rfl (pc0 := 1) (pc' := 9) rfl (dk d18_1) rfl (by decide) (by decide) (XS.aloadN X0.here hx rfl (dk d18_9) rfl rfl k))) ?_
  obtain ⟨cq101, kq101, q101a, q101b, q101c⟩ := isOf hZ e0 pr8
  obtain ⟨_, _, ⟨T101, L101, k101, n101⟩, -, X101, ⟨Lc101, hQ101, l101, y101, z101⟩, st101⟩ := X0.virtualBack hx (y := Y25) (z := Y25) hown (mvT hZ (wd hw 88 rfl)) (mvT hZ (wd hw 89 rfl)) (notFace_of_selects (args := #[]) (mvT hZ (wd hw 91 rfl))) (mvT hZ (wd hw 91 rfl)) (mvT hZ (wd hw 90 rfl)) (by decide) (backOf (W := 0) (rm_slen l Z a0 hw [] a2 t2 k2 cc cs h0 n0 Z0 pr0 pr1 hcs pr8 pr9 pr10 pr11) hZ (wd hw 92 rfl) (wd hw 9 rfl) (by decide) (by decide)) q101a q101c (g := (mkF m 10 #[vr a1, vr a2, .unset] [(.ref a2)])) rfl (by rw [hml]; rfl) (Steps.refl _) (argsL := []) (rest := []) (lenOf pd_11 rfl) rfl (by show 2 * 0 + _ ≤ _; exact Nat.le_of_eq rfl) (dk d18_10) (fun _ _ => ⟨rfl, e0, Nat.le_of_ble_eq_true rfl, Nat.le_of_ble_eq_true rfl⟩)
  dsimp only [Pt.U, Pt.locs, Pt.cells, Pt.slots] at X101 l101 y101 z101 st101 hQ101
  subst l101 y101 z101
  obtain ⟨rfl, Nq101, hh101⟩ := hQ101
  have N101 := Fr.app N0 Nq101
  have X101 : Stand p l e _ _ m _ below meth c T101 _ 0 0 := X101
  refine gy (St T101 m 13 #[vr a1, vr a2, .unset] [(.int (own_z cc))]) (fun _ k => st101.trans k) ?_
  refine gy (St T101 m 16 #[vr a1, vr a2, .val (.int (own_z cc))] [(.ref a1), (.ref a1)]) (fun _ k => XS.istoreN X101.here hx rfl (dk d18_13) rfl (l' := #[vr a1, vr a2, .val (.int (own_z cc))]) rfl (XS.aloadN X101.here hx rfl (dk d18_14) rfl rfl (XS.aloadN X101.here hx rfl (dk d18_15) rfl rfl k))) ?_
  obtain ⟨T102, X102, e102, st102⟩ := getF X101 hx hZ hown (host := "") (Or.inl (wd hw 98 rfl)) Via.refl hh101 pr6 (g := (mkF m 16 #[vr a1, vr a2, .val (.int (own_z cc))] [(.ref a1), (.ref a1)])) rfl rfl (dk d18_16)
  refine gy (St T102 m 19 #[vr a1, vr a2, .val (.int (own_z cc))] [(.int (own_z ds)), (.ref a1)]) st102 ?_
  refine gy (St T102 m 21 #[vr a1, vr a2, .val (.int (own_z cc))] [(.int ((own_z ds) + (own_z cc))), (.ref a1)]) (fun _ k => XS.iloadN X102.here hx rfl (dk d18_19) rfl (XS.iadd X102.here hx rfl (dk d18_20) rfl k)) ?_
  obtain ⟨cq103, q103, q103'⟩ := pr3.cell
  obtain ⟨_, _, ⟨T103, L103, k103, n103⟩, -, X103, ⟨Lc103, hQ103, l103, y103, z103⟩, st103⟩ := X102.privateBack hx (y := Y10) hown (mvT hZ (wd hw 100 rfl)) (mvT hZ (wd hw 101 rfl)) (mvT hZ (own_selfP (y := Y10) (wd hw 103 rfl) (wd hw 102 rfl) (wd hw 101 rfl) (by decide))) (Cond.privateMethod_at (mvP hZ (wd hw 102 rfl) (args := #[]))) (mvT hZ (wd hw 104 rfl)) (by decide) (backOf (W := 0) (rm_ens l Z a0 hw [] a1 t1 k1 ds ((own_z ds) + (own_z cc)) h0 n0 Z0 pr3 pr4 pr5 pr7 (own_cap hf)) hZ (wd hw 104 rfl) (wd hw 70 rfl) (by decide) (by decide)) (g := (mkF m 21 #[vr a1, vr a2, .val (.int (own_z cc))] [(.int ((own_z ds) + (own_z cc))), (.ref a1)])) rfl (by rw [hml]; rfl) (Steps.refl _) (a := a1) (by rw [e102]; exact q103) q103' (argsL := [(.int ((own_z ds) + (own_z cc)))]) (rest := []) (lenOf pd_7 rfl) rfl (by show 2 * 0 + _ ≤ _; exact Nat.le_of_eq rfl) (dk d18_21) (fun _ _ => ⟨rfl, e102, Nat.le_of_ble_eq_true rfl, Nat.le_of_ble_eq_true rfl⟩)
  dsimp only [Pt.U, Pt.locs, Pt.cells, Pt.slots] at X103 l103 y103 z103 st103 hQ103
  subst l103 y103 z103
  obtain ⟨rfl, Nq103, hh103⟩ := hQ103
  have N103 := Fr.app N101 Nq103
  have X103 : Stand p l e _ _ m _ below meth c T103 _ 0 0 := X103
  refine gy (St T103 m 24 #[vr a1, vr a2, .val (.int (own_z cc))] []) (fun _ k => st103.trans k) ?_
  refine gy (St T103 m 26 #[vr a1, vr a2, .val (.int (own_z cc))] [(.ref a1), (.ref a1)]) (fun _ k => XS.aloadN X103.here hx rfl (dk d18_24) rfl rfl (XS.aloadN X103.here hx rfl (dk d18_25) rfl rfl k)) ?_
  obtain ⟨T104, X104, e104, st104⟩ := getF X103 hx hZ hown (host := "") (Or.inl (wd hw 98 rfl)) Via.refl hh103 pr6 (g := (mkF m 26 #[vr a1, vr a2, .val (.int (own_z cc))] [(.ref a1), (.ref a1)])) rfl rfl (dk d18_26)
  refine gy (St T104 m 29 #[vr a1, vr a2, .val (.int (own_z cc))] [(.int (own_z ds)), (.ref a1)]) st104 ?_
  refine gy (St T104 m 30 #[vr a1, vr a2, .val (.int (own_z cc))] [(.ref a2), (.int (own_z ds)), (.ref a1)]) (fun _ k => XS.aloadN X104.here hx rfl (dk d18_29) rfl rfl k) ?_
  obtain ⟨cq105, q105, q105'⟩ := pr3.cell
  obtain ⟨_, _, ⟨T105, L105, k105, n105⟩, -, X105, ⟨Lc105, hQ105, l105, y105, z105⟩, st105⟩ := X104.privateBack hx (y := Y15) hown (mvT hZ (wd hw 105 rfl)) (mvT hZ (wd hw 106 rfl)) (mvT hZ (own_selfP (y := Y15) (wd hw 108 rfl) (wd hw 107 rfl) (wd hw 106 rfl) (by decide))) (Cond.privateMethod_at (mvP hZ (wd hw 107 rfl) (args := #[]))) (mvT hZ (wd hw 109 rfl)) (by decide) (backOf (W := 0) (rm_putS l Z a0 hw [] a1 t1 k1 ds a2 t2 k2 cc cs h0 n0 Z0 pr0 pr1 hcs pr3 pr4 pr5 pr7 pr8 pr9 pr10 pr11 pr13 hf) hZ (wd hw 109 rfl) (wd hw 70 rfl) (by decide) (by decide)) (g := (mkF m 30 #[vr a1, vr a2, .val (.int (own_z cc))] [(.ref a2), (.int (own_z ds)), (.ref a1)])) rfl (by rw [hml]; rfl) (Steps.refl _) (a := a1) (by rw [e104]; exact q105) q105' (argsL := [(.int (own_z ds)), (.ref a2)]) (rest := []) (lenOf pd_12 rfl) rfl (by show 2 * 0 + _ ≤ _; exact Nat.le_of_eq rfl) (dk d18_30) (fun _ _ => ⟨rfl, e104, Nat.le_of_ble_eq_true rfl, Nat.le_of_ble_eq_true rfl⟩)
  dsimp only [Pt.U, Pt.locs, Pt.cells, Pt.slots] at X105 l105 y105 z105 st105 hQ105
  subst l105 y105 z105
  obtain ⟨rfl, Nq105, K105, p105_0⟩ := hQ105
  have N105 := Fr.app N103 Nq105
  have X105 : Stand p l e _ _ m _ below meth c T105 _ 0 0 := X105
  have O106 := pr0.keep K105 (allS pr13 all0)
  have Z106 : n0 ≤ T105.heap.size := Nat.le_trans Z0 K105.1
  refine gy (St T105 m 33 #[vr a1, vr a2, .val (.int (own_z cc))] []) (fun _ k => st105.trans k) ?_
  refine gy (St T105 m 35 #[vr a1, vr a2, .val (.int (own_z cc))] [(.ref a1), (.ref a1)]) (fun _ k => XS.aloadN X105.here hx rfl (dk d18_33) rfl rfl (XS.dup X105.here hx rfl (dk d18_34) rfl rfl k)) ?_
  have f107 := (pr6.keep K105 (ninS (Exa.neArv pr3 pr7 (wd hw 61 rfl)) nin0))
  obtain ⟨T108, X108, e108, st108⟩ := getF X105 hx hZ hown (host := "") (Or.inl (wd hw 98 rfl)) Via.refl rfl f107 (g := (mkF m 35 #[vr a1, vr a2, .val (.int (own_z cc))] [(.ref a1), (.ref a1)])) rfl rfl (dk d18_35)
  refine gy (St T108 m 38 #[vr a1, vr a2, .val (.int (own_z cc))] [(.int (own_z ds)), (.ref a1)]) st108 ?_
  refine gy (St T108 m 40 #[vr a1, vr a2, .val (.int (own_z cc))] [(.int ((own_z ds) + (own_z cc))), (.ref a1)]) (fun _ k => XS.iloadN X108.here hx rfl (dk d18_38) rfl (XS.iadd X108.here hx rfl (dk d18_39) rfl k)) ?_
  obtain ⟨T109, h109, X109, e109, W109, st109⟩ := putF X108 hx hZ hown (host := "") (Or.inl (wd hw 98 rfl)) Via.refl e108 f107 (pr3.keep K105) (Or.inl (wd hw 99 rfl)) (wd hw 61 rfl) (ty := .int) (by decide) rfl rfl (g := (mkF m 40 #[vr a1, vr a2, .val (.int (own_z cc))] [(.int ((own_z ds) + (own_z cc))), (.ref a1)])) rfl rfl (dk d18_40)
  have N109 := Fr.snoc X109 N105 pr12
  have O110 := O106.wr W109 pr12
  have Z110 : n0 ≤ h109.size := Nat.le_trans Z106 (Keep.of_wr W109).1
  have F109 := f107.same W109
  refine gy (St T109 m 43 #[vr a1, vr a2, .val (.int (own_z cc))] []) st109 ?_
  refine gy (St T109 m 44 #[vr a1, vr a2, .val (.int (own_z cc))] [(.ref a1)]) (fun _ k => XS.aloadN X109.here hx rfl (dk d18_43) rfl rfl k) ?_
  refine Go.ret X109 hx hlk (t := (.object "java/lang/AbstractStringBuilder")) hret rfl (Or.inr (Or.inr (Or.inr (Or.inr ⟨rfl, rfl, rfl⟩)))) (dk d18_44) (by decide) (by decide) ?_
  have F111 : Fld Z h109 a1 "java/lang/AbstractStringBuilder" "count" "I" (.int (own_z (ds ++ cc))) := by rw [own_zadd]; exact F109
  rw [e109]
  exact ⟨rfl, N109, (((Keep.refl h0 [a1, t1]).trans K105 (allS (Or.inl (List.mem_of_getElem? (i := 1) rfl)) all0)).wr W109 (Or.inl (List.mem_of_getElem? (i := 0) rfl))), ((pr3.keep K105).wr W109), ((pr4.keep K105 (ninS (Exa.neArv pr3 pr7 (wd hw 61 rfl)) nin0)).other W109 (Or.inr (slot_ne (Or.inl (wd hw 75 rfl)) (Or.inl (wd hw 99 rfl)) (by decide) (t := (.array .byte)) (t' := .int) (by decide) (by decide)))), ((pr5.keep K105 (ninS (Exa.neArv pr3 pr7 (wd hw 61 rfl)) nin0)).other W109 (Or.inr (slot_ne (Or.inl (wd hw 77 rfl)) (Or.inl (wd hw 99 rfl)) (by decide) (t := .byte) (t' := .int) (by decide) (by decide)))), F111, (p105_0.other W109 (Ne.symm (Exa.neArv (pr3.keep K105) p105_0 (wd hw 61 rfl))))⟩
theorem ef_rm_sbapp (m : MethodId) (x0 : Addr) (x1 : Addr) : entryFrame m #[(.ref x0), (.ref x1)] 2 = mkF m 0 #[vr x0, vr x1] [] := by first | (simp [entryFrame, mkF, argsToLocals, Value.category]; done) | rfl
theorem d17_0 : decode jdk_67_method_7_code 0 = .ok (.aload_n 0, 1) := by decide +kernel
theorem d17_1 : decode jdk_67_method_7_code 1 = .ok (.aload_n 1, 1) := by decide +kernel
theorem d17_2 : decode jdk_67_method_7_code 2 = .ok (.invokespecial 29, 3) := by decide +kernel
theorem pd_13 : parseMethodDescriptor "(Ljava/lang/String;)Ljava/lang/AbstractStringBuilder;" = some ⟨[(.object "java/lang/String")], some (.object "java/lang/AbstractStringBuilder")⟩ := by decide +kernel
theorem d17_5 : decode jdk_67_method_7_code 5 = .ok (.pop, 1) := by decide +kernel
theorem d17_6 : decode jdk_67_method_7_code 6 = .ok (.aload_n 0, 1) := by decide +kernel
theorem d17_7 : decode jdk_67_method_7_code 7 = .ok (.areturn, 1) := by decide +kernel
def Q_rm_sbapp (Z : State) (a1 : Addr) (t1 : Addr) (k1 : ClassId) (ds : List Int32) (a2 : Addr) (t2 : Addr) (k2 : ClassId) (cc : List Int32) (cs : Int32) (h0 : Heap) (n0 : Nat) (vv : Option Value) (h : Heap) (L : List Loc) : Prop := vv = some (.ref a1) ∧ Fr n0 L ∧ Keep h0 h [a1, t1] ∧ Exa Z h a1 "java/lang/StringBuilder" ∧ Fld Z h a1 "java/lang/AbstractStringBuilder" "value" "[B" (.ref t1) ∧ Fld Z h a1 "java/lang/AbstractStringBuilder" "coder" "B" (.int 0) ∧ Fld Z h a1 "java/lang/AbstractStringBuilder" "count" "I" (.int (own_z (ds ++ cc))) ∧ Arv Z h t1 k1 .byte (16 : Int32) (own_vs (ds ++ cc)) (.int 0)
set_option maxRecDepth 65536 in
set_option maxHeartbeats 40000000 in
theorem rm_sbapp (l : Launch) (Z : State) (a0 : Array Value) (hw : HW a0 Z) (ws : List Jvm.Cond) (a1 : Addr) (t1 : Addr) (k1 : ClassId) (ds : List Int32) (a2 : Addr) (t2 : Addr) (k2 : ClassId) (cc : List Int32) (cs : Int32) (h0 : Heap) (n0 : Nat) (Z0 : n0 ≤ h0.size) (pr0 : Old Z n0 h0) (pr1 : Sta Z Z.heap "java/lang/String" "COMPACT_STRINGS" "Z" (.int cs)) (hcs : ¬ (cs = (0 : Int32))) (pr3 : Exa Z h0 a1 "java/lang/StringBuilder") (pr4 : Fld Z h0 a1 "java/lang/AbstractStringBuilder" "value" "[B" (.ref t1)) (pr5 : Fld Z h0 a1 "java/lang/AbstractStringBuilder" "coder" "B" (.int 0)) (pr6 : Fld Z h0 a1 "java/lang/AbstractStringBuilder" "count" "I" (.int (own_z ds))) (pr7 : Arv Z h0 t1 k1 .byte (16 : Int32) (own_vs ds) (.int 0)) (pr8 : Exa Z h0 a2 "java/lang/String") (pr9 : Fld Z h0 a2 "java/lang/String" "value" "[B" (.ref t2)) (pr10 : Fld Z h0 a2 "java/lang/String" "coder" "B" (.int 0)) (pr11 : Arv Z h0 t2 k2 .byte (own_z cc) (own_vs cc) (.int 0)) (pr12 : n0 ≤ a1) (pr13 : n0 ≤ t1) (hf : own_fit ds cc) :
    Met l Z Y29 jdk_67_method_7_code 2 (some (.object "java/lang/StringBuilder")) ws ({ frames := 4, cells := 0, slots := 0, locals := 61 } : Room) #[(.ref a1), (.ref a2)] h0 (Q_rm_sbapp Z a1 t1 k1 ds a2 t2 k2 cc cs h0 n0) := by
  refine Met.enter (f0 := fun m => mkF m 0 #[vr a1, vr a2] []) (plainFor_of_name pn_java_lang_StringBuilder) (fun m => ef_rm_sbapp m a1 a2) ?_
  intro p e s m below meth c s₁ hx hby hml hown hnm hret hlk hZ X0 e0
  have hown : s.vm.findClass "java/lang/StringBuilder" = some m.cls := hown
  have hnm : meth.name = "append" := hnm
  have hml : c.maxLocals = 2 := hml
  have dk : ∀ {i : Nat} {r : Except DecodeError (Instr × Nat)}, decode jdk_67_method_7_code i = r → decode c.code i = r := fun h => hb hby h
  have N0 := Fr.nil n0
  refine gy (St s₁ m 2 #[vr a1, vr a2] [(.ref a2), (.ref a1)]) (fun _ k => XS.aloadN X0.here hx rfl (dk d17_0) rfl rfl (XS.aloadN X0.here hx rfl (dk d17_1) rfl rfl k)) ?_
  obtain ⟨_, _, ⟨T112, L112, k112, n112⟩, -, X112, ⟨Lc112, hQ112, l112, y112, z112⟩, st112⟩ := superBack X0 hx hZ (y := Y9) hown (wd hw 83 rfl) (own_sameM (y := Y9) (wd hw 103 rfl) rfl (wd hw 84 rfl) (by decide)) (wd hw 84 rfl) (wd hw 85 rfl) (by decide) (backOf (W := 0) (rm_abapp l Z a0 hw [] a1 t1 k1 ds a2 t2 k2 cc cs h0 n0 Z0 pr0 pr1 hcs pr3 pr4 pr5 pr6 pr7 pr8 pr9 pr10 pr11 pr12 pr13 hf) hZ (wd hw 87 rfl) (wd hw 70 rfl) (by decide) (by decide)) e0 (Ins.self pr3) (g := (mkF m 2 #[vr a1, vr a2] [(.ref a2), (.ref a1)])) rfl (by rw [hml]; rfl) (wd hw 87 rfl) (argsL := [(.ref a2)]) (rest := []) (lenOf pd_13 rfl) rfl (by show 2 * 0 + _ ≤ _; exact Nat.le_of_eq rfl) (dk d17_2) (fun _ _ => ⟨rfl, e0, Nat.le_of_ble_eq_true rfl, Nat.le_of_ble_eq_true rfl⟩)
  dsimp only [Pt.U, Pt.locs, Pt.cells, Pt.slots] at X112 l112 y112 z112 st112 hQ112
  subst l112 y112 z112
  obtain ⟨rfl, Nq112, K112, p112_0, p112_1, p112_2, p112_3, p112_4⟩ := hQ112
  have N112 := Fr.app N0 Nq112
  have X112 : Stand p l e _ _ m _ below meth c T112 _ 0 0 := X112
  have O113 := pr0.keep K112 (allS pr12 (allS pr13 all0))
  have Z113 : n0 ≤ T112.heap.size := Nat.le_trans Z0 K112.1
  refine gy (St T112 m 5 #[vr a1, vr a2] [(.ref a1)]) (fun _ k => st112.trans k) ?_
  refine gy (St T112 m 7 #[vr a1, vr a2] [(.ref a1)]) (fun _ k => XS.pop X112.here hx rfl (dk d17_5) rfl rfl (XS.aloadN X112.here hx rfl (dk d17_6) rfl rfl k)) ?_
  refine Go.ret X112 hx hlk (t := (.object "java/lang/StringBuilder")) hret rfl (Or.inr (Or.inr (Or.inr (Or.inr ⟨rfl, rfl, rfl⟩)))) (dk d17_7) (by decide) (by decide) ?_
  exact ⟨rfl, N112, ((Keep.refl h0 [a1, t1]).trans K112 (allS (Or.inl (List.mem_of_getElem? (i := 0) rfl)) (allS (Or.inl (List.mem_of_getElem? (i := 1) rfl)) all0))), p112_0, p112_1, p112_2, p112_3, p112_4⟩
theorem ef_rm_isL1 (m : MethodId) (x0 : Addr) : entryFrame m #[(.ref x0)] 1 = mkF m 0 #[vr x0] [] := by first | (simp [entryFrame, mkF, argsToLocals, Value.category]; done) | rfl
theorem d27_0 : decode jdk_68_method_68_code 0 = .ok (.getstatic 18, 3) := by decide +kernel
theorem d27_3 : decode jdk_68_method_68_code 3 = .ok (.ifCond .eq 14, 3) := by decide +kernel
theorem d27_6 : decode jdk_68_method_68_code 6 = .ok (.aload_n 0, 1) := by decide +kernel
theorem d27_7 : decode jdk_68_method_68_code 7 = .ok (.getfield 22, 3) := by decide +kernel
theorem d27_10 : decode jdk_68_method_68_code 10 = .ok (.ifCond .ne 7, 3) := by decide +kernel
theorem d27_13 : decode jdk_68_method_68_code 13 = .ok (.iconst 1, 1) := by decide +kernel
theorem d27_14 : decode jdk_68_method_68_code 14 = .ok (.goto 4, 3) := by decide +kernel
theorem d27_18 : decode jdk_68_method_68_code 18 = .ok (.ireturn, 1) := by decide +kernel
def Q_rm_isL1 (Z : State) (a1 : Addr) (cs : Int32) (h0 : Heap) (n0 : Nat) (vv : Option Value) (h : Heap) (L : List Loc) : Prop := vv = some (.int 1) ∧ Fr n0 L ∧ h = h0
set_option maxRecDepth 65536 in
set_option maxHeartbeats 40000000 in
theorem rm_isL1 (l : Launch) (Z : State) (a0 : Array Value) (hw : HW a0 Z) (ws : List Jvm.Cond) (a1 : Addr) (cs : Int32) (h0 : Heap) (n0 : Nat) (Z0 : n0 ≤ h0.size) (pr0 : Old Z n0 h0) (pr1 : Sta Z Z.heap "java/lang/String" "COMPACT_STRINGS" "Z" (.int cs)) (hcs : ¬ (cs = (0 : Int32))) (pr3 : Fld Z h0 a1 "java/lang/AbstractStringBuilder" "coder" "B" (.int 0)) :
    Met l Z Y13 jdk_68_method_68_code 1 (some .boolean) ws ({ frames := 0, cells := 0, slots := 0, locals := 0 } : Room) #[(.ref a1)] h0 (Q_rm_isL1 Z a1 cs h0 n0) := by
  refine Met.enter (f0 := fun m => mkF m 0 #[vr a1] []) (plainFor_of_name pn_java_lang_AbstractStringBuilder) (fun m => ef_rm_isL1 m a1) ?_
  intro p e s m below meth c s₁ hx hby hml hown hnm hret hlk hZ X0 e0
  have hown : s.vm.findClass "java/lang/AbstractStringBuilder" = some m.cls := hown
  have hnm : meth.name = "isLatin1" := hnm
  have hml : c.maxLocals = 1 := hml
  have dk : ∀ {i : Nat} {r : Except DecodeError (Instr × Nat)}, decode jdk_68_method_68_code i = r → decode c.code i = r := fun h => hb hby h
  have N0 := Fr.nil n0
  obtain ⟨T114, X114, e114, st114⟩ := getS2 X0 hx hZ hown (host := "") (Or.inl (wd hw 73 rfl)) Via.refl e0 (pr1.ext pr0.2) (g := (mkF m 0 #[vr a1] [])) rfl (dk d27_0)
  refine gy (St T114 m 3 #[vr a1] [(.int cs)]) st114 ?_
  refine gy (St T114 m 7 #[vr a1] [(.ref a1)]) (fun _ k => XS.ifNo X114.here hx rfl (dk d27_3) rfl ((if0 _ _).trans (feq hcs).1) (XS.aloadN X114.here hx rfl (dk d27_6) rfl rfl k)) ?_
  obtain ⟨T115, X115, e115, st115⟩ := getF X114 hx hZ hown (host := "") (Or.inl (wd hw 76 rfl)) Via.refl e114 pr3 (g := (mkF m 7 #[vr a1] [(.ref a1)])) rfl rfl (dk d27_7)
  refine gy (St T115 m 10 #[vr a1] [(.int 0)]) st115 ?_
  refine gy (St T115 m 18 #[vr a1] [(.int 1)]) (fun _ k => XS.ifNo X115.here hx rfl (dk d27_10) rfl ((if0 _ _).trans (teq (by decide : (0 : Int32) = (0 : Int32))).2) (XS.iconst X115.here hx rfl (dk d27_13) (XS.goto X115.here hx rfl (pc0 := 14) (pc' := 18) rfl (dk d27_14) (by decide) (by decide) k))) ?_
  refine Go.ret X115 hx hlk (t := .boolean) hret rfl (Or.inl ⟨rfl, by simp, _, rfl⟩) (dk d27_18) (by decide) (by decide) ?_
  rw [e115]
  exact ⟨rfl, N0, rfl⟩
theorem ef_rm_abappC (m : MethodId) (x0 : Addr) (x1 : Int32) : entryFrame m #[(.ref x0), (.int x1)] 2 = mkF m 0 #[vr x0, vi x1] [] := by first | (simp [entryFrame, mkF, argsToLocals, Value.category]; done) | rfl
theorem d26_0 : decode jdk_68_method_31_code 0 = .ok (.aload_n 0, 1) := by decide +kernel
theorem d26_1 : decode jdk_68_method_31_code 1 = .ok (.aload_n 0, 1) := by decide +kernel
theorem d26_2 : decode jdk_68_method_31_code 2 = .ok (.getfield 79, 3) := by decide +kernel
theorem d26_5 : decode jdk_68_method_31_code 5 = .ok (.iconst 1, 1) := by decide +kernel
theorem d26_6 : decode jdk_68_method_31_code 6 = .ok (.iadd, 1) := by decide +kernel
theorem d26_7 : decode jdk_68_method_31_code 7 = .ok (.invokevirtual 100, 3) := by decide +kernel
theorem d26_10 : decode jdk_68_method_31_code 10 = .ok (.aload_n 0, 1) := by decide +kernel
theorem d26_11 : decode jdk_68_method_31_code 11 = .ok (.invokevirtual 83, 3) := by decide +kernel
theorem pd_14 : parseMethodDescriptor "()Z" = some ⟨[], some .boolean⟩ := by decide +kernel
theorem d26_14 : decode jdk_68_method_31_code 14 = .ok (.ifCond .eq 31, 3) := by decide +kernel
theorem d26_17 : decode jdk_68_method_31_code 17 = .ok (.iload_n 1, 1) := by decide +kernel
theorem d26_18 : decode jdk_68_method_31_code 18 = .ok (.invokestatic 191, 3) := by decide +kernel
theorem d26_21 : decode jdk_68_method_31_code 21 = .ok (.ifCond .eq 24, 3) := by decide +kernel
theorem d26_24 : decode jdk_68_method_31_code 24 = .ok (.aload_n 0, 1) := by decide +kernel
theorem d26_25 : decode jdk_68_method_31_code 25 = .ok (.getfield 15, 3) := by decide +kernel
theorem d26_28 : decode jdk_68_method_31_code 28 = .ok (.aload_n 0, 1) := by decide +kernel
theorem d26_29 : decode jdk_68_method_31_code 29 = .ok (.dup, 1) := by decide +kernel
theorem d26_30 : decode jdk_68_method_31_code 30 = .ok (.getfield 79, 3) := by decide +kernel
theorem d26_33 : decode jdk_68_method_31_code 33 = .ok (.dup_x1, 1) := by decide +kernel
theorem d26_34 : decode jdk_68_method_31_code 34 = .ok (.iconst 1, 1) := by decide +kernel
theorem d26_35 : decode jdk_68_method_31_code 35 = .ok (.iadd, 1) := by decide +kernel
theorem d26_36 : decode jdk_68_method_31_code 36 = .ok (.putfield 79, 3) := by decide +kernel
theorem d26_39 : decode jdk_68_method_31_code 39 = .ok (.iload_n 1, 1) := by decide +kernel
theorem d26_40 : decode jdk_68_method_31_code 40 = .ok (.i2b, 1) := by decide +kernel
theorem d26_41 : decode jdk_68_method_31_code 41 = .ok (.bastore, 1) := by decide +kernel
theorem d26_42 : decode jdk_68_method_31_code 42 = .ok (.goto 33, 3) := by decide +kernel
theorem d26_75 : decode jdk_68_method_31_code 75 = .ok (.aload_n 0, 1) := by decide +kernel
theorem d26_76 : decode jdk_68_method_31_code 76 = .ok (.areturn, 1) := by decide +kernel
def Q_rm_abappC (Z : State) (a1 : Addr) (t1 : Addr) (k1 : ClassId) (ds : List Int32) (p1 : Int32) (cs : Int32) (h0 : Heap) (n0 : Nat) (vv : Option Value) (h : Heap) (L : List Loc) : Prop := vv = some (.ref a1) ∧ Fr n0 L ∧ Keep h0 h [a1, t1] ∧ Exa Z h a1 "java/lang/StringBuilder" ∧ Fld Z h a1 "java/lang/AbstractStringBuilder" "value" "[B" (.ref t1) ∧ Fld Z h a1 "java/lang/AbstractStringBuilder" "coder" "B" (.int 0) ∧ Fld Z h a1 "java/lang/AbstractStringBuilder" "count" "I" (.int (own_z (ds ++ [p1]))) ∧ Arv Z h t1 k1 .byte (16 : Int32) (own_vs (ds ++ [p1])) (.int 0)
set_option maxRecDepth 65536 in
set_option maxHeartbeats 40000000 in
theorem rm_abappC (l : Launch) (Z : State) (a0 : Array Value) (hw : HW a0 Z) (ws : List Jvm.Cond) (a1 : Addr) (t1 : Addr) (k1 : ClassId) (ds : List Int32) (p1 : Int32) (cs : Int32) (h0 : Heap) (n0 : Nat) (Z0 : n0 ≤ h0.size) (pr0 : Old Z n0 h0) (pr1 : Sta Z Z.heap "java/lang/String" "COMPACT_STRINGS" "Z" (.int cs)) (hcs : ¬ (cs = (0 : Int32))) (pr3 : Exa Z h0 a1 "java/lang/StringBuilder") (pr4 : Fld Z h0 a1 "java/lang/AbstractStringBuilder" "value" "[B" (.ref t1)) (pr5 : Fld Z h0 a1 "java/lang/AbstractStringBuilder" "coder" "B" (.int 0)) (pr6 : Fld Z h0 a1 "java/lang/AbstractStringBuilder" "count" "I" (.int (own_z ds))) (pr7 : Arv Z h0 t1 k1 .byte (16 : Int32) (own_vs ds) (.int 0)) (pr8 : n0 ≤ a1) (pr9 : n0 ≤ t1) (hf : own_fit ds [p1]) (q0 : ¬ ((255 : Int32) < p1)) :
    Met l Z Y8 jdk_68_method_31_code 2 (some (.object "java/lang/AbstractStringBuilder")) ws ({ frames := 1, cells := 0, slots := 0, locals := 14 } : Room) #[(.ref a1), (.int p1)] h0 (Q_rm_abappC Z a1 t1 k1 ds p1 cs h0 n0) := by
  refine Met.enter (f0 := fun m => mkF m 0 #[vr a1, vi p1] []) (plainFor_of_name pn_java_lang_AbstractStringBuilder) (fun m => ef_rm_abappC m a1 p1) ?_
  intro p e s m below meth c s₁ hx hby hml hown hnm hret hlk hZ X0 e0
  have hown : s.vm.findClass "java/lang/AbstractStringBuilder" = some m.cls := hown
  have hnm : meth.name = "append" := hnm
  have hml : c.maxLocals = 2 := hml
  have dk : ∀ {i : Nat} {r : Except DecodeError (Instr × Nat)}, decode jdk_68_method_31_code i = r → decode c.code i = r := fun h => hb hby h
  have N0 := Fr.nil n0
  refine gy (St s₁ m 2 #[vr a1, vi p1] [(.ref a1), (.ref a1)]) (fun _ k => XS.aloadN X0.here hx rfl (dk d26_0) rfl rfl (XS.aloadN X0.here hx rfl (dk d26_1) rfl rfl k)) ?_
  obtain ⟨T116, X116, e116, st116⟩ := getF X0 hx hZ hown (host := "") (Or.inl (wd hw 98 rfl)) Via.refl e0 pr6 (g := (mkF m 2 #[vr a1, vi p1] [(.ref a1), (.ref a1)])) rfl rfl (dk d26_2)
  refine gy (St T116 m 5 #[vr a1, vi p1] [(.int (own_z ds)), (.ref a1)]) st116 ?_
  refine gy (St T116 m 7 #[vr a1, vi p1] [(.int ((own_z ds) + (1 : Int32))), (.ref a1)]) (fun _ k => XS.iconst X116.here hx rfl (dk d26_5) (XS.iadd X116.here hx rfl (dk d26_6) rfl k)) ?_
  obtain ⟨cq117, q117, q117'⟩ := pr3.cell
  obtain ⟨_, _, ⟨T117, L117, k117, n117⟩, -, X117, ⟨Lc117, hQ117, l117, y117, z117⟩, st117⟩ := X116.privateBack hx (y := Y10) hown (mvT hZ (wd hw 100 rfl)) (mvT hZ (wd hw 101 rfl)) (mvT hZ (own_selfP (y := Y10) (wd hw 103 rfl) (wd hw 102 rfl) (wd hw 101 rfl) (by decide))) (Cond.privateMethod_at (mvP hZ (wd hw 102 rfl) (args := #[]))) (mvT hZ (wd hw 104 rfl)) (by decide) (backOf (W := 0) (rm_ens l Z a0 hw [] a1 t1 k1 ds ((own_z ds) + (1 : Int32)) h0 n0 Z0 pr3 pr4 pr5 pr7 (own_cap1 hf)) hZ (wd hw 104 rfl) (wd hw 70 rfl) (by decide) (by decide)) (g := (mkF m 7 #[vr a1, vi p1] [(.int ((own_z ds) + (1 : Int32))), (.ref a1)])) rfl (by rw [hml]; rfl) (Steps.refl _) (a := a1) (by rw [e116]; exact q117) q117' (argsL := [(.int ((own_z ds) + (1 : Int32)))]) (rest := []) (lenOf pd_7 rfl) rfl (by show 2 * 0 + _ ≤ _; exact Nat.le_of_eq rfl) (dk d26_7) (fun _ _ => ⟨rfl, e116, Nat.le_of_ble_eq_true rfl, Nat.le_of_ble_eq_true rfl⟩)
  dsimp only [Pt.U, Pt.locs, Pt.cells, Pt.slots] at X117 l117 y117 z117 st117 hQ117
  subst l117 y117 z117
  obtain ⟨rfl, Nq117, hh117⟩ := hQ117
  have N117 := Fr.app N0 Nq117
  have X117 : Stand p l e _ _ m _ below meth c T117 _ 0 0 := X117
  refine gy (St T117 m 10 #[vr a1, vi p1] []) (fun _ k => st117.trans k) ?_
  refine gy (St T117 m 11 #[vr a1, vi p1] [(.ref a1)]) (fun _ k => XS.aloadN X117.here hx rfl (dk d26_10) rfl rfl k) ?_
  obtain ⟨cq118, kq118, q118a, q118b, q118c⟩ := isOf hZ hh117 pr3
  obtain ⟨_, _, ⟨T118, L118, k118, n118⟩, -, X118, ⟨Lc118, hQ118, l118, y118, z118⟩, st118⟩ := X117.virtualBack hx (y := Y13) (z := Y13) hown (mvT hZ (wd hw 134 rfl)) (mvT hZ (wd hw 135 rfl)) (notFace_of_selects (args := #[]) (mvT hZ (wd hw 137 rfl))) (mvT hZ (wd hw 137 rfl)) (mvT hZ (wd hw 136 rfl)) (by decide) (backOf (W := 0) (rm_isL1 l Z a0 hw [] a1 cs h0 n0 Z0 pr0 pr1 hcs pr5) hZ (wd hw 138 rfl) (wd hw 70 rfl) (by decide) (by decide)) q118a q118c (g := (mkF m 11 #[vr a1, vi p1] [(.ref a1)])) rfl (by rw [hml]; rfl) (Steps.refl _) (argsL := []) (rest := []) (lenOf pd_14 rfl) rfl (by show 2 * 0 + _ ≤ _; exact Nat.le_of_eq rfl) (dk d26_11) (fun _ _ => ⟨rfl, hh117, Nat.le_of_ble_eq_true rfl, Nat.le_of_ble_eq_true rfl⟩)
  dsimp only [Pt.U, Pt.locs, Pt.cells, Pt.slots] at X118 l118 y118 z118 st118 hQ118
  subst l118 y118 z118
  obtain ⟨rfl, Nq118, hh118⟩ := hQ118
  have N118 := Fr.app N117 Nq118
  have X118 : Stand p l e _ _ m _ below meth c T118 _ 0 0 := X118
  refine gy (St T118 m 14 #[vr a1, vi p1] [(.int 1)]) (fun _ k => st118.trans k) ?_
  refine gy (St T118 m 18 #[vr a1, vi p1] [(.int p1)]) (fun _ k => XS.ifNo X118.here hx rfl (dk d26_14) rfl ((if0 _ _).trans (feq (by decide : ¬ ((1 : Int32) = (0 : Int32)))).1) (XS.iloadN X118.here hx rfl (dk d26_17) rfl k)) ?_
  obtain ⟨_, _, ⟨T119, L119, k119, n119⟩, -, X119, ⟨Lc119, hQ119, l119, y119, z119⟩, st119⟩ := Jvm.LawKit.callS X118 hx (y := Y32) hown (mvT hZ (wd hw 139 rfl)) (mvT hZ (wd hw 13 rfl)) (mvT hZ (wd hw 14 rfl)) (mvT hZ (wd hw 15 rfl)) (by decide) (backOf (W := 0) (rm_canEnc l Z a0 hw [] p1 h0 n0 Z0 q0) hZ (wd hw 15 rfl) (wd hw 14 rfl) (by decide) (by decide)) (g := (mkF m 18 #[vr a1, vi p1] [(.int p1)])) rfl (by rw [hml]; rfl) (argsL := [(.int p1)]) (rest := []) (lenOf pd_0 rfl) rfl (by show 2 * 0 + _ ≤ _; exact Nat.le_of_eq rfl) (dk d26_18) (fun _ _ => ⟨rfl, hh118, Nat.le_of_ble_eq_true rfl, Nat.le_of_ble_eq_true rfl⟩)
  dsimp only [Pt.U, Pt.locs, Pt.cells, Pt.slots] at X119 l119 y119 z119 st119 hQ119
  subst l119 y119 z119
  obtain ⟨rfl, Nq119, hh119⟩ := hQ119
  have N119 := Fr.app N118 Nq119
  have X119 : Stand p l e _ _ m _ below meth c T119 _ 0 0 := X119
  refine gy (St T119 m 21 #[vr a1, vi p1] [(.int 1)]) (fun _ k => st119 _ k) ?_
  refine gy (St T119 m 25 #[vr a1, vi p1] [(.ref a1)]) (fun _ k => XS.ifNo X119.here hx rfl (dk d26_21) rfl ((if0 _ _).trans (feq (by decide : ¬ ((1 : Int32) = (0 : Int32)))).1) (XS.aloadN X119.here hx rfl (dk d26_24) rfl rfl k)) ?_
  obtain ⟨T120, X120, e120, st120⟩ := getF X119 hx hZ hown (host := "") (Or.inl (wd hw 74 rfl)) Via.refl hh119 pr4 (g := (mkF m 25 #[vr a1, vi p1] [(.ref a1)])) rfl rfl (dk d26_25)
  refine gy (St T120 m 28 #[vr a1, vi p1] [(.ref t1)]) st120 ?_
  refine gy (St T120 m 30 #[vr a1, vi p1] [(.ref a1), (.ref a1), (.ref t1)]) (fun _ k => XS.aloadN X120.here hx rfl (dk d26_28) rfl rfl (XS.dup X120.here hx rfl (dk d26_29) rfl rfl k)) ?_
  obtain ⟨T121, X121, e121, st121⟩ := getF X120 hx hZ hown (host := "") (Or.inl (wd hw 98 rfl)) Via.refl e120 pr6 (g := (mkF m 30 #[vr a1, vi p1] [(.ref a1), (.ref a1), (.ref t1)])) rfl rfl (dk d26_30)
  refine gy (St T121 m 33 #[vr a1, vi p1] [(.int (own_z ds)), (.ref a1), (.ref t1)]) st121 ?_
  refine gy (St T121 m 36 #[vr a1, vi p1] [(.int ((own_z ds) + (1 : Int32))), (.ref a1), (.int (own_z ds)), (.ref t1)]) (fun _ k => XS.dupX1 X121.here hx rfl (dk d26_33) rfl rfl rfl (XS.iconst X121.here hx rfl (dk d26_34) (XS.iadd X121.here hx rfl (dk d26_35) rfl k))) ?_
  obtain ⟨T122, h122, X122, e122, W122, st122⟩ := putF X121 hx hZ hown (host := "") (Or.inl (wd hw 98 rfl)) Via.refl e121 pr6 pr3 (Or.inl (wd hw 99 rfl)) (wd hw 61 rfl) (ty := .int) (by decide) rfl rfl (g := (mkF m 36 #[vr a1, vi p1] [(.int ((own_z ds) + (1 : Int32))), (.ref a1), (.int (own_z ds)), (.ref t1)])) rfl rfl (dk d26_36)
  have N122 := Fr.snoc X122 N119 pr8
  have O123 := pr0.wr W122 pr8
  have Z123 : n0 ≤ h122.size := Nat.le_trans Z0 (Keep.of_wr W122).1
  have F122 := pr6.same W122
  refine gy (St T122 m 39 #[vr a1, vi p1] [(.int (own_z ds)), (.ref t1)]) st122 ?_
  refine gy (St T122 m 41 #[vr a1, vi p1] [(.int (p1.toInt8.toInt32)), (.int (own_z ds)), (.ref t1)]) (fun _ k => XS.iloadN X122.here hx rfl (dk d26_39) rfl (XS.i2b X122.here hx rfl (dk d26_40) rfl k)) ?_
  have f125 := (pr7.other W122 (Ne.symm (Exa.neArv pr3 pr7 (wd hw 61 rfl))))
  obtain ⟨cl124, Ar124, q124, S124, N_124, Hs124, G124⟩ := (Arv.pad (vs' := own_pad ds) f125 (pad_rep _ _ _))
  have hin124 : ¬ ((own_z ds) < 0 ∨ cl124.slots.size ≤ ((own_z ds)).toNatClampNeg) := inb_of S124 ⟨own_z0 (own_f1 hf), own_zlt (own_f16 hf)⟩
  obtain ⟨T124, h124, X124, e124, W124, st124⟩ := stB X122 hx hZ e122 Ar124 (j := (own_z ds)) hin124 (g := (mkF m 41 #[vr a1, vi p1] [(.int (p1.toInt8.toInt32)), (.int (own_z ds)), (.ref t1)])) rfl rfl (dk d26_41)
  have O126 := O123.wr W124 pr9
  have Z126 : n0 ≤ h124.size := Nat.le_trans Z123 (Keep.of_wr W124).1
  have V124 : Arv Z h124 t1 k1 .byte (16 : Int32) (own_vs (ds ++ [p1])) (.int 0) := Arv.pad (Arv.set Ar124 q124 S124 N_124 Hs124 G124 (fits_nar_byte _) W124 ds.length (own_zn (own_f1 hf)) (by rw [own_padlen]; omega)) (own_st _ hf (own_lo _))
  have N124 := Fr.snoc X124 N122 pr9
  refine gy (St T124 m 42 #[vr a1, vi p1] []) st124 ?_
  refine gy (St T124 m 76 #[vr a1, vi p1] [(.ref a1)]) (fun _ k => XS.goto X124.here hx rfl (pc0 := 42) (pc' := 75) rfl (dk d26_42) (by decide) (by decide) (XS.aloadN X124.here hx rfl (dk d26_75) rfl rfl k)) ?_
  refine Go.ret X124 hx hlk (t := (.object "java/lang/AbstractStringBuilder")) hret rfl (Or.inr (Or.inr (Or.inr (Or.inr ⟨rfl, rfl, rfl⟩)))) (dk d26_76) (by decide) (by decide) ?_
  have F127 : Fld Z h124 a1 "java/lang/AbstractStringBuilder" "count" "I" (.int (own_z (ds ++ [p1]))) := by rw [own_z1]; exact (F122.other W124 (Or.inl (Exa.neArv (pr3.wr W122) f125 (wd hw 61 rfl))))
  rw [e124]
  exact ⟨rfl, N124, (((Keep.refl h0 [a1, t1]).wr W122 (Or.inl (List.mem_of_getElem? (i := 0) rfl))).wr W124 (Or.inl (List.mem_of_getElem? (i := 1) rfl))), ((pr3.wr W122).wr W124), ((pr4.other W122 (Or.inr (slot_ne (Or.inl (wd hw 75 rfl)) (Or.inl (wd hw 99 rfl)) (by decide) (t := (.array .byte)) (t' := .int) (by decide) (by decide)))).other W124 (Or.inl (Exa.neArv (pr3.wr W122) f125 (wd hw 61 rfl)))), ((pr5.other W122 (Or.inr (slot_ne (Or.inl (wd hw 77 rfl)) (Or.inl (wd hw 99 rfl)) (by decide) (t := .byte) (t' := .int) (by decide) (by decide)))).other W124 (Or.inl (Exa.neArv (pr3.wr W122) f125 (wd hw 61 rfl)))), F127, V124⟩
theorem ef_rm_sbappC (m : MethodId) (x0 : Addr) (x1 : Int32) : entryFrame m #[(.ref x0), (.int x1)] 2 = mkF m 0 #[vr x0, vi x1] [] := by first | (simp [entryFrame, mkF, argsToLocals, Value.category]; done) | rfl
theorem d25_0 : decode jdk_67_method_14_code 0 = .ok (.aload_n 0, 1) := by decide +kernel
theorem d25_1 : decode jdk_67_method_14_code 1 = .ok (.iload_n 1, 1) := by decide +kernel
theorem d25_2 : decode jdk_67_method_14_code 2 = .ok (.invokespecial 50, 3) := by decide +kernel
theorem pd_15 : parseMethodDescriptor "(C)Ljava/lang/AbstractStringBuilder;" = some ⟨[.char], some (.object "java/lang/AbstractStringBuilder")⟩ := by decide +kernel
theorem d25_5 : decode jdk_67_method_14_code 5 = .ok (.pop, 1) := by decide +kernel
theorem d25_6 : decode jdk_67_method_14_code 6 = .ok (.aload_n 0, 1) := by decide +kernel
theorem d25_7 : decode jdk_67_method_14_code 7 = .ok (.areturn, 1) := by decide +kernel
def Q_rm_sbappC (Z : State) (a1 : Addr) (t1 : Addr) (k1 : ClassId) (ds : List Int32) (p1 : Int32) (cs : Int32) (h0 : Heap) (n0 : Nat) (vv : Option Value) (h : Heap) (L : List Loc) : Prop := vv = some (.ref a1) ∧ Fr n0 L ∧ Keep h0 h [a1, t1] ∧ Exa Z h a1 "java/lang/StringBuilder" ∧ Fld Z h a1 "java/lang/AbstractStringBuilder" "value" "[B" (.ref t1) ∧ Fld Z h a1 "java/lang/AbstractStringBuilder" "coder" "B" (.int 0) ∧ Fld Z h a1 "java/lang/AbstractStringBuilder" "count" "I" (.int (own_z (ds ++ [p1]))) ∧ Arv Z h t1 k1 .byte (16 : Int32) (own_vs (ds ++ [p1])) (.int 0)
set_option maxRecDepth 65536 in
set_option maxHeartbeats 40000000 in
theorem rm_sbappC (l : Launch) (Z : State) (a0 : Array Value) (hw : HW a0 Z) (ws : List Jvm.Cond) (a1 : Addr) (t1 : Addr) (k1 : ClassId) (ds : List Int32) (p1 : Int32) (cs : Int32) (h0 : Heap) (n0 : Nat) (Z0 : n0 ≤ h0.size) (pr0 : Old Z n0 h0) (pr1 : Sta Z Z.heap "java/lang/String" "COMPACT_STRINGS" "Z" (.int cs)) (hcs : ¬ (cs = (0 : Int32))) (pr3 : Exa Z h0 a1 "java/lang/StringBuilder") (pr4 : Fld Z h0 a1 "java/lang/AbstractStringBuilder" "value" "[B" (.ref t1)) (pr5 : Fld Z h0 a1 "java/lang/AbstractStringBuilder" "coder" "B" (.int 0)) (pr6 : Fld Z h0 a1 "java/lang/AbstractStringBuilder" "count" "I" (.int (own_z ds))) (pr7 : Arv Z h0 t1 k1 .byte (16 : Int32) (own_vs ds) (.int 0)) (pr8 : n0 ≤ a1) (pr9 : n0 ≤ t1) (hf : own_fit ds [p1]) (q0 : ¬ ((255 : Int32) < p1)) :
    Met l Z Y28 jdk_67_method_14_code 2 (some (.object "java/lang/StringBuilder")) ws ({ frames := 2, cells := 0, slots := 0, locals := 27 } : Room) #[(.ref a1), (.int p1)] h0 (Q_rm_sbappC Z a1 t1 k1 ds p1 cs h0 n0) := by
  refine Met.enter (f0 := fun m => mkF m 0 #[vr a1, vi p1] []) (plainFor_of_name pn_java_lang_StringBuilder) (fun m => ef_rm_sbappC m a1 p1) ?_
  intro p e s m below meth c s₁ hx hby hml hown hnm hret hlk hZ X0 e0
  have hown : s.vm.findClass "java/lang/StringBuilder" = some m.cls := hown
  have hnm : meth.name = "append" := hnm
  have hml : c.maxLocals = 2 := hml
  have dk : ∀ {i : Nat} {r : Except DecodeError (Instr × Nat)}, decode jdk_67_method_14_code i = r → decode c.code i = r := fun h => hb hby h
  have N0 := Fr.nil n0
  refine gy (St s₁ m 2 #[vr a1, vi p1] [(.int p1), (.ref a1)]) (fun _ k => XS.aloadN X0.here hx rfl (dk d25_0) rfl rfl (XS.iloadN X0.here hx rfl (dk d25_1) rfl k)) ?_
  obtain ⟨_, _, ⟨T128, L128, k128, n128⟩, -, X128, ⟨Lc128, hQ128, l128, y128, z128⟩, st128⟩ := superBack X0 hx hZ (y := Y8) hown (wd hw 130 rfl) (own_sameM (y := Y8) (wd hw 103 rfl) rfl (wd hw 131 rfl) (by decide)) (wd hw 131 rfl) (wd hw 85 rfl) (by decide) (backOf (W := 0) (rm_abappC l Z a0 hw [] a1 t1 k1 ds p1 cs h0 n0 Z0 pr0 pr1 hcs pr3 pr4 pr5 pr6 pr7 pr8 pr9 hf q0) hZ (wd hw 133 rfl) (wd hw 70 rfl) (by decide) (by decide)) e0 (Ins.self pr3) (g := (mkF m 2 #[vr a1, vi p1] [(.int p1), (.ref a1)])) rfl (by rw [hml]; rfl) (wd hw 133 rfl) (argsL := [(.int p1)]) (rest := []) (lenOf pd_15 rfl) rfl (by show 2 * 0 + _ ≤ _; exact Nat.le_of_eq rfl) (dk d25_2) (fun _ _ => ⟨rfl, e0, Nat.le_of_ble_eq_true rfl, Nat.le_of_ble_eq_true rfl⟩)
  dsimp only [Pt.U, Pt.locs, Pt.cells, Pt.slots] at X128 l128 y128 z128 st128 hQ128
  subst l128 y128 z128
  obtain ⟨rfl, Nq128, K128, p128_0, p128_1, p128_2, p128_3, p128_4⟩ := hQ128
  have N128 := Fr.app N0 Nq128
  have X128 : Stand p l e _ _ m _ below meth c T128 _ 0 0 := X128
  have O129 := pr0.keep K128 (allS pr8 (allS pr9 all0))
  have Z129 : n0 ≤ T128.heap.size := Nat.le_trans Z0 K128.1
  refine gy (St T128 m 5 #[vr a1, vi p1] [(.ref a1)]) (fun _ k => st128.trans k) ?_
  refine gy (St T128 m 7 #[vr a1, vi p1] [(.ref a1)]) (fun _ k => XS.pop X128.here hx rfl (dk d25_5) rfl rfl (XS.aloadN X128.here hx rfl (dk d25_6) rfl rfl k)) ?_
  refine Go.ret X128 hx hlk (t := (.object "java/lang/StringBuilder")) hret rfl (Or.inr (Or.inr (Or.inr (Or.inr ⟨rfl, rfl, rfl⟩)))) (dk d25_7) (by decide) (by decide) ?_
  exact ⟨rfl, N128, ((Keep.refl h0 [a1, t1]).trans K128 (allS (Or.inl (List.mem_of_getElem? (i := 0) rfl)) (allS (Or.inl (List.mem_of_getElem? (i := 1) rfl)) all0))), p128_0, p128_1, p128_2, p128_3, p128_4⟩
theorem ef_rm_getV (m : MethodId) (x0 : Addr) : entryFrame m #[(.ref x0)] 1 = mkF m 0 #[vr x0] [] := by first | (simp [entryFrame, mkF, argsToLocals, Value.category]; done) | rfl
theorem d31_0 : decode jdk_68_method_64_code 0 = .ok (.aload_n 0, 1) := by decide +kernel
theorem d31_1 : decode jdk_68_method_64_code 1 = .ok (.getfield 15, 3) := by decide +kernel
theorem d31_4 : decode jdk_68_method_64_code 4 = .ok (.areturn, 1) := by decide +kernel
def Q_rm_getV (Z : State) (a1 : Addr) (t1 : Addr) (h0 : Heap) (n0 : Nat) (vv : Option Value) (h : Heap) (L : List Loc) : Prop := vv = some (.ref t1) ∧ Fr n0 L ∧ h = h0
set_option maxRecDepth 65536 in
set_option maxHeartbeats 40000000 in
theorem rm_getV (l : Launch) (Z : State) (a0 : Array Value) (hw : HW a0 Z) (ws : List Jvm.Cond) (a1 : Addr) (t1 : Addr) (h0 : Heap) (n0 : Nat) (Z0 : n0 ≤ h0.size) (pr0 : Fld Z h0 a1 "java/lang/AbstractStringBuilder" "value" "[B" (.ref t1)) :
    Met l Z Y11 jdk_68_method_64_code 1 (some (.array .byte)) ws ({ frames := 0, cells := 0, slots := 0, locals := 0 } : Room) #[(.ref a1)] h0 (Q_rm_getV Z a1 t1 h0 n0) := by
  refine Met.enter (f0 := fun m => mkF m 0 #[vr a1] []) (plainFor_of_name pn_java_lang_AbstractStringBuilder) (fun m => ef_rm_getV m a1) ?_
  intro p e s m below meth c s₁ hx hby hml hown hnm hret hlk hZ X0 e0
  have hown : s.vm.findClass "java/lang/AbstractStringBuilder" = some m.cls := hown
  have hnm : meth.name = "getValue" := hnm
  have hml : c.maxLocals = 1 := hml
  have dk : ∀ {i : Nat} {r : Except DecodeError (Instr × Nat)}, decode jdk_68_method_64_code i = r → decode c.code i = r := fun h => hb hby h
  have N0 := Fr.nil n0
  refine gy (St s₁ m 1 #[vr a1] [(.ref a1)]) (fun _ k => XS.aloadN X0.here hx rfl (dk d31_0) rfl rfl k) ?_
  obtain ⟨T130, X130, e130, st130⟩ := getF X0 hx hZ hown (host := "") (Or.inl (wd hw 74 rfl)) Via.refl e0 pr0 (g := (mkF m 1 #[vr a1] [(.ref a1)])) rfl rfl (dk d31_1)
  refine gy (St T130 m 4 #[vr a1] [(.ref t1)]) st130 ?_
  refine Go.ret X130 hx hlk (t := (.array .byte)) hret rfl (Or.inr (Or.inr (Or.inr (Or.inr ⟨rfl, rfl, rfl⟩)))) (dk d31_4) (by decide) (by decide) ?_
  rw [e130]
  exact ⟨rfl, N0, rfl⟩
theorem ef_rm_ablen (m : MethodId) (x0 : Addr) : entryFrame m #[(.ref x0)] 1 = mkF m 0 #[vr x0] [] := by first | (simp [entryFrame, mkF, argsToLocals, Value.category]; done) | rfl
theorem d33_0 : decode jdk_68_method_6_code 0 = .ok (.aload_n 0, 1) := by decide +kernel
theorem d33_1 : decode jdk_68_method_6_code 1 = .ok (.getfield 79, 3) := by decide +kernel
theorem d33_4 : decode jdk_68_method_6_code 4 = .ok (.ireturn, 1) := by decide +kernel
def Q_rm_ablen (Z : State) (a1 : Addr) (n1 : Int32) (h0 : Heap) (n0 : Nat) (vv : Option Value) (h : Heap) (L : List Loc) : Prop := vv = some (.int n1) ∧ Fr n0 L ∧ h = h0
set_option maxRecDepth 65536 in
set_option maxHeartbeats 40000000 in
theorem rm_ablen (l : Launch) (Z : State) (a0 : Array Value) (hw : HW a0 Z) (ws : List Jvm.Cond) (a1 : Addr) (n1 : Int32) (h0 : Heap) (n0 : Nat) (Z0 : n0 ≤ h0.size) (pr0 : Fld Z h0 a1 "java/lang/AbstractStringBuilder" "count" "I" (.int n1)) :
    Met l Z Y14 jdk_68_method_6_code 1 (some .int) ws ({ frames := 0, cells := 0, slots := 0, locals := 0 } : Room) #[(.ref a1)] h0 (Q_rm_ablen Z a1 n1 h0 n0) := by
  refine Met.enter (f0 := fun m => mkF m 0 #[vr a1] []) (plainFor_of_name pn_java_lang_AbstractStringBuilder) (fun m => ef_rm_ablen m a1) ?_
  intro p e s m below meth c s₁ hx hby hml hown hnm hret hlk hZ X0 e0
  have hown : s.vm.findClass "java/lang/AbstractStringBuilder" = some m.cls := hown
  have hnm : meth.name = "length" := hnm
  have hml : c.maxLocals = 1 := hml
  have dk : ∀ {i : Nat} {r : Except DecodeError (Instr × Nat)}, decode jdk_68_method_6_code i = r → decode c.code i = r := fun h => hb hby h
  have N0 := Fr.nil n0
  refine gy (St s₁ m 1 #[vr a1] [(.ref a1)]) (fun _ k => XS.aloadN X0.here hx rfl (dk d33_0) rfl rfl k) ?_
  obtain ⟨T131, X131, e131, st131⟩ := getF X0 hx hZ hown (host := "") (Or.inl (wd hw 98 rfl)) Via.refl e0 pr0 (g := (mkF m 1 #[vr a1] [(.ref a1)])) rfl rfl (dk d33_1)
  refine gy (St T131 m 4 #[vr a1] [(.int n1)]) st131 ?_
  refine Go.ret X131 hx hlk (t := .int) hret rfl (Or.inl ⟨rfl, by simp, _, rfl⟩) (dk d33_4) (by decide) (by decide) ?_
  rw [e131]
  exact ⟨rfl, N0, rfl⟩
theorem ef_rm_sblen (m : MethodId) (x0 : Addr) : entryFrame m #[(.ref x0)] 1 = mkF m 0 #[vr x0] [] := by first | (simp [entryFrame, mkF, argsToLocals, Value.category]; done) | rfl
theorem d32_0 : decode jdk_67_method_93_code 0 = .ok (.aload_n 0, 1) := by decide +kernel
theorem d32_1 : decode jdk_67_method_93_code 1 = .ok (.invokespecial 343, 3) := by decide +kernel
theorem d32_4 : decode jdk_67_method_93_code 4 = .ok (.ireturn, 1) := by decide +kernel
def Q_rm_sblen (Z : State) (a1 : Addr) (n1 : Int32) (h0 : Heap) (n0 : Nat) (vv : Option Value) (h : Heap) (L : List Loc) : Prop := vv = some (.int n1) ∧ Fr n0 L ∧ h = h0
set_option maxRecDepth 65536 in
set_option maxHeartbeats 40000000 in
theorem rm_sblen (l : Launch) (Z : State) (a0 : Array Value) (hw : HW a0 Z) (ws : List Jvm.Cond) (a1 : Addr) (n1 : Int32) (h0 : Heap) (n0 : Nat) (Z0 : n0 ≤ h0.size) (pr0 : Exa Z h0 a1 "java/lang/StringBuilder") (pr1 : Fld Z h0 a1 "java/lang/AbstractStringBuilder" "count" "I" (.int n1)) :
    Met l Z Y30 jdk_67_method_93_code 1 (some .int) ws ({ frames := 1, cells := 0, slots := 0, locals := 12 } : Room) #[(.ref a1)] h0 (Q_rm_sblen Z a1 n1 h0 n0) := by
  refine Met.enter (f0 := fun m => mkF m 0 #[vr a1] []) (plainFor_of_name pn_java_lang_StringBuilder) (fun m => ef_rm_sblen m a1) ?_
  intro p e s m below meth c s₁ hx hby hml hown hnm hret hlk hZ X0 e0
  have hown : s.vm.findClass "java/lang/StringBuilder" = some m.cls := hown
  have hnm : meth.name = "length" := hnm
  have hml : c.maxLocals = 1 := hml
  have dk : ∀ {i : Nat} {r : Except DecodeError (Instr × Nat)}, decode jdk_67_method_93_code i = r → decode c.code i = r := fun h => hb hby h
  have N0 := Fr.nil n0
  refine gy (St s₁ m 1 #[vr a1] [(.ref a1)]) (fun _ k => XS.aloadN X0.here hx rfl (dk d32_0) rfl rfl k) ?_
  obtain ⟨_, _, ⟨T132, L132, k132, n132⟩, -, X132, ⟨Lc132, hQ132, l132, y132, z132⟩, st132⟩ := superBack X0 hx hZ (y := Y14) hown (wd hw 163 rfl) (own_sameM (y := Y14) (wd hw 103 rfl) rfl (wd hw 159 rfl) (by decide)) (wd hw 159 rfl) (wd hw 85 rfl) (by decide) (backOf (W := 0) (rm_ablen l Z a0 hw [] a1 n1 h0 n0 Z0 pr1) hZ (wd hw 164 rfl) (wd hw 70 rfl) (by decide) (by decide)) e0 (Ins.self pr0) (g := (mkF m 1 #[vr a1] [(.ref a1)])) rfl (by rw [hml]; rfl) (wd hw 164 rfl) (argsL := []) (rest := []) (lenOf pd_11 rfl) rfl (by show 2 * 0 + _ ≤ _; exact Nat.le_of_eq rfl) (dk d32_1) (fun _ _ => ⟨rfl, e0, Nat.le_of_ble_eq_true rfl, Nat.le_of_ble_eq_true rfl⟩)
  dsimp only [Pt.U, Pt.locs, Pt.cells, Pt.slots] at X132 l132 y132 z132 st132 hQ132
  subst l132 y132 z132
  obtain ⟨rfl, Nq132, hh132⟩ := hQ132
  have N132 := Fr.app N0 Nq132
  have X132 : Stand p l e _ _ m _ below meth c T132 _ 0 0 := X132
  refine gy (St T132 m 4 #[vr a1] [(.int n1)]) (fun _ k => st132.trans k) ?_
  refine Go.ret X132 hx hlk (t := .int) hret rfl (Or.inl ⟨rfl, by simp, _, rfl⟩) (dk d32_4) (by decide) (by decide) ?_
  rw [hh132]
  exact ⟨rfl, N132, rfl⟩
theorem ef_rm_min (m : MethodId) (x1 : Int32) : entryFrame m #[(.int 16), (.int x1)] 2 = mkF m 0 #[vi 16, vi x1] [] := by first | (simp [entryFrame, mkF, argsToLocals, Value.category]; done) | rfl
theorem d37_0 : decode jdk_29_method_69_code 0 = .ok (.iload_n 0, 1) := by decide +kernel
theorem d37_1 : decode jdk_29_method_69_code 1 = .ok (.iload_n 1, 1) := by decide +kernel
theorem d37_2 : decode jdk_29_method_69_code 2 = .ok (.if_icmp .gt 7, 3) := by decide +kernel
theorem d37_9 : decode jdk_29_method_69_code 9 = .ok (.iload_n 1, 1) := by decide +kernel
theorem d37_10 : decode jdk_29_method_69_code 10 = .ok (.ireturn, 1) := by decide +kernel
def Q_rm_min (Z : State) (p2 : Int32) (h0 : Heap) (n0 : Nat) (vv : Option Value) (h : Heap) (L : List Loc) : Prop := vv = some (.int p2) ∧ Fr n0 L ∧ h = h0
set_option maxRecDepth 65536 in
set_option maxHeartbeats 40000000 in
theorem rm_min (l : Launch) (Z : State) (a0 : Array Value) (hw : HW a0 Z) (ws : List Jvm.Cond) (p2 : Int32) (h0 : Heap) (n0 : Nat) (Z0 : n0 ≤ h0.size) (q0 : p2 < (16 : Int32)) :
    Met l Z Y16 jdk_29_method_69_code 2 (some .int) ws ({ frames := 0, cells := 0, slots := 0, locals := 0 } : Room) #[(.int 16), (.int p2)] h0 (Q_rm_min Z p2 h0 n0) := by
  refine Met.enter (f0 := fun m => mkF m 0 #[vi 16, vi p2] []) (Jvm.Free.JP.mathPlain rfl (by decide +kernel)) (fun m => ef_rm_min m p2) ?_
  intro p e s m below meth c s₁ hx hby hml hown hnm hret hlk hZ X0 e0
  have hown : s.vm.findClass "java/lang/Math" = some m.cls := hown
  have hnm : meth.name = "min" := hnm
  have hml : c.maxLocals = 2 := hml
  have dk : ∀ {i : Nat} {r : Except DecodeError (Instr × Nat)}, decode jdk_29_method_69_code i = r → decode c.code i = r := fun h => hb hby h
  have N0 := Fr.nil n0
  refine gy (St s₁ m 10 #[vi 16, vi p2] [(.int p2)]) (fun _ k => XS.iloadN X0.here hx rfl (dk d37_0) rfl (XS.iloadN X0.here hx rfl (dk d37_1) rfl (XS.icmpYes X0.here hx rfl (pc0 := 2) (pc' := 9) rfl (dk d37_2) rfl (tlt q0).2.2.1 (by decide) (by decide) (XS.iloadN X0.here hx rfl (dk d37_9) rfl k)))) ?_
  refine Go.ret X0 hx hlk (t := .int) hret rfl (Or.inl ⟨rfl, by simp, _, rfl⟩) (dk d37_10) (by decide) (by decide) ?_
  rw [e0]
  exact ⟨rfl, N0, rfl⟩
theorem ef_rm_chk (m : MethodId) (x1 : Int32) : entryFrame m #[(.int 0), (.int x1)] 2 = mkF m 0 #[vi 0, vi x1] [] := by first | (simp [entryFrame, mkF, argsToLocals, Value.category]; done) | rfl
theorem d36_0 : decode jdk_65_method_131_code 0 = .ok (.iload_n 1, 1) := by decide +kernel
theorem d36_1 : decode jdk_65_method_131_code 1 = .ok (.iload_n 0, 1) := by decide +kernel
theorem d36_2 : decode jdk_65_method_131_code 2 = .ok (.if_icmp .ge 35, 3) := by decide +kernel
theorem d36_37 : decode jdk_65_method_131_code 37 = .ok (.return_, 1) := by decide +kernel
theorem pn_java_util_Arrays : plainName "java/util/Arrays" = true := by first | (simp [plainName, overriddenIn]; done) | decide +kernel
def Q_rm_chk (Z : State) (p2 : Int32) (h0 : Heap) (n0 : Nat) (vv : Option Value) (h : Heap) (L : List Loc) : Prop := vv = none ∧ Fr n0 L ∧ h = h0
set_option maxRecDepth 65536 in
set_option maxHeartbeats 40000000 in
theorem rm_chk (l : Launch) (Z : State) (a0 : Array Value) (hw : HW a0 Z) (ws : List Jvm.Cond) (p2 : Int32) (h0 : Heap) (n0 : Nat) (Z0 : n0 ≤ h0.size) (q0 : ¬ (p2 < (0 : Int32))) :
    Met l Z Y37 jdk_65_method_131_code 2 none ws ({ frames := 0, cells := 0, slots := 0, locals := 0 } : Room) #[(.int 0), (.int p2)] h0 (Q_rm_chk Z p2 h0 n0) := by
  refine Met.enter (f0 := fun m => mkF m 0 #[vi 0, vi p2] []) (plainFor_of_name pn_java_util_Arrays) (fun m => ef_rm_chk m p2) ?_
  intro p e s m below meth c s₁ hx hby hml hown hnm hret hlk hZ X0 e0
  have hown : s.vm.findClass "java/util/Arrays" = some m.cls := hown
  have hnm : meth.name = "checkLength" := hnm
  have hml : c.maxLocals = 2 := hml
  have dk : ∀ {i : Nat} {r : Except DecodeError (Instr × Nat)}, decode jdk_65_method_131_code i = r → decode c.code i = r := fun h => hb hby h
  have N0 := Fr.nil n0
  refine gy (St s₁ m 37 #[vi 0, vi p2] []) (fun _ k => XS.iloadN X0.here hx rfl (dk d36_0) rfl (XS.iloadN X0.here hx rfl (dk d36_1) rfl (XS.icmpYes X0.here hx rfl (pc0 := 2) (pc' := 37) rfl (dk d36_2) rfl (flt q0).2.1 (by decide) (by decide) k))) ?_
  refine Go.retV X0 hx hlk hret (dk d36_37) (by decide) (by decide) ?_
  rw [e0]
  exact ⟨rfl, N0, rfl⟩
theorem ef_rm_cprb (m : MethodId) (x0 : Addr) (x2 : Int32) : entryFrame m #[(.ref x0), (.int 0), (.int x2)] 5 = mkF m 0 #[vr x0, vi 0, vi x2, .unset, .unset] [] := by first | (simp [entryFrame, mkF, argsToLocals, Value.category]; done) | rfl
theorem d35_0 : decode jdk_65_method_133_code 0 = .ok (.iload_n 1, 1) := by decide +kernel
theorem d35_1 : decode jdk_65_method_133_code 1 = .ok (.iload_n 2, 1) := by decide +kernel
theorem d35_2 : decode jdk_65_method_133_code 2 = .ok (.invokestatic 343, 3) := by decide +kernel
theorem pd_16 : parseMethodDescriptor "(II)V" = some ⟨[.int, .int], none⟩ := by decide +kernel
theorem d35_5 : decode jdk_65_method_133_code 5 = .ok (.iload_n 2, 1) := by decide +kernel
theorem d35_6 : decode jdk_65_method_133_code 6 = .ok (.iload_n 1, 1) := by decide +kernel
theorem d35_7 : decode jdk_65_method_133_code 7 = .ok (.isub, 1) := by decide +kernel
theorem d35_8 : decode jdk_65_method_133_code 8 = .ok (.istore_n 3, 1) := by decide +kernel
theorem d35_9 : decode jdk_65_method_133_code 9 = .ok (.iload_n 3, 1) := by decide +kernel
theorem d35_10 : decode jdk_65_method_133_code 10 = .ok (.newarray .byte, 2) := by decide +kernel
theorem d35_12 : decode jdk_65_method_133_code 12 = .ok (.astore 4, 2) := by decide +kernel
theorem d35_14 : decode jdk_65_method_133_code 14 = .ok (.aload_n 0, 1) := by decide +kernel
theorem d35_15 : decode jdk_65_method_133_code 15 = .ok (.iload_n 1, 1) := by decide +kernel
theorem d35_16 : decode jdk_65_method_133_code 16 = .ok (.aload 4, 2) := by decide +kernel
theorem d35_18 : decode jdk_65_method_133_code 18 = .ok (.iconst 0, 1) := by decide +kernel
theorem d35_19 : decode jdk_65_method_133_code 19 = .ok (.aload_n 0, 1) := by decide +kernel
theorem d35_20 : decode jdk_65_method_133_code 20 = .ok (.arraylength, 1) := by decide +kernel
theorem d35_21 : decode jdk_65_method_133_code 21 = .ok (.iload_n 1, 1) := by decide +kernel
theorem d35_22 : decode jdk_65_method_133_code 22 = .ok (.isub, 1) := by decide +kernel
theorem d35_23 : decode jdk_65_method_133_code 23 = .ok (.iload_n 3, 1) := by decide +kernel
theorem d35_24 : decode jdk_65_method_133_code 24 = .ok (.invokestatic 304, 3) := by decide +kernel
theorem pd_17 : parseMethodDescriptor "(II)I" = some ⟨[.int, .int], some .int⟩ := by decide +kernel
theorem d35_27 : decode jdk_65_method_133_code 27 = .ok (.invokestatic 150, 3) := by decide +kernel
theorem d35_30 : decode jdk_65_method_133_code 30 = .ok (.aload 4, 2) := by decide +kernel
theorem d35_32 : decode jdk_65_method_133_code 32 = .ok (.areturn, 1) := by decide +kernel
def Q_rm_cprb (Z : State) (t1 : Addr) (k1 : ClassId) (ds : List Int32) (h0 : Heap) (n0 : Nat) (vv : Option Value) (h : Heap) (L : List Loc) : Prop := ∃ b : Addr, ∃ k : ClassId, vv = some (.ref b) ∧ Fr n0 L ∧ Keep h0 h [] ∧ Arv Z h b k .byte (own_z ds) (own_vs ds) (.int 0) ∧ h0.size ≤ b
set_option maxRecDepth 65536 in
set_option maxHeartbeats 40000000 in
theorem rm_cprb (l : Launch) (Z : State) (a0 : Array Value) (hw : HW a0 Z) (ws : List Jvm.Cond) (t1 : Addr) (k1 : ClassId) (ds : List Int32) (h0 : Heap) (n0 : Nat) (Z0 : n0 ≤ h0.size) (pr0 : Old Z n0 h0) (pr1 : Arv Z h0 t1 k1 .byte (16 : Int32) (own_vs ds) (.int 0)) (hsh : own_sh ds) :
    Met l Z Y39 jdk_65_method_133_code 5 (some (.array .byte)) ws ({ frames := 1, cells := 1, slots := 16, locals := 18 } : Room) #[(.ref t1), (.int 0), (.int (own_z ds))] h0 (Q_rm_cprb Z t1 k1 ds h0 n0) := by
  refine Met.enter (f0 := fun m => mkF m 0 #[vr t1, vi 0, .val (.int (own_z ds)), .unset, .unset] []) (plainFor_of_name pn_java_util_Arrays) (fun m => ef_rm_cprb m t1 (own_z ds)) ?_
  intro p e s m below meth c s₁ hx hby hml hown hnm hret hlk hZ X0 e0
  have hown : s.vm.findClass "java/util/Arrays" = some m.cls := hown
  have hnm : meth.name = "copyOfRangeByte" := hnm
  have hml : c.maxLocals = 5 := hml
  have dk : ∀ {i : Nat} {r : Except DecodeError (Instr × Nat)}, decode jdk_65_method_133_code i = r → decode c.code i = r := fun h => hb hby h
  have N0 := Fr.nil n0
  refine gy (St s₁ m 2 #[vr t1, vi 0, .val (.int (own_z ds)), .unset, .unset] [(.int (own_z ds)), (.int 0)]) (fun _ k => XS.iloadN X0.here hx rfl (dk d35_0) rfl (XS.iloadN X0.here hx rfl (dk d35_1) rfl k)) ?_
  obtain ⟨_, _, ⟨T133, L133, k133, n133⟩, -, X133, ⟨Lc133, hQ133, l133, y133, z133⟩, st133⟩ := Jvm.LawKit.callS X0 hx (y := Y37) hown (mvT hZ (wd hw 173 rfl)) (mvT hZ (wd hw 174 rfl)) (mvT hZ (wd hw 168 rfl)) (mvT hZ (wd hw 175 rfl)) (by decide) (backOf (W := 0) (rm_chk l Z a0 hw [] (own_z ds) h0 n0 Z0 (own_z0 (own_s4 hsh))) hZ (wd hw 175 rfl) (wd hw 168 rfl) (by decide) (by decide)) (g := (mkF m 2 #[vr t1, vi 0, .val (.int (own_z ds)), .unset, .unset] [(.int (own_z ds)), (.int 0)])) rfl (by rw [hml]; rfl) (argsL := [(.int 0), (.int (own_z ds))]) (rest := []) (lenOf pd_16 rfl) rfl (by show 2 * 0 + _ ≤ _; exact Nat.le_of_eq rfl) (dk d35_2) (fun _ _ => ⟨rfl, e0, Nat.le_of_ble_eq_true rfl, Nat.le_of_ble_eq_true rfl⟩)
  dsimp only [Pt.U, Pt.locs, Pt.cells, Pt.slots] at X133 l133 y133 z133 st133 hQ133
  subst l133 y133 z133
  obtain ⟨rfl, Nq133, hh133⟩ := hQ133
  have N133 := Fr.app N0 Nq133
  have X133 : Stand p l e _ _ m _ below meth c T133 _ 0 0 := X133
  refine gy (St T133 m 5 #[vr t1, vi 0, .val (.int (own_z ds)), .unset, .unset] []) (fun _ k => st133 _ k) ?_
  refine gy (St T133 m 8 #[vr t1, vi 0, .val (.int (own_z ds)), .unset, .unset] [(.int ((own_z ds) - (0 : Int32)))]) (fun _ k => XS.iloadN X133.here hx rfl (dk d35_5) rfl (XS.iloadN X133.here hx rfl (dk d35_6) rfl (XS.isub X133.here hx rfl (dk d35_7) rfl k))) ?_
  have hs134 := own_sub0 (own_z ds)
  refine gy (St T133 m 10 #[vr t1, vi 0, .val (.int (own_z ds)), .val (.int (own_z ds)), .unset] [(.int (own_z ds))]) (fun _ k => XS.istoreN (x := (own_z ds)) (rest := []) X133.here hx rfl (dk d35_8) (by rw [hs134]) (l' := #[vr t1, vi 0, .val (.int (own_z ds)), .val (.int (own_z ds)), .unset]) rfl (XS.iloadN X133.here hx rfl (dk d35_9) rfl k)) ?_
  obtain ⟨T135, h135, k135, X135, e135, E135, A135, st135⟩ := newP X133 hx hZ (wd hw 21 rfl) hh133 (g := (mkF m 10 #[vr t1, vi 0, .val (.int (own_z ds)), .val (.int (own_z ds)), .unset] [(.int (own_z ds))])) rfl (dk d35_10) rfl (own_z0 (own_s4 hsh)) (cap := 16) (own_s16 hsh) (by decide) (by decide) (by decide)
  obtain ⟨b135, g135⟩ : ∃ z, z = h0.size := ⟨_, rfl⟩
  rw [← g135] at A135 st135
  have sz_b135 : h0.size ≤ b135 := Nat.le_of_eq g135.symm
  have V135 : Arv Z h135 b135 k135 .byte (own_z ds) (own_vs own_nil) (.int 0) := Arv.new A135 (own_z0 (own_s4 hsh))
  have O136 := pr0.ext E135
  have Z136 : n0 ≤ h135.size := Nat.le_trans Z0 E135.1
  refine gy (St T135 m 12 #[vr t1, vi 0, .val (.int (own_z ds)), .val (.int (own_z ds)), .unset] [(.ref b135)]) st135 ?_
  refine gy (St T135 m 20 #[vr t1, vi 0, .val (.int (own_z ds)), .val (.int (own_z ds)), vr b135] [(.ref t1), (.int 0), (.ref b135), (.int 0), (.ref t1)]) (fun _ k => XS.astore X135.here hx rfl (dk d35_12) rfl rfl (l' := #[vr t1, vi 0, .val (.int (own_z ds)), .val (.int (own_z ds)), vr b135]) rfl (XS.aloadN X135.here hx rfl (dk d35_14) rfl rfl (XS.iloadN X135.here hx rfl (dk d35_15) rfl (XS.aload X135.here hx rfl (dk d35_16) rfl rfl (XS.iconst X135.here hx rfl (dk d35_18) (XS.aloadN X135.here hx rfl (dk d35_19) rfl rfl k)))))) ?_
  obtain ⟨cl137, Ar137, q137, S137, N_137, Hs137, G137⟩ := id (pr1.ext E135)
  refine gy (St T135 m 21 #[vr t1, vi 0, .val (.int (own_z ds)), .val (.int (own_z ds)), vr b135] [(.int 16), (.int 0), (.ref b135), (.int 0), (.ref t1)]) (fun _ k => X135.arraylength hx (by rw [e135]; exact Ar137.1) (State.isArrayOf_alike hZ.alike Ar137.2.1) (g := (mkF m 20 #[vr t1, vi 0, .val (.int (own_z ds)), .val (.int (own_z ds)), vr b135] [(.ref t1), (.int 0), (.ref b135), (.int 0), (.ref t1)])) rfl rfl (dk d35_20) _ (by rw [len_of S137 N_137]; exact k)) ?_
  refine gy (St T135 m 24 #[vr t1, vi 0, .val (.int (own_z ds)), .val (.int (own_z ds)), vr b135] [(.int (own_z ds)), (.int 16), (.int 0), (.ref b135), (.int 0), (.ref t1)]) (fun _ k => XS.iloadN X135.here hx rfl (dk d35_21) rfl (XS.isub X135.here hx rfl (dk d35_22) rfl (XS.iloadN X135.here hx rfl (dk d35_23) rfl k))) ?_
  obtain ⟨_, _, ⟨T138, L138, k138, n138⟩, -, X138, ⟨Lc138, hQ138, l138, y138, z138⟩, st138⟩ := Jvm.LawKit.callS X135 hx (y := Y16) hown (mvT hZ (wd hw 176 rfl)) (mvT hZ (wd hw 177 rfl)) (mvT hZ (wd hw 178 rfl)) (mvT hZ (wd hw 179 rfl)) (by decide) (backOf (W := 4) (rm_min l Z a0 hw [] (own_z ds) h135 n0 Z136 (own_zlt hsh)) hZ (wd hw 179 rfl) (wd hw 178 rfl) (by decide) (by decide)) (g := (mkF m 24 #[vr t1, vi 0, .val (.int (own_z ds)), .val (.int (own_z ds)), vr b135] [(.int (own_z ds)), (.int 16), (.int 0), (.ref b135), (.int 0), (.ref t1)])) rfl (by rw [hml]; rfl) (argsL := [(.int 16), (.int (own_z ds))]) (rest := [(.int 0), (.ref b135), (.int 0), (.ref t1)]) (lenOf pd_17 rfl) rfl (by show 2 * 0 + _ ≤ _; exact Nat.le_of_eq rfl) (dk d35_24) (fun _ _ => ⟨rfl, e135, Nat.le_of_ble_eq_true rfl, Nat.le_of_ble_eq_true rfl⟩)
  dsimp only [Pt.U, Pt.locs, Pt.cells, Pt.slots] at X138 l138 y138 z138 st138 hQ138
  subst l138 y138 z138
  obtain ⟨rfl, Nq138, hh138⟩ := hQ138
  have N138 := Fr.app N133 Nq138
  have X138 : Stand p l e _ _ m _ below meth c T138 _ 1 16 := X138
  refine gy (St T138 m 27 #[vr t1, vi 0, .val (.int (own_z ds)), .val (.int (own_z ds)), vr b135] [(.int (own_z ds)), (.int 0), (.ref b135), (.int 0), (.ref t1)]) (fun _ k => st138 _ k) ?_
  obtain ⟨T139, h139, L139, X139, e139, N139, K139, V139, st139⟩ := own_cpy X138 hx hZ hown (wd hw 180 rfl) (wd hw 124 rfl) (wd hw 122 rfl) (wd hw 123 rfl) hh138 (pr1.ext E135) V135 own_znil rfl (own_fs hsh) (own_416 hsh) (own_5n hsh) N138 (Nat.le_trans Z0 sz_b135) (g := (mkF m 27 #[vr t1, vi 0, .val (.int (own_z ds)), .val (.int (own_z ds)), vr b135] [(.int (own_z ds)), (.int 0), (.ref b135), (.int 0), (.ref t1)])) rfl (by rw [hml]; rfl) rfl (dk d35_27) (by decide) (W := 0) (by show 2 * 0 + _ ≤ _; exact Nat.le_of_eq rfl) (by decide)
  have O140 := O136.keep K139 (allS (Nat.le_trans Z0 sz_b135) all0)
  have Z140 : n0 ≤ h139.size := Nat.le_trans Z136 K139.1
  have V139 : Arv Z h139 b135 k135 .byte (own_z ds) (own_vs ds) (.int 0) := V139
  refine gy (St T139 m 30 #[vr t1, vi 0, .val (.int (own_z ds)), .val (.int (own_z ds)), vr b135] []) st139 ?_
  refine gy (St T139 m 32 #[vr t1, vi 0, .val (.int (own_z ds)), .val (.int (own_z ds)), vr b135] [(.ref b135)]) (fun _ k => XS.aload X139.here hx rfl (dk d35_30) rfl rfl k) ?_
  refine Go.ret X139 hx hlk (t := (.array .byte)) hret rfl (Or.inr (Or.inr (Or.inr (Or.inr ⟨rfl, rfl, rfl⟩)))) (dk d35_32) (by decide) (by decide) ?_
  rw [e139]
  exact ⟨b135, k135, rfl, N139, (((Keep.refl h0 []).ext E135).trans K139 (allS (Or.inr (Nat.le_trans (Nat.le_refl _) sz_b135)) all0)), V139, (Nat.le_trans (Nat.le_refl _) sz_b135)⟩
theorem ef_rm_cpr (m : MethodId) (x0 : Addr) (x2 : Int32) : entryFrame m #[(.ref x0), (.int 0), (.int x2)] 3 = mkF m 0 #[vr x0, vi 0, vi x2] [] := by first | (simp [entryFrame, mkF, argsToLocals, Value.category]; done) | rfl
theorem d34_0 : decode jdk_65_method_132_code 0 = .ok (.iload_n 1, 1) := by decide +kernel
theorem d34_1 : decode jdk_65_method_132_code 1 = .ok (.ifCond .ne 9, 3) := by decide +kernel
theorem d34_4 : decode jdk_65_method_132_code 4 = .ok (.iload_n 2, 1) := by decide +kernel
theorem d34_5 : decode jdk_65_method_132_code 5 = .ok (.aload_n 0, 1) := by decide +kernel
theorem d34_6 : decode jdk_65_method_132_code 6 = .ok (.arraylength, 1) := by decide +kernel
theorem d34_7 : decode jdk_65_method_132_code 7 = .ok (.if_icmp .eq 10, 3) := by decide +kernel
theorem d34_10 : decode jdk_65_method_132_code 10 = .ok (.aload_n 0, 1) := by decide +kernel
theorem d34_11 : decode jdk_65_method_132_code 11 = .ok (.iload_n 1, 1) := by decide +kernel
theorem d34_12 : decode jdk_65_method_132_code 12 = .ok (.iload_n 2, 1) := by decide +kernel
theorem d34_13 : decode jdk_65_method_132_code 13 = .ok (.invokestatic 339, 3) := by decide +kernel
theorem pd_18 : parseMethodDescriptor "([BII)[B" = some ⟨[(.array .byte), .int, .int], some (.array .byte)⟩ := by decide +kernel
theorem d34_16 : decode jdk_65_method_132_code 16 = .ok (.areturn, 1) := by decide +kernel
def Q_rm_cpr (Z : State) (t1 : Addr) (k1 : ClassId) (ds : List Int32) (h0 : Heap) (n0 : Nat) (vv : Option Value) (h : Heap) (L : List Loc) : Prop := ∃ b : Addr, ∃ k : ClassId, vv = some (.ref b) ∧ Fr n0 L ∧ Keep h0 h [] ∧ Arv Z h b k .byte (own_z ds) (own_vs ds) (.int 0) ∧ h0.size ≤ b
set_option maxRecDepth 65536 in
set_option maxHeartbeats 40000000 in
theorem rm_cpr (l : Launch) (Z : State) (a0 : Array Value) (hw : HW a0 Z) (ws : List Jvm.Cond) (t1 : Addr) (k1 : ClassId) (ds : List Int32) (h0 : Heap) (n0 : Nat) (Z0 : n0 ≤ h0.size) (pr0 : Old Z n0 h0) (pr1 : Arv Z h0 t1 k1 .byte (16 : Int32) (own_vs ds) (.int 0)) (hsh : own_sh ds) :
    Met l Z Y38 jdk_65_method_132_code 3 (some (.array .byte)) ws ({ frames := 2, cells := 1, slots := 16, locals := 34 } : Room) #[(.ref t1), (.int 0), (.int (own_z ds))] h0 (Q_rm_cpr Z t1 k1 ds h0 n0) := by
  refine Met.enter (f0 := fun m => mkF m 0 #[vr t1, vi 0, .val (.int (own_z ds))] []) (plainFor_of_name pn_java_util_Arrays) (fun m => ef_rm_cpr m t1 (own_z ds)) ?_
  intro p e s m below meth c s₁ hx hby hml hown hnm hret hlk hZ X0 e0
  have hown : s.vm.findClass "java/util/Arrays" = some m.cls := hown
  have hnm : meth.name = "copyOfRange" := hnm
  have hml : c.maxLocals = 3 := hml
  have dk : ∀ {i : Nat} {r : Except DecodeError (Instr × Nat)}, decode jdk_65_method_132_code i = r → decode c.code i = r := fun h => hb hby h
  have N0 := Fr.nil n0
  refine gy (St s₁ m 6 #[vr t1, vi 0, .val (.int (own_z ds))] [(.ref t1), (.int (own_z ds))]) (fun _ k => XS.iloadN X0.here hx rfl (dk d34_0) rfl (XS.ifNo X0.here hx rfl (dk d34_1) rfl ((if0 _ _).trans (teq (by decide : (0 : Int32) = (0 : Int32))).2) (XS.iloadN X0.here hx rfl (dk d34_4) rfl (XS.aloadN X0.here hx rfl (dk d34_5) rfl rfl k)))) ?_
  obtain ⟨cl141, Ar141, q141, S141, N_141, Hs141, G141⟩ := id pr1
  refine gy (St s₁ m 7 #[vr t1, vi 0, .val (.int (own_z ds))] [(.int 16), (.int (own_z ds))]) (fun _ k => X0.arraylength hx (by rw [e0]; exact Ar141.1) (State.isArrayOf_alike hZ.alike Ar141.2.1) (g := (mkF m 6 #[vr t1, vi 0, .val (.int (own_z ds))] [(.ref t1), (.int (own_z ds))])) rfl rfl (dk d34_6) _ (by rw [len_of S141 N_141]; exact k)) ?_
  refine gy (St s₁ m 13 #[vr t1, vi 0, .val (.int (own_z ds))] [(.int (own_z ds)), (.int 0), (.ref t1)]) (fun _ k => XS.icmpNo X0.here hx rfl (dk d34_7) rfl (feq (own_ne16 hsh)).1 (XS.aloadN X0.here hx rfl (dk d34_10) rfl rfl (XS.iloadN X0.here hx rfl (dk d34_11) rfl (XS.iloadN X0.here hx rfl (dk d34_12) rfl k)))) ?_
  obtain ⟨_, _, ⟨T142, L142, k142, n142⟩, -, X142, ⟨Lc142, hQ142, l142, y142, z142⟩, st142⟩ := Jvm.LawKit.callS X0 hx (y := Y39) hown (mvT hZ (wd hw 170 rfl)) (mvT hZ (wd hw 171 rfl)) (mvT hZ (wd hw 168 rfl)) (mvT hZ (wd hw 172 rfl)) (by decide) (backOf (W := 0) (rm_cprb l Z a0 hw [] t1 k1 ds h0 n0 Z0 pr0 pr1 hsh) hZ (wd hw 172 rfl) (wd hw 168 rfl) (by decide) (by decide)) (g := (mkF m 13 #[vr t1, vi 0, .val (.int (own_z ds))] [(.int (own_z ds)), (.int 0), (.ref t1)])) rfl (by rw [hml]; rfl) (argsL := [(.ref t1), (.int 0), (.int (own_z ds))]) (rest := []) (lenOf pd_18 rfl) rfl (by show 2 * 0 + _ ≤ _; exact Nat.le_of_eq rfl) (dk d34_13) (fun _ _ => ⟨rfl, e0, Nat.le_of_ble_eq_true rfl, Nat.le_of_ble_eq_true rfl⟩)
  dsimp only [Pt.U, Pt.locs, Pt.cells, Pt.slots] at X142 l142 y142 z142 st142 hQ142
  subst l142 y142 z142
  obtain ⟨b142, k142, rfl, Nq142, K142, p142_0, p142_1⟩ := hQ142
  have N142 := Fr.app N0 Nq142
  have X142 : Stand p l e _ _ m _ below meth c T142 _ 1 16 := X142
  have O143 := pr0.keep K142 all0
  have Z143 : n0 ≤ T142.heap.size := Nat.le_trans Z0 K142.1
  have sz_b142 : h0.size ≤ b142 := p142_1
  refine gy (St T142 m 16 #[vr t1, vi 0, .val (.int (own_z ds))] [(.ref b142)]) (fun _ k => st142 _ k) ?_
  refine Go.ret X142 hx hlk (t := (.array .byte)) hret rfl (Or.inr (Or.inr (Or.inr (Or.inr ⟨rfl, rfl, rfl⟩)))) (dk d34_16) (by decide) (by decide) ?_
  exact ⟨b142, k142, rfl, N142, ((Keep.refl h0 []).trans K142 all0), p142_0, (Nat.le_trans (Nat.le_refl _) sz_b142)⟩
theorem ef_rm_sAB (m : MethodId) (x0 : Addr) (x1 : Addr) : entryFrame m #[(.ref x0), (.ref x1), .null] 5 = mkF m 0 #[vr x0, vr x1, .val .null, .unset, .unset] [] := by first | (simp [entryFrame, mkF, argsToLocals, Value.category]; done) | rfl
theorem d30_0 : decode jdk_42_method_150_code 0 = .ok (.aload_n 0, 1) := by decide +kernel
theorem d30_1 : decode jdk_42_method_150_code 1 = .ok (.invokespecial 1, 3) := by decide +kernel
theorem d30_4 : decode jdk_42_method_150_code 4 = .ok (.aload_n 1, 1) := by decide +kernel
theorem d30_5 : decode jdk_42_method_150_code 5 = .ok (.invokevirtual 552, 3) := by decide +kernel
theorem pd_19 : parseMethodDescriptor "()[B" = some ⟨[], some (.array .byte)⟩ := by decide +kernel
theorem d30_8 : decode jdk_42_method_150_code 8 = .ok (.astore_n 3, 1) := by decide +kernel
theorem d30_9 : decode jdk_42_method_150_code 9 = .ok (.aload_n 1, 1) := by decide +kernel
theorem d30_10 : decode jdk_42_method_150_code 10 = .ok (.invokevirtual 549, 3) := by decide +kernel
theorem d30_13 : decode jdk_42_method_150_code 13 = .ok (.istore 4, 2) := by decide +kernel
theorem d30_15 : decode jdk_42_method_150_code 15 = .ok (.aload_n 1, 1) := by decide +kernel
theorem d30_16 : decode jdk_42_method_150_code 16 = .ok (.invokevirtual 1047, 3) := by decide +kernel
theorem d30_19 : decode jdk_42_method_150_code 19 = .ok (.ifCond .eq 22, 3) := by decide +kernel
theorem d30_22 : decode jdk_42_method_150_code 22 = .ok (.aload_n 0, 1) := by decide +kernel
theorem d30_23 : decode jdk_42_method_150_code 23 = .ok (.iconst 0, 1) := by decide +kernel
theorem d30_24 : decode jdk_42_method_150_code 24 = .ok (.putfield 15, 3) := by decide +kernel
theorem d30_27 : decode jdk_42_method_150_code 27 = .ok (.aload_n 0, 1) := by decide +kernel
theorem d30_28 : decode jdk_42_method_150_code 28 = .ok (.aload_n 3, 1) := by decide +kernel
theorem d30_29 : decode jdk_42_method_150_code 29 = .ok (.iconst 0, 1) := by decide +kernel
theorem d30_30 : decode jdk_42_method_150_code 30 = .ok (.iload 4, 2) := by decide +kernel
theorem d30_32 : decode jdk_42_method_150_code 32 = .ok (.invokestatic 54, 3) := by decide +kernel
theorem d30_35 : decode jdk_42_method_150_code 35 = .ok (.putfield 9, 3) := by decide +kernel
theorem d30_38 : decode jdk_42_method_150_code 38 = .ok (.goto 59, 3) := by decide +kernel
theorem d30_97 : decode jdk_42_method_150_code 97 = .ok (.return_, 1) := by decide +kernel
def Q_rm_sAB (Z : State) (s1 : Addr) (a1 : Addr) (t1 : Addr) (k1 : ClassId) (ds : List Int32) (cs : Int32) (h0 : Heap) (n0 : Nat) (vv : Option Value) (h : Heap) (L : List Loc) : Prop := ∃ t : Addr, ∃ k : ClassId, vv = none ∧ Fr n0 L ∧ Keep h0 h [s1] ∧ Exa Z h s1 "java/lang/String" ∧ Fld Z h s1 "java/lang/String" "value" "[B" (.ref t) ∧ Fld Z h s1 "java/lang/String" "coder" "B" (.int 0) ∧ Arv Z h t k .byte (own_z ds) (own_vs ds) (.int 0) ∧ h0.size ≤ t
set_option maxRecDepth 65536 in
set_option maxHeartbeats 40000000 in
theorem rm_sAB (l : Launch) (Z : State) (a0 : Array Value) (hw : HW a0 Z) (ws : List Jvm.Cond) (s1 : Addr) (a1 : Addr) (t1 : Addr) (k1 : ClassId) (ds : List Int32) (cs : Int32) (h0 : Heap) (n0 : Nat) (Z0 : n0 ≤ h0.size) (pr0 : Old Z n0 h0) (pr1 : Sta Z Z.heap "java/lang/String" "COMPACT_STRINGS" "Z" (.int cs)) (hcs : ¬ (cs = (0 : Int32))) (pr3 : Exa Z h0 s1 "java/lang/String") (pr4 : Fld Z h0 s1 "java/lang/String" "value" "[B" .null) (pr5 : Fld Z h0 s1 "java/lang/String" "coder" "B" (.int 0)) (pr6 : n0 ≤ s1) (pr7 : Exa Z h0 a1 "java/lang/StringBuilder") (pr8 : Fld Z h0 a1 "java/lang/AbstractStringBuilder" "value" "[B" (.ref t1)) (pr9 : Fld Z h0 a1 "java/lang/AbstractStringBuilder" "coder" "B" (.int 0)) (pr10 : Fld Z h0 a1 "java/lang/AbstractStringBuilder" "count" "I" (.int (own_z ds))) (pr11 : Arv Z h0 t1 k1 .byte (16 : Int32) (own_vs ds) (.int 0)) (hsh : own_sh ds) :
    Met l Z Y17 jdk_42_method_150_code 5 none ws ({ frames := 3, cells := 1, slots := 16, locals := 49 } : Room) #[(.ref s1), (.ref a1), .null] h0 (Q_rm_sAB Z s1 a1 t1 k1 ds cs h0 n0) := by
  refine Met.enter (f0 := fun m => mkF m 0 #[vr s1, vr a1, .val .null, .unset, .unset] []) (plainFor_of_name pn_java_lang_String) (fun m => ef_rm_sAB m s1 a1) ?_
  intro p e s m below meth c s₁ hx hby hml hown hnm hret hlk hZ X0 e0
  have hown : s.vm.findClass "java/lang/String" = some m.cls := hown
  have hnm : meth.name = "<init>" := hnm
  have hml : c.maxLocals = 5 := hml
  have dk : ∀ {i : Nat} {r : Except DecodeError (Instr × Nat)}, decode jdk_42_method_150_code i = r → decode c.code i = r := fun h => hb hby h
  have N0 := Fr.nil n0
  refine gy (St s₁ m 1 #[vr s1, vr a1, .val .null, .unset, .unset] [(.ref s1)]) (fun _ k => XS.aloadN X0.here hx rfl (dk d30_0) rfl rfl k) ?_
  obtain ⟨T144, X144, e144, st144⟩ := initO X0 hx hZ hown (wd hw 26 rfl) (wd hw 27 rfl) (wd hw 28 rfl) e0 (g := (mkF m 1 #[vr s1, vr a1, .val .null, .unset, .unset] [(.ref s1)])) rfl (by rw [hml]; rfl) rfl (dk d30_1) (by decide) (W := 0) (by show 2 * 0 + _ ≤ _; exact Nat.le_of_eq rfl) (by decide)
  refine gy (St T144 m 4 #[vr s1, vr a1, .val .null, .unset, .unset] []) st144 ?_
  refine gy (St T144 m 5 #[vr s1, vr a1, .val .null, .unset, .unset] [(.ref a1)]) (fun _ k => XS.aloadN X144.here hx rfl (dk d30_4) rfl rfl k) ?_
  obtain ⟨cq145, kq145, q145a, q145b, q145c⟩ := isOf hZ e144 pr7
  obtain ⟨_, _, ⟨T145, L145, k145, n145⟩, -, X145, ⟨Lc145, hQ145, l145, y145, z145⟩, st145⟩ := X144.virtualBack hx (y := Y11) (z := Y11) hown (mvT hZ (wd hw 152 rfl)) (mvT hZ (wd hw 153 rfl)) (notFace_of_selects (args := #[]) (mvT hZ (wd hw 155 rfl))) (mvT hZ (wd hw 155 rfl)) (mvT hZ (wd hw 154 rfl)) (by decide) (backOf (W := 0) (rm_getV l Z a0 hw [] a1 t1 h0 n0 Z0 pr8) hZ (wd hw 156 rfl) (wd hw 70 rfl) (by decide) (by decide)) q145a q145c (g := (mkF m 5 #[vr s1, vr a1, .val .null, .unset, .unset] [(.ref a1)])) rfl (by rw [hml]; rfl) (Steps.refl _) (argsL := []) (rest := []) (lenOf pd_19 rfl) rfl (by show 2 * 0 + _ ≤ _; exact Nat.le_of_eq rfl) (dk d30_5) (fun _ _ => ⟨rfl, e144, Nat.le_of_ble_eq_true rfl, Nat.le_of_ble_eq_true rfl⟩)
  dsimp only [Pt.U, Pt.locs, Pt.cells, Pt.slots] at X145 l145 y145 z145 st145 hQ145
  subst l145 y145 z145
  obtain ⟨rfl, Nq145, hh145⟩ := hQ145
  have N145 := Fr.app N0 Nq145
  have X145 : Stand p l e _ _ m _ below meth c T145 _ 0 0 := X145
  refine gy (St T145 m 8 #[vr s1, vr a1, .val .null, .unset, .unset] [(.ref t1)]) (fun _ k => st145.trans k) ?_
  refine gy (St T145 m 10 #[vr s1, vr a1, .val .null, vr t1, .unset] [(.ref a1)]) (fun _ k => XS.astoreN X145.here hx rfl (dk d30_8) rfl rfl (l' := #[vr s1, vr a1, .val .null, vr t1, .unset]) rfl (XS.aloadN X145.here hx rfl (dk d30_9) rfl rfl k)) ?_
  obtain ⟨cq146, kq146, q146a, q146b, q146c⟩ := isOf hZ hh145 pr7
  obtain ⟨_, _, ⟨T146, L146, k146, n146⟩, -, X146, ⟨Lc146, hQ146, l146, y146, z146⟩, st146⟩ := X145.virtualBack hx (y := Y14) (z := Y30) hown (mvT hZ (wd hw 157 rfl)) (mvT hZ (wd hw 158 rfl)) (own_nf (args := #[]) (y := Y14) (mvT hZ (wd hw 103 rfl)) rfl) (mvT hZ (wd hw 160 rfl)) (mvT hZ (wd hw 161 rfl)) (by decide) (backOf (W := 0) (rm_sblen l Z a0 hw [] a1 (own_z ds) h0 n0 Z0 pr7 pr10) hZ (wd hw 162 rfl) (wd hw 62 rfl) (by decide) (by decide)) q146a q146c (g := (mkF m 10 #[vr s1, vr a1, .val .null, vr t1, .unset] [(.ref a1)])) rfl (by rw [hml]; rfl) (Steps.refl _) (argsL := []) (rest := []) (lenOf pd_11 rfl) rfl (by show 2 * 0 + _ ≤ _; exact Nat.le_of_eq rfl) (dk d30_10) (fun _ _ => ⟨rfl, hh145, Nat.le_of_ble_eq_true rfl, Nat.le_of_ble_eq_true rfl⟩)
  dsimp only [Pt.U, Pt.locs, Pt.cells, Pt.slots] at X146 l146 y146 z146 st146 hQ146
  subst l146 y146 z146
  obtain ⟨rfl, Nq146, hh146⟩ := hQ146
  have N146 := Fr.app N145 Nq146
  have X146 : Stand p l e _ _ m _ below meth c T146 _ 0 0 := X146
  refine gy (St T146 m 13 #[vr s1, vr a1, .val .null, vr t1, .unset] [(.int (own_z ds))]) (fun _ k => st146.trans k) ?_
  refine gy (St T146 m 16 #[vr s1, vr a1, .val .null, vr t1, .val (.int (own_z ds))] [(.ref a1)]) (fun _ k => XS.istore X146.here hx rfl (dk d30_13) rfl (l' := #[vr s1, vr a1, .val .null, vr t1, .val (.int (own_z ds))]) rfl (XS.aloadN X146.here hx rfl (dk d30_15) rfl rfl k)) ?_
  obtain ⟨cq147, kq147, q147a, q147b, q147c⟩ := isOf hZ hh146 pr7
  obtain ⟨_, _, ⟨T147, L147, k147, n147⟩, -, X147, ⟨Lc147, hQ147, l147, y147, z147⟩, st147⟩ := X146.virtualBack hx (y := Y13) (z := Y13) hown (mvT hZ (wd hw 165 rfl)) (mvT hZ (wd hw 135 rfl)) (notFace_of_selects (args := #[]) (mvT hZ (wd hw 137 rfl))) (mvT hZ (wd hw 137 rfl)) (mvT hZ (wd hw 136 rfl)) (by decide) (backOf (W := 0) (rm_isL1 l Z a0 hw [] a1 cs h0 n0 Z0 pr0 pr1 hcs pr9) hZ (wd hw 138 rfl) (wd hw 70 rfl) (by decide) (by decide)) q147a q147c (g := (mkF m 16 #[vr s1, vr a1, .val .null, vr t1, .val (.int (own_z ds))] [(.ref a1)])) rfl (by rw [hml]; rfl) (Steps.refl _) (argsL := []) (rest := []) (lenOf pd_14 rfl) rfl (by show 2 * 0 + _ ≤ _; exact Nat.le_of_eq rfl) (dk d30_16) (fun _ _ => ⟨rfl, hh146, Nat.le_of_ble_eq_true rfl, Nat.le_of_ble_eq_true rfl⟩)
  dsimp only [Pt.U, Pt.locs, Pt.cells, Pt.slots] at X147 l147 y147 z147 st147 hQ147
  subst l147 y147 z147
  obtain ⟨rfl, Nq147, hh147⟩ := hQ147
  have N147 := Fr.app N146 Nq147
  have X147 : Stand p l e _ _ m _ below meth c T147 _ 0 0 := X147
  refine gy (St T147 m 19 #[vr s1, vr a1, .val .null, vr t1, .val (.int (own_z ds))] [(.int 1)]) (fun _ k => st147.trans k) ?_
  refine gy (St T147 m 24 #[vr s1, vr a1, .val .null, vr t1, .val (.int (own_z ds))] [(.int 0), (.ref s1)]) (fun _ k => XS.ifNo X147.here hx rfl (dk d30_19) rfl ((if0 _ _).trans (feq (by decide : ¬ ((1 : Int32) = (0 : Int32)))).1) (XS.aloadN X147.here hx rfl (dk d30_22) rfl rfl (XS.iconst X147.here hx rfl (dk d30_23) k))) ?_
  obtain ⟨T148, h148, X148, e148, W148, st148⟩ := putFN X147 hx hZ hown (wd hw 31 rfl) Via.refl hh147 pr5 pr3 (Or.inr ⟨(wd hw 32 rfl), rfl, hnm⟩) (wd hw 17 rfl) (ty := .byte) (v' := (.int 0)) (by decide) rfl rfl (g := (mkF m 24 #[vr s1, vr a1, .val .null, vr t1, .val (.int (own_z ds))] [(.int 0), (.ref s1)])) rfl rfl (dk d30_24)
  have N148 := Fr.snoc X148 N147 pr6
  have O149 := pr0.wr W148 pr6
  have Z149 : n0 ≤ h148.size := Nat.le_trans Z0 (Keep.of_wr W148).1
  have F148 := pr5.same W148
  refine gy (St T148 m 27 #[vr s1, vr a1, .val .null, vr t1, .val (.int (own_z ds))] []) st148 ?_
  refine gy (St T148 m 32 #[vr s1, vr a1, .val .null, vr t1, .val (.int (own_z ds))] [(.int (own_z ds)), (.int 0), (.ref t1), (.ref s1)]) (fun _ k => XS.aloadN X148.here hx rfl (dk d30_27) rfl rfl (XS.aloadN X148.here hx rfl (dk d30_28) rfl rfl (XS.iconst X148.here hx rfl (dk d30_29) (XS.iload X148.here hx rfl (dk d30_30) rfl k)))) ?_
  have f150 := (pr11.other W148 (Ne.symm (Exa.neArv pr3 pr11 (wd hw 17 rfl))))
  obtain ⟨_, _, ⟨T151, L151, k151, n151⟩, -, X151, ⟨Lc151, hQ151, l151, y151, z151⟩, st151⟩ := Jvm.LawKit.callS X148 hx (y := Y38) hown (mvT hZ (wd hw 166 rfl)) (mvT hZ (wd hw 167 rfl)) (mvT hZ (wd hw 168 rfl)) (mvT hZ (wd hw 169 rfl)) (by decide) (backOf (W := 1) (rm_cpr l Z a0 hw [] t1 k1 ds h148 n0 Z149 O149 f150 hsh) hZ (wd hw 169 rfl) (wd hw 168 rfl) (by decide) (by decide)) (g := (mkF m 32 #[vr s1, vr a1, .val .null, vr t1, .val (.int (own_z ds))] [(.int (own_z ds)), (.int 0), (.ref t1), (.ref s1)])) rfl (by rw [hml]; rfl) (argsL := [(.ref t1), (.int 0), (.int (own_z ds))]) (rest := [(.ref s1)]) (lenOf pd_18 rfl) rfl (by show 2 * 0 + _ ≤ _; exact Nat.le_of_eq rfl) (dk d30_32) (fun _ _ => ⟨rfl, e148, Nat.le_of_ble_eq_true rfl, Nat.le_of_ble_eq_true rfl⟩)
  dsimp only [Pt.U, Pt.locs, Pt.cells, Pt.slots] at X151 l151 y151 z151 st151 hQ151
  subst l151 y151 z151
  obtain ⟨b151, k151, rfl, Nq151, K151, p151_0, p151_1⟩ := hQ151
  have N151 := Fr.app N148 Nq151
  have X151 : Stand p l e _ _ m _ below meth c T151 _ 1 16 := X151
  have O152 := O149.keep K151 all0
  have Z152 : n0 ≤ T151.heap.size := Nat.le_trans Z149 K151.1
  have sz_b151 : h148.size ≤ b151 := p151_1
  refine gy (St T151 m 35 #[vr s1, vr a1, .val .null, vr t1, .val (.int (own_z ds))] [(.ref b151), (.ref s1)]) (fun _ k => st151 _ k) ?_
  have f153 := ((pr4.other W148 (Or.inr (slot_ne (Or.inr (wd hw 30 rfl)) (Or.inr (wd hw 32 rfl)) (by decide) (t := (.array .byte)) (t' := .byte) (by decide) (by decide)))).keep K151 nin0)
  obtain ⟨T154, h154, X154, e154, W154, st154⟩ := putF X151 hx hZ hown (host := "") (Or.inl (wd hw 29 rfl)) Via.refl rfl f153 ((pr3.wr W148).keep K151) (Or.inr ⟨(wd hw 30 rfl), rfl, hnm⟩) (wd hw 17 rfl) (ty := (.array .byte)) (by decide) rfl rfl (g := (mkF m 35 #[vr s1, vr a1, .val .null, vr t1, .val (.int (own_z ds))] [(.ref b151), (.ref s1)])) rfl rfl (dk d30_35)
  have N154 := Fr.snoc X154 N151 pr6
  have O155 := O152.wr W154 pr6
  have Z155 : n0 ≤ h154.size := Nat.le_trans Z152 (Keep.of_wr W154).1
  have F154 := f153.same W154
  refine gy (St T154 m 38 #[vr s1, vr a1, .val .null, vr t1, .val (.int (own_z ds))] []) st154 ?_
  refine gy (St T154 m 97 #[vr s1, vr a1, .val .null, vr t1, .val (.int (own_z ds))] []) (fun _ k => XS.goto X154.here hx rfl (pc0 := 38) (pc' := 97) rfl (dk d30_38) (by decide) (by decide) k) ?_
  refine Go.retV X154 hx hlk hret (dk d30_97) (by decide) (by decide) ?_
  rw [e154]
  exact ⟨b151, k151, rfl, N154, ((((Keep.refl h0 [s1]).wr W148 (Or.inl (List.mem_of_getElem? (i := 0) rfl))).trans K151 all0).wr W154 (Or.inl (List.mem_of_getElem? (i := 0) rfl))), (((pr3.wr W148).keep K151).wr W154), F154, ((F148.keep K151 nin0).other W154 (Or.inr (slot_ne (Or.inr (wd hw 32 rfl)) (Or.inr (wd hw 30 rfl)) (by decide) (t := .byte) (t' := (.array .byte)) (by decide) (by decide)))), (p151_0.other W154 (Ne.symm (Nat.ne_of_lt (Nat.lt_of_lt_of_le (pr3.wr W148).lt sz_b151)))), (Nat.le_trans (Nat.le_trans (Nat.le_refl _) (Keep.of_wr W148).1) sz_b151)⟩
theorem ef_rm_sSB (m : MethodId) (x0 : Addr) (x1 : Addr) : entryFrame m #[(.ref x0), (.ref x1)] 2 = mkF m 0 #[vr x0, vr x1] [] := by first | (simp [entryFrame, mkF, argsToLocals, Value.category]; done) | rfl
theorem d29_0 : decode jdk_42_method_53_code 0 = .ok (.aload_n 0, 1) := by decide +kernel
theorem d29_1 : decode jdk_42_method_53_code 1 = .ok (.aload_n 1, 1) := by decide +kernel
theorem d29_2 : decode jdk_42_method_53_code 2 = .ok (.aconst_null, 1) := by decide +kernel
theorem d29_3 : decode jdk_42_method_53_code 3 = .ok (.invokespecial 489, 3) := by decide +kernel
theorem pd_20 : parseMethodDescriptor "(Ljava/lang/AbstractStringBuilder;Ljava/lang/Void;)V" = some ⟨[(.object "java/lang/AbstractStringBuilder"), (.object "java/lang/Void")], none⟩ := by decide +kernel
theorem d29_6 : decode jdk_42_method_53_code 6 = .ok (.return_, 1) := by decide +kernel
def Q_rm_sSB (Z : State) (s1 : Addr) (a1 : Addr) (t1 : Addr) (k1 : ClassId) (ds : List Int32) (cs : Int32) (h0 : Heap) (n0 : Nat) (vv : Option Value) (h : Heap) (L : List Loc) : Prop := ∃ t : Addr, ∃ k : ClassId, vv = none ∧ Fr n0 L ∧ Keep h0 h [s1] ∧ Exa Z h s1 "java/lang/String" ∧ Fld Z h s1 "java/lang/String" "value" "[B" (.ref t) ∧ Fld Z h s1 "java/lang/String" "coder" "B" (.int 0) ∧ Arv Z h t k .byte (own_z ds) (own_vs ds) (.int 0) ∧ h0.size ≤ t
set_option maxRecDepth 65536 in
set_option maxHeartbeats 40000000 in
theorem rm_sSB (l : Launch) (Z : State) (a0 : Array Value) (hw : HW a0 Z) (ws : List Jvm.Cond) (s1 : Addr) (a1 : Addr) (t1 : Addr) (k1 : ClassId) (ds : List Int32) (cs : Int32) (h0 : Heap) (n0 : Nat) (Z0 : n0 ≤ h0.size) (pr0 : Old Z n0 h0) (pr1 : Sta Z Z.heap "java/lang/String" "COMPACT_STRINGS" "Z" (.int cs)) (hcs : ¬ (cs = (0 : Int32))) (pr3 : Exa Z h0 s1 "java/lang/String") (pr4 : Fld Z h0 s1 "java/lang/String" "value" "[B" .null) (pr5 : Fld Z h0 s1 "java/lang/String" "coder" "B" (.int 0)) (pr6 : n0 ≤ s1) (pr7 : Exa Z h0 a1 "java/lang/StringBuilder") (pr8 : Fld Z h0 a1 "java/lang/AbstractStringBuilder" "value" "[B" (.ref t1)) (pr9 : Fld Z h0 a1 "java/lang/AbstractStringBuilder" "coder" "B" (.int 0)) (pr10 : Fld Z h0 a1 "java/lang/AbstractStringBuilder" "count" "I" (.int (own_z ds))) (pr11 : Arv Z h0 t1 k1 .byte (16 : Int32) (own_vs ds) (.int 0)) (hsh : own_sh ds) :
    Met l Z Y18 jdk_42_method_53_code 2 none ws ({ frames := 4, cells := 1, slots := 16, locals := 65 } : Room) #[(.ref s1), (.ref a1)] h0 (Q_rm_sSB Z s1 a1 t1 k1 ds cs h0 n0) := by
  refine Met.enter (f0 := fun m => mkF m 0 #[vr s1, vr a1] []) (plainFor_of_name pn_java_lang_String) (fun m => ef_rm_sSB m s1 a1) ?_
  intro p e s m below meth c s₁ hx hby hml hown hnm hret hlk hZ X0 e0
  have hown : s.vm.findClass "java/lang/String" = some m.cls := hown
  have hnm : meth.name = "<init>" := hnm
  have hml : c.maxLocals = 2 := hml
  have dk : ∀ {i : Nat} {r : Except DecodeError (Instr × Nat)}, decode jdk_42_method_53_code i = r → decode c.code i = r := fun h => hb hby h
  have N0 := Fr.nil n0
  refine gy (St s₁ m 3 #[vr s1, vr a1] [.null, (.ref a1), (.ref s1)]) (fun _ k => XS.aloadN X0.here hx rfl (dk d29_0) rfl rfl (XS.aloadN X0.here hx rfl (dk d29_1) rfl rfl (XS.aconstNull X0.here hx rfl (dk d29_2) k))) ?_
  obtain ⟨_, _, ⟨T156, L156, k156, n156⟩, -, X156, ⟨Lc156, hQ156, l156, y156, z156⟩, st156⟩ := X0.specialBack hx (y := Y17) rfl hown (mvT hZ (wd hw 149 rfl)) (mvT hZ (wd hw 150 rfl)) (mvT hZ (wd hw 151 rfl)) (by decide) (backOf (W := 0) (rm_sAB l Z a0 hw [] s1 a1 t1 k1 ds cs h0 n0 Z0 pr0 pr1 hcs pr3 pr4 pr5 pr6 pr7 pr8 pr9 pr10 pr11 hsh) hZ (wd hw 151 rfl) (wd hw 9 rfl) (by decide) (by decide)) (g := (mkF m 3 #[vr s1, vr a1] [.null, (.ref a1), (.ref s1)])) rfl (by rw [hml]; rfl) (Steps.refl _) (a := s1) (argsL := [(.ref a1), .null]) (rest := []) (lenOf pd_20 rfl) rfl (by show 2 * 0 + _ ≤ _; exact Nat.le_of_eq rfl) (dk d29_3) (fun _ _ => ⟨rfl, e0, Nat.le_of_ble_eq_true rfl, Nat.le_of_ble_eq_true rfl⟩)
  dsimp only [Pt.U, Pt.locs, Pt.cells, Pt.slots] at X156 l156 y156 z156 st156 hQ156
  subst l156 y156 z156
  obtain ⟨t156, k156, rfl, Nq156, K156, p156_0, p156_1, p156_2, p156_3, p156_4⟩ := hQ156
  have N156 := Fr.app N0 Nq156
  have X156 : Stand p l e _ _ m _ below meth c T156 _ 1 16 := X156
  have O157 := pr0.keep K156 (allS pr6 all0)
  have Z157 : n0 ≤ T156.heap.size := Nat.le_trans Z0 K156.1
  have sz_t156 : h0.size ≤ t156 := p156_4
  refine gy (St T156 m 6 #[vr s1, vr a1] []) (fun _ k => st156.trans k) ?_
  refine Go.retV X156 hx hlk hret (dk d29_6) (by decide) (by decide) ?_
  exact ⟨t156, k156, rfl, N156, ((Keep.refl h0 [s1]).trans K156 (allS (Or.inl (List.mem_of_getElem? (i := 0) rfl)) all0)), p156_0, p156_1, p156_2, p156_3, (Nat.le_trans (Nat.le_refl _) sz_t156)⟩
theorem ef_rm_toS (m : MethodId) (x0 : Addr) : entryFrame m #[(.ref x0)] 1 = mkF m 0 #[vr x0] [] := by first | (simp [entryFrame, mkF, argsToLocals, Value.category]; done) | rfl
theorem d28_0 : decode jdk_67_method_42_code 0 = .ok (.new 18, 3) := by decide +kernel
theorem d28_3 : decode jdk_67_method_42_code 3 = .ok (.dup, 1) := by decide +kernel
theorem d28_4 : decode jdk_67_method_42_code 4 = .ok (.aload_n 0, 1) := by decide +kernel
theorem d28_5 : decode jdk_67_method_42_code 5 = .ok (.invokespecial 137, 3) := by decide +kernel
theorem pd_21 : parseMethodDescriptor "(Ljava/lang/StringBuilder;)V" = some ⟨[(.object "java/lang/StringBuilder")], none⟩ := by decide +kernel
theorem d28_8 : decode jdk_67_method_42_code 8 = .ok (.areturn, 1) := by decide +kernel
def Q_rm_toS (Z : State) (a1 : Addr) (t1 : Addr) (k1 : ClassId) (ds : List Int32) (cs : Int32) (h0 : Heap) (n0 : Nat) (vv : Option Value) (h : Heap) (L : List Loc) : Prop := ∃ b : Addr, ∃ t : Addr, ∃ k : ClassId, vv = some (.ref b) ∧ Fr n0 L ∧ Keep h0 h [] ∧ Exa Z h b "java/lang/String" ∧ Fld Z h b "java/lang/String" "value" "[B" (.ref t) ∧ Fld Z h b "java/lang/String" "coder" "B" (.int 0) ∧ Arv Z h t k .byte (own_z ds) (own_vs ds) (.int 0) ∧ h0.size ≤ b ∧ h0.size ≤ t
set_option maxRecDepth 65536 in
set_option maxHeartbeats 40000000 in
theorem rm_toS (l : Launch) (Z : State) (a0 : Array Value) (hw : HW a0 Z) (ws : List Jvm.Cond) (a1 : Addr) (t1 : Addr) (k1 : ClassId) (ds : List Int32) (cs : Int32) (h0 : Heap) (n0 : Nat) (Z0 : n0 ≤ h0.size) (pr0 : Old Z n0 h0) (pr1 : Sta Z Z.heap "java/lang/String" "COMPACT_STRINGS" "Z" (.int cs)) (hcs : ¬ (cs = (0 : Int32))) (pr3 : Exa Z h0 a1 "java/lang/StringBuilder") (pr4 : Fld Z h0 a1 "java/lang/AbstractStringBuilder" "value" "[B" (.ref t1)) (pr5 : Fld Z h0 a1 "java/lang/AbstractStringBuilder" "coder" "B" (.int 0)) (pr6 : Fld Z h0 a1 "java/lang/AbstractStringBuilder" "count" "I" (.int (own_z ds))) (pr7 : Arv Z h0 t1 k1 .byte (16 : Int32) (own_vs ds) (.int 0)) (hsh : own_sh ds) :
    Met l Z Y31 jdk_67_method_42_code 1 (some (.object "java/lang/String")) ws ({ frames := 5, cells := 2, slots := 20, locals := 79 } : Room) #[(.ref a1)] h0 (Q_rm_toS Z a1 t1 k1 ds cs h0 n0) := by
  refine Met.enter (f0 := fun m => mkF m 0 #[vr a1] []) (plainFor_of_name pn_java_lang_StringBuilder) (fun m => ef_rm_toS m a1) ?_
  intro p e s m below meth c s₁ hx hby hml hown hnm hret hlk hZ X0 e0
  have hown : s.vm.findClass "java/lang/StringBuilder" = some m.cls := hown
  have hnm : meth.name = "toString" := hnm
  have hml : c.maxLocals = 1 := hml
  have dk : ∀ {i : Nat} {r : Except DecodeError (Instr × Nat)}, decode jdk_67_method_42_code i = r → decode c.code i = r := fun h => hb hby h
  have N0 := Fr.nil n0
  obtain ⟨T158, h158, X158, e158, E158, A158, D158, -, st158⟩ := newO X0 hx hZ hown (wd hw 145 rfl) (wd hw 17 rfl) (wd hw 9 rfl) e0 (g := (mkF m 0 #[vr a1] [])) rfl (dk d28_0) (by decide) (by decide)
  obtain ⟨b158, g158⟩ : ∃ z, z = h0.size := ⟨_, rfl⟩
  rw [← g158] at A158 D158 st158
  have sz_b158 : h0.size ≤ b158 := Nat.le_of_eq g158.symm
  have O159 := pr0.ext E158
  have Z159 : n0 ≤ h158.size := Nat.le_trans Z0 E158.1
  have F160 : Fld Z h158 b158 "java/lang/String" "value" "[B" .null := D158 (Or.inr (wd hw 30 rfl)) (ty := (.array .byte)) (by decide)
  have F161 : Fld Z h158 b158 "java/lang/String" "coder" "B" (.int 0) := D158 (Or.inr (wd hw 32 rfl)) (ty := .byte) (by decide)
  refine gy (St T158 m 3 #[vr a1] [(.ref b158)]) st158 ?_
  refine gy (St T158 m 5 #[vr a1] [(.ref a1), (.ref b158), (.ref b158)]) (fun _ k => XS.dup X158.here hx rfl (dk d28_3) rfl rfl (XS.aloadN X158.here hx rfl (dk d28_4) rfl rfl k)) ?_
  obtain ⟨_, _, ⟨T162, L162, k162, n162⟩, -, X162, ⟨Lc162, hQ162, l162, y162, z162⟩, st162⟩ := X158.specialBack hx (y := Y18) rfl hown (mvT hZ (wd hw 146 rfl)) (mvT hZ (wd hw 147 rfl)) (mvT hZ (wd hw 148 rfl)) (by decide) (backOf (W := 1) (rm_sSB l Z a0 hw [] b158 a1 t1 k1 ds cs h158 n0 Z159 O159 pr1 hcs A158 F160 F161 (Nat.le_trans Z0 sz_b158) (pr3.ext E158) (pr4.ext E158) (pr5.ext E158) (pr6.ext E158) (pr7.ext E158) hsh) hZ (wd hw 148 rfl) (wd hw 9 rfl) (by decide) (by decide)) (g := (mkF m 5 #[vr a1] [(.ref a1), (.ref b158), (.ref b158)])) rfl (by rw [hml]; rfl) (Steps.refl _) (a := b158) (argsL := [(.ref a1)]) (rest := [(.ref b158)]) (lenOf pd_21 rfl) rfl (by show 2 * 0 + _ ≤ _; exact Nat.le_of_eq rfl) (dk d28_5) (fun _ _ => ⟨rfl, e158, Nat.le_of_ble_eq_true rfl, Nat.le_of_ble_eq_true rfl⟩)
  dsimp only [Pt.U, Pt.locs, Pt.cells, Pt.slots] at X162 l162 y162 z162 st162 hQ162
  subst l162 y162 z162
  obtain ⟨t162, k162, rfl, Nq162, K162, p162_0, p162_1, p162_2, p162_3, p162_4⟩ := hQ162
  have N162 := Fr.app N0 Nq162
  have X162 : Stand p l e _ _ m _ below meth c T162 _ 2 20 := X162
  have O163 := O159.keep K162 (allS (Nat.le_trans Z0 sz_b158) all0)
  have Z163 : n0 ≤ T162.heap.size := Nat.le_trans Z159 K162.1
  have sz_t162 : h158.size ≤ t162 := p162_4
  refine gy (St T162 m 8 #[vr a1] [(.ref b158)]) (fun _ k => st162.trans k) ?_
  refine Go.ret X162 hx hlk (t := (.object "java/lang/String")) hret rfl (Or.inr (Or.inr (Or.inr (Or.inr ⟨rfl, rfl, rfl⟩)))) (dk d28_8) (by decide) (by decide) ?_
  exact ⟨b158, t162, k162, rfl, N162, (((Keep.refl h0 []).ext E158).trans K162 (allS (Or.inr (Nat.le_trans (Nat.le_refl _) sz_b158)) all0)), p162_0, p162_1, p162_2, p162_3, (Nat.le_trans (Nat.le_refl _) sz_b158), (Nat.le_trans (Nat.le_trans (Nat.le_refl _) E158.1) sz_t162)⟩
abbrev own_u (p k : Int32) : Int32 := (p.toUInt32 >>> (k &&& 31).toUInt32).toInt32
def own_nc (p : Int32) : Int32 := if (p &&& (3 : Int32)) = (0 : Int32) then 97 else if (p &&& (3 : Int32)) = (1 : Int32) then 90 else if (p &&& (3 : Int32)) = (2 : Int32) then 55 else 45
def own_ec (p : Int32) : Int32 := if (p &&& (3 : Int32)) = (0 : Int32) then 47 else if (p &&& (3 : Int32)) = (1 : Int32) then 58 else if (p &&& (3 : Int32)) = (2 : Int32) then 97 else 90
def own_nm (p : Int32) : List Int32 := if (p &&& (1 : Int32)) = (0 : Int32) then [own_nc (own_u p 1)] else [own_nc (own_u p 1), own_nc (own_u p 3)]
def own_en (p : Int32) : List Int32 := if ((own_u p 1) &&& (3 : Int32)) % (3 : Int32) = (0 : Int32) then [] else if ((own_u p 1) &&& (3 : Int32)) % (3 : Int32) = (1 : Int32) then [own_ec (own_u p 3)] else [own_ec (own_u p 3), own_ec (own_u p 5)]
theorem own_nc0 {p v : Int32} (h : v = (p &&& (3 : Int32))) (a : v = (0 : Int32)) : (97 : Int32) = own_nc p := by subst h; rw [own_nc, if_pos a]
theorem own_nc1 {p v : Int32} (h : v = (p &&& (3 : Int32))) (a : ¬ v = (0 : Int32)) (b : v = (1 : Int32)) : (90 : Int32) = own_nc p := by subst h; rw [own_nc, if_neg a, if_pos b]
theorem own_nc2 {p v : Int32} (h : v = (p &&& (3 : Int32))) (a : ¬ v = (0 : Int32)) (b : ¬ v = (1 : Int32)) (d : v = (2 : Int32)) : (55 : Int32) = own_nc p := by subst h; rw [own_nc, if_neg a, if_neg b, if_pos d]
theorem own_nc3 {p v : Int32} (h : v = (p &&& (3 : Int32))) (a : ¬ v = (0 : Int32)) (b : ¬ v = (1 : Int32)) (d : ¬ v = (2 : Int32)) : (45 : Int32) = own_nc p := by subst h; rw [own_nc, if_neg a, if_neg b, if_neg d]
theorem own_ec0 {p v : Int32} (h : v = (p &&& (3 : Int32))) (a : v = (0 : Int32)) : (47 : Int32) = own_ec p := by subst h; rw [own_ec, if_pos a]
theorem own_ec1 {p v : Int32} (h : v = (p &&& (3 : Int32))) (a : ¬ v = (0 : Int32)) (b : v = (1 : Int32)) : (58 : Int32) = own_ec p := by subst h; rw [own_ec, if_neg a, if_pos b]
theorem own_ec2 {p v : Int32} (h : v = (p &&& (3 : Int32))) (a : ¬ v = (0 : Int32)) (b : ¬ v = (1 : Int32)) (d : v = (2 : Int32)) : (97 : Int32) = own_ec p := by subst h; rw [own_ec, if_neg a, if_neg b, if_pos d]
theorem own_ec3 {p v : Int32} (h : v = (p &&& (3 : Int32))) (a : ¬ v = (0 : Int32)) (b : ¬ v = (1 : Int32)) (d : ¬ v = (2 : Int32)) : (90 : Int32) = own_ec p := by subst h; rw [own_ec, if_neg a, if_neg b, if_neg d]
theorem own_ncV (p : Int32) : own_nc p = 97 ∨ own_nc p = 90 ∨ own_nc p = 55 ∨ own_nc p = 45 := by
  unfold own_nc
  split
  · exact Or.inl rfl
  · split
    · exact Or.inr (Or.inl rfl)
    · split
      · exact Or.inr (Or.inr (Or.inl rfl))
      · exact Or.inr (Or.inr (Or.inr rfl))
theorem own_ecV (p : Int32) : own_ec p = 47 ∨ own_ec p = 58 ∨ own_ec p = 97 ∨ own_ec p = 90 := by
  unfold own_ec
  split
  · exact Or.inl rfl
  · split
    · exact Or.inr (Or.inl rfl)
    · split
      · exact Or.inr (Or.inr (Or.inl rfl))
      · exact Or.inr (Or.inr (Or.inr rfl))
theorem own_ncL (p : Int32) : ¬ (255 : Int32) < own_nc p := by rcases own_ncV p with h | h | h | h <;> rw [h] <;> decide
theorem own_ecL (p : Int32) : ¬ (255 : Int32) < own_ec p := by rcases own_ecV p with h | h | h | h <;> rw [h] <;> decide
theorem own_ncP (p : Int32) : ¬ own_nc p < 0 := by rcases own_ncV p with h | h | h | h <;> rw [h] <;> decide
theorem own_ecP (p : Int32) : ¬ own_ec p < 0 := by rcases own_ecV p with h | h | h | h <;> rw [h] <;> decide
theorem own_nmM {p x : Int32} (h : x ∈ own_nm p) : ∃ q, x = own_nc q := by
  unfold own_nm at h
  split at h
  · exact ⟨_, List.mem_singleton.mp h⟩
  · rcases List.mem_cons.mp h with h | h
    · exact ⟨_, h⟩
    · exact ⟨_, List.mem_singleton.mp h⟩
theorem own_enM {p x : Int32} (h : x ∈ own_en p) : ∃ q, x = own_ec q := by
  unfold own_en at h
  split at h
  · cases h
  · split at h
    · exact ⟨_, List.mem_singleton.mp h⟩
    · rcases List.mem_cons.mp h with h | h
      · exact ⟨_, h⟩
      · exact ⟨_, List.mem_singleton.mp h⟩
theorem own_nmL (p : Int32) : (own_nm p).length ≤ 2 := by
  unfold own_nm
  split <;> simp
theorem own_enL (p : Int32) : (own_en p).length ≤ 2 := by
  unfold own_en
  split
  · simp
  · split <;> simp
theorem own_nmB {p x : Int32} (h : x ∈ own_nm p) : ¬ x < 0 ∧ ¬ (255 : Int32) < x := by obtain ⟨q, rfl⟩ := own_nmM h; exact ⟨own_ncP q, own_ncL q⟩
theorem own_enB {p x : Int32} (h : x ∈ own_en p) : ¬ x < 0 ∧ ¬ (255 : Int32) < x := by obtain ⟨q, rfl⟩ := own_enM h; exact ⟨own_ecP q, own_ecL q⟩
theorem own_nm_ok (p : Int32) : own_ok (own_nm p) := ⟨fun _ h => own_nmB h, Nat.le_trans (own_nmL p) (by decide)⟩
theorem own_en_ok (p : Int32) : own_ok (own_en p) := ⟨fun _ h => own_enB h, Nat.le_trans (own_enL p) (by decide)⟩
def own_tN (a b : List Int32) : List Int32 := (((own_nil ++ a) ++ [(58 : Int32)]) ++ b)
def own_tS (a b d : List Int32) : List Int32 := (((((own_nil ++ a) ++ [(58 : Int32)]) ++ b) ++ [(47 : Int32)]) ++ d)
theorem own_tNe (a b : List Int32) : own_tN a b = a ++ 58 :: b := by simp [own_tN, own_nil]
theorem own_tSe (a b d : List Int32) : own_tS a b d = a ++ 58 :: (b ++ 47 :: d) := by simp [own_tS, own_nil]
theorem own_lit (k : Int32) (h : k = 58 ∨ k = 47) : ¬ k < 0 ∧ ¬ (255 : Int32) < k := by rcases h with rfl | rfl <;> decide
theorem own_tN_ok (p q : Int32) : own_ok (own_tN (own_nm p) (own_nm q)) := by
  rw [own_tNe]
  refine ⟨fun x h => ?_, ?_⟩
  · rcases List.mem_append.mp h with h | h
    · exact own_nmB h
    · rcases List.mem_cons.mp h with rfl | h
      · exact own_lit _ (Or.inl rfl)
      · exact own_nmB h
  · have := own_nmL p
    have := own_nmL q
    simp only [List.length_append, List.length_cons]
    omega
theorem own_tS_ok (p q r : Int32) : own_ok (own_tS (own_nm p) (own_nm q) (own_en r)) := by
  rw [own_tSe]
  refine ⟨fun x h => ?_, ?_⟩
  · rcases List.mem_append.mp h with h | h
    · exact own_nmB h
    · rcases List.mem_cons.mp h with rfl | h
      · exact own_lit _ (Or.inl rfl)
      · rcases List.mem_append.mp h with h | h
        · exact own_nmB h
        · rcases List.mem_cons.mp h with rfl | h
          · exact own_lit _ (Or.inr rfl)
          · exact own_enB h
  · have := own_nmL p
    have := own_nmL q
    have := own_enL r
    simp only [List.length_append, List.length_cons]
    omega
theorem own_cut {k : Int32} : ∀ {a b r s : List Int32}, k ∉ a → k ∉ b → a ++ k :: r = b ++ k :: s → a = b ∧ r = s
  | [], [], _, _, _, _, h => ⟨rfl, (List.cons.inj h).2⟩
  | [], y :: b, _, _, _, hb, h => absurd (List.mem_cons.mpr (Or.inl (List.cons.inj h).1)) hb
  | x :: a, [], _, _, ha, _, h => absurd (List.mem_cons.mpr (Or.inl (List.cons.inj h).1.symm)) ha
  | x :: a, y :: b, _, _, ha, hb, h => by
    obtain ⟨h1, h2⟩ := List.cons.inj h
    obtain ⟨h3, h4⟩ := own_cut (fun q => ha (List.mem_cons_of_mem _ q)) (fun q => hb (List.mem_cons_of_mem _ q)) h2
    exact ⟨by rw [h1, h3], h4⟩
theorem own_no58 (p : Int32) : (58 : Int32) ∉ own_nm p := fun h => by
  obtain ⟨q, e⟩ := own_nmM h
  rcases own_ncV q with f | f | f | f <;> rw [f] at e <;> revert e <;> decide
theorem own_no47 (p : Int32) : (47 : Int32) ∉ own_nm p := fun h => by
  obtain ⟨q, e⟩ := own_nmM h
  rcases own_ncV q with f | f | f | f <;> rw [f] at e <;> revert e <;> decide
theorem own_NN {a b a' b' : Int32} (h : own_tN (own_nm a) (own_nm b) = own_tN (own_nm a') (own_nm b')) : own_nm a = own_nm a' ∧ own_nm b = own_nm b' := by
  rw [own_tNe, own_tNe] at h
  exact own_cut (own_no58 a) (own_no58 a') h
theorem own_SS {a b d a' b' d' : Int32} (h : own_tS (own_nm a) (own_nm b) (own_en d) = own_tS (own_nm a') (own_nm b') (own_en d')) : own_nm a = own_nm a' ∧ own_nm b = own_nm b' ∧ own_en d = own_en d' := by
  rw [own_tSe, own_tSe] at h
  obtain ⟨h1, h2⟩ := own_cut (own_no58 a) (own_no58 a') h
  exact ⟨h1, own_cut (own_no47 b) (own_no47 b') h2⟩
theorem own_NS {a b a' b' d' : Int32} (h : own_tN (own_nm a) (own_nm b) = own_tS (own_nm a') (own_nm b') (own_en d')) : False := by
  rw [own_tNe, own_tSe] at h
  obtain ⟨-, h2⟩ := own_cut (own_no58 a) (own_no58 a') h
  exact own_no47 b (by rw [h2]; simp)

theorem own_ncn (p : Int32) : nar .char (own_nc p) = own_nc p := by rcases own_ncV p with h | h | h | h <;> rw [h] <;> rfl
theorem own_ecn (p : Int32) : nar .char (own_ec p) = own_ec p := by rcases own_ecV p with h | h | h | h <;> rw [h] <;> rfl
theorem ef_rm_nc (m : MethodId) (x0 : Int32) : entryFrame m #[(.int x0)] 2 = mkF m 0 #[vi x0, .unset] [] := by first | (simp [entryFrame, mkF, argsToLocals, Value.category]; done) | rfl
theorem d2_0 : decode method_2_code 0 = .ok (.iload_n 0, 1) := by decide +kernel
theorem d2_1 : decode method_2_code 1 = .ok (.iconst 3, 1) := by decide +kernel
theorem d2_2 : decode method_2_code 2 = .ok (.iand, 1) := by decide +kernel
theorem d2_3 : decode method_2_code 3 = .ok (.istore_n 1, 1) := by decide +kernel
theorem d2_4 : decode method_2_code 4 = .ok (.iload_n 1, 1) := by decide +kernel
theorem d2_5 : decode method_2_code 5 = .ok (.ifCond .ne 6, 3) := by decide +kernel
theorem d2_8 : decode method_2_code 8 = .ok (.bipush 97, 2) := by decide +kernel
theorem d2_10 : decode method_2_code 10 = .ok (.ireturn, 1) := by decide +kernel
theorem d2_11 : decode method_2_code 11 = .ok (.iload_n 1, 1) := by decide +kernel
theorem d2_12 : decode method_2_code 12 = .ok (.iconst 1, 1) := by decide +kernel
theorem d2_13 : decode method_2_code 13 = .ok (.if_icmp .ne 6, 3) := by decide +kernel
theorem d2_16 : decode method_2_code 16 = .ok (.bipush 90, 2) := by decide +kernel
theorem d2_18 : decode method_2_code 18 = .ok (.ireturn, 1) := by decide +kernel
theorem d2_19 : decode method_2_code 19 = .ok (.iload_n 1, 1) := by decide +kernel
theorem d2_20 : decode method_2_code 20 = .ok (.iconst 2, 1) := by decide +kernel
theorem d2_21 : decode method_2_code 21 = .ok (.if_icmp .ne 6, 3) := by decide +kernel
theorem d2_24 : decode method_2_code 24 = .ok (.bipush 55, 2) := by decide +kernel
theorem d2_26 : decode method_2_code 26 = .ok (.ireturn, 1) := by decide +kernel
theorem d2_27 : decode method_2_code 27 = .ok (.bipush 45, 2) := by decide +kernel
theorem d2_29 : decode method_2_code 29 = .ok (.ireturn, 1) := by decide +kernel
theorem pn_com_example_breakwater_breakwater_engine_AddressEqualsPinLaw : plainName "com/example/breakwater/breakwater/engine/AddressEqualsPinLaw" = true := by first | (simp [plainName, overriddenIn]; done) | decide +kernel
def Q_rm_nc (Z : State) (p1 : Int32) (h0 : Heap) (n0 : Nat) (vv : Option Value) (h : Heap) (L : List Loc) : Prop := vv = some (.int (own_nc p1)) ∧ Fr n0 L ∧ h = h0
set_option maxRecDepth 65536 in
set_option maxHeartbeats 40000000 in
theorem rm_nc (l : Launch) (Z : State) (a0 : Array Value) (hw : HW a0 Z) (ws : List Jvm.Cond) (p1 : Int32) (h0 : Heap) (n0 : Nat) (Z0 : n0 ≤ h0.size) :
    Met l Z Y6 method_2_code 2 (some .char) ws ({ frames := 0, cells := 0, slots := 0, locals := 0 } : Room) #[(.int p1)] h0 (Q_rm_nc Z p1 h0 n0) := by
  refine Met.enter (f0 := fun m => mkF m 0 #[vi p1, .unset] []) (plainFor_of_name pn_com_example_breakwater_breakwater_engine_AddressEqualsPinLaw) (fun m => ef_rm_nc m p1) ?_
  intro p e s m below meth c s₁ hx hby hml hown hnm hret hlk hZ X0 e0
  have hown : s.vm.findClass "com/example/breakwater/breakwater/engine/AddressEqualsPinLaw" = some m.cls := hown
  have hnm : meth.name = "nameChar" := hnm
  have hml : c.maxLocals = 2 := hml
  have dk : ∀ {i : Nat} {r : Except DecodeError (Instr × Nat)}, decode method_2_code i = r → decode c.code i = r := fun h => hb hby h
  have N0 := Fr.nil n0
  refine gy (St s₁ m 3 #[vi p1, .unset] [(.int (p1 &&& (3 : Int32)))]) (fun _ k => XS.iloadN X0.here hx rfl (dk d2_0) rfl (XS.iconst X0.here hx rfl (dk d2_1) (XS.iand X0.here hx rfl (dk d2_2) rfl k))) ?_
  obtain ⟨v164, hv164⟩ : ∃ v, v = (p1 &&& (3 : Int32)) := ⟨_, rfl⟩
  refine gy (St s₁ m 5 #[vi p1, vi v164] [(.int v164)]) (fun _ k => XS.istoreN (x := v164) (rest := []) X0.here hx rfl (dk d2_3) (by rw [hv164]) (l' := #[vi p1, vi v164]) rfl (XS.iloadN X0.here hx rfl (dk d2_4) rfl k)) ?_
  by_cases c165 : v164 = (0 : Int32)
  · skip
    refine gy (St s₁ m 10 #[vi p1, vi v164] [(.int 97)]) (fun _ k => XS.ifNo X0.here hx rfl (dk d2_5) rfl ((if0 _ _).trans (teq c165).2) (XS.bipush X0.here hx rfl (dk d2_8) k)) ?_
    refine Go.ret X0 hx hlk (t := .char) hret rfl (Or.inl ⟨rfl, by simp, _, rfl⟩) (dk d2_10) (by decide) (by decide) ?_
    rw [e0]
    exact ⟨(congrArg (fun q => some (Value.int q)) (own_nc0 hv164 c165)), N0, rfl⟩
  · skip
    refine gy (St s₁ m 13 #[vi p1, vi v164] [(.int 1), (.int v164)]) (fun _ k => XS.ifYes X0.here hx rfl (pc0 := 5) (pc' := 11) rfl (dk d2_5) rfl ((if0 _ _).trans (feq c165).2) (by decide) (by decide) (XS.iloadN X0.here hx rfl (dk d2_11) rfl (XS.iconst X0.here hx rfl (dk d2_12) k))) ?_
    by_cases c166 : v164 = (1 : Int32)
    · skip
      refine gy (St s₁ m 18 #[vi p1, vi v164] [(.int 90)]) (fun _ k => XS.icmpNo X0.here hx rfl (dk d2_13) rfl (teq c166).2 (XS.bipush X0.here hx rfl (dk d2_16) k)) ?_
      refine Go.ret X0 hx hlk (t := .char) hret rfl (Or.inl ⟨rfl, by simp, _, rfl⟩) (dk d2_18) (by decide) (by decide) ?_
      rw [e0]
      exact ⟨(congrArg (fun q => some (Value.int q)) (own_nc1 hv164 c165 c166)), N0, rfl⟩
    · skip
      refine gy (St s₁ m 21 #[vi p1, vi v164] [(.int 2), (.int v164)]) (fun _ k => XS.icmpYes X0.here hx rfl (pc0 := 13) (pc' := 19) rfl (dk d2_13) rfl (feq c166).2 (by decide) (by decide) (XS.iloadN X0.here hx rfl (dk d2_19) rfl (XS.iconst X0.here hx rfl (dk d2_20) k))) ?_
      by_cases c167 : v164 = (2 : Int32)
      · skip
        refine gy (St s₁ m 26 #[vi p1, vi v164] [(.int 55)]) (fun _ k => XS.icmpNo X0.here hx rfl (dk d2_21) rfl (teq c167).2 (XS.bipush X0.here hx rfl (dk d2_24) k)) ?_
        refine Go.ret X0 hx hlk (t := .char) hret rfl (Or.inl ⟨rfl, by simp, _, rfl⟩) (dk d2_26) (by decide) (by decide) ?_
        rw [e0]
        exact ⟨(congrArg (fun q => some (Value.int q)) (own_nc2 hv164 c165 c166 c167)), N0, rfl⟩
      · skip
        refine gy (St s₁ m 29 #[vi p1, vi v164] [(.int 45)]) (fun _ k => XS.icmpYes X0.here hx rfl (pc0 := 21) (pc' := 27) rfl (dk d2_21) rfl (feq c167).2 (by decide) (by decide) (XS.bipush X0.here hx rfl (dk d2_27) k)) ?_
        refine Go.ret X0 hx hlk (t := .char) hret rfl (Or.inl ⟨rfl, by simp, _, rfl⟩) (dk d2_29) (by decide) (by decide) ?_
        rw [e0]
        exact ⟨(congrArg (fun q => some (Value.int q)) (own_nc3 hv164 c165 c166 c167)), N0, rfl⟩
theorem ef_rm_ec (m : MethodId) (x0 : Int32) : entryFrame m #[(.int x0)] 2 = mkF m 0 #[vi x0, .unset] [] := by first | (simp [entryFrame, mkF, argsToLocals, Value.category]; done) | rfl
theorem d42_0 : decode method_3_code 0 = .ok (.iload_n 0, 1) := by decide +kernel
theorem d42_1 : decode method_3_code 1 = .ok (.iconst 3, 1) := by decide +kernel
theorem d42_2 : decode method_3_code 2 = .ok (.iand, 1) := by decide +kernel
theorem d42_3 : decode method_3_code 3 = .ok (.istore_n 1, 1) := by decide +kernel
theorem d42_4 : decode method_3_code 4 = .ok (.iload_n 1, 1) := by decide +kernel
theorem d42_5 : decode method_3_code 5 = .ok (.ifCond .ne 6, 3) := by decide +kernel
theorem d42_8 : decode method_3_code 8 = .ok (.bipush 47, 2) := by decide +kernel
theorem d42_10 : decode method_3_code 10 = .ok (.ireturn, 1) := by decide +kernel
theorem d42_11 : decode method_3_code 11 = .ok (.iload_n 1, 1) := by decide +kernel
theorem d42_12 : decode method_3_code 12 = .ok (.iconst 1, 1) := by decide +kernel
theorem d42_13 : decode method_3_code 13 = .ok (.if_icmp .ne 6, 3) := by decide +kernel
theorem d42_16 : decode method_3_code 16 = .ok (.bipush 58, 2) := by decide +kernel
theorem d42_18 : decode method_3_code 18 = .ok (.ireturn, 1) := by decide +kernel
theorem d42_19 : decode method_3_code 19 = .ok (.iload_n 1, 1) := by decide +kernel
theorem d42_20 : decode method_3_code 20 = .ok (.iconst 2, 1) := by decide +kernel
theorem d42_21 : decode method_3_code 21 = .ok (.if_icmp .ne 6, 3) := by decide +kernel
theorem d42_24 : decode method_3_code 24 = .ok (.bipush 97, 2) := by decide +kernel
theorem d42_26 : decode method_3_code 26 = .ok (.ireturn, 1) := by decide +kernel
theorem d42_27 : decode method_3_code 27 = .ok (.bipush 90, 2) := by decide +kernel
theorem d42_29 : decode method_3_code 29 = .ok (.ireturn, 1) := by decide +kernel
def Q_rm_ec (Z : State) (p1 : Int32) (h0 : Heap) (n0 : Nat) (vv : Option Value) (h : Heap) (L : List Loc) : Prop := vv = some (.int (own_ec p1)) ∧ Fr n0 L ∧ h = h0
set_option maxRecDepth 65536 in
set_option maxHeartbeats 40000000 in
theorem rm_ec (l : Launch) (Z : State) (a0 : Array Value) (hw : HW a0 Z) (ws : List Jvm.Cond) (p1 : Int32) (h0 : Heap) (n0 : Nat) (Z0 : n0 ≤ h0.size) :
    Met l Z Y3 method_3_code 2 (some .char) ws ({ frames := 0, cells := 0, slots := 0, locals := 0 } : Room) #[(.int p1)] h0 (Q_rm_ec Z p1 h0 n0) := by
  refine Met.enter (f0 := fun m => mkF m 0 #[vi p1, .unset] []) (plainFor_of_name pn_com_example_breakwater_breakwater_engine_AddressEqualsPinLaw) (fun m => ef_rm_ec m p1) ?_
  intro p e s m below meth c s₁ hx hby hml hown hnm hret hlk hZ X0 e0
  have hown : s.vm.findClass "com/example/breakwater/breakwater/engine/AddressEqualsPinLaw" = some m.cls := hown
  have hnm : meth.name = "endChar" := hnm
  have hml : c.maxLocals = 2 := hml
  have dk : ∀ {i : Nat} {r : Except DecodeError (Instr × Nat)}, decode method_3_code i = r → decode c.code i = r := fun h => hb hby h
  have N0 := Fr.nil n0
  refine gy (St s₁ m 3 #[vi p1, .unset] [(.int (p1 &&& (3 : Int32)))]) (fun _ k => XS.iloadN X0.here hx rfl (dk d42_0) rfl (XS.iconst X0.here hx rfl (dk d42_1) (XS.iand X0.here hx rfl (dk d42_2) rfl k))) ?_
  obtain ⟨v168, hv168⟩ : ∃ v, v = (p1 &&& (3 : Int32)) := ⟨_, rfl⟩
  refine gy (St s₁ m 5 #[vi p1, vi v168] [(.int v168)]) (fun _ k => XS.istoreN (x := v168) (rest := []) X0.here hx rfl (dk d42_3) (by rw [hv168]) (l' := #[vi p1, vi v168]) rfl (XS.iloadN X0.here hx rfl (dk d42_4) rfl k)) ?_
  by_cases c169 : v168 = (0 : Int32)
  · skip
    refine gy (St s₁ m 10 #[vi p1, vi v168] [(.int 47)]) (fun _ k => XS.ifNo X0.here hx rfl (dk d42_5) rfl ((if0 _ _).trans (teq c169).2) (XS.bipush X0.here hx rfl (dk d42_8) k)) ?_
    refine Go.ret X0 hx hlk (t := .char) hret rfl (Or.inl ⟨rfl, by simp, _, rfl⟩) (dk d42_10) (by decide) (by decide) ?_
    rw [e0]
    exact ⟨(congrArg (fun q => some (Value.int q)) (own_ec0 hv168 c169)), N0, rfl⟩
  · skip
    refine gy (St s₁ m 13 #[vi p1, vi v168] [(.int 1), (.int v168)]) (fun _ k => XS.ifYes X0.here hx rfl (pc0 := 5) (pc' := 11) rfl (dk d42_5) rfl ((if0 _ _).trans (feq c169).2) (by decide) (by decide) (XS.iloadN X0.here hx rfl (dk d42_11) rfl (XS.iconst X0.here hx rfl (dk d42_12) k))) ?_
    by_cases c170 : v168 = (1 : Int32)
    · skip
      refine gy (St s₁ m 18 #[vi p1, vi v168] [(.int 58)]) (fun _ k => XS.icmpNo X0.here hx rfl (dk d42_13) rfl (teq c170).2 (XS.bipush X0.here hx rfl (dk d42_16) k)) ?_
      refine Go.ret X0 hx hlk (t := .char) hret rfl (Or.inl ⟨rfl, by simp, _, rfl⟩) (dk d42_18) (by decide) (by decide) ?_
      rw [e0]
      exact ⟨(congrArg (fun q => some (Value.int q)) (own_ec1 hv168 c169 c170)), N0, rfl⟩
    · skip
      refine gy (St s₁ m 21 #[vi p1, vi v168] [(.int 2), (.int v168)]) (fun _ k => XS.icmpYes X0.here hx rfl (pc0 := 13) (pc' := 19) rfl (dk d42_13) rfl (feq c170).2 (by decide) (by decide) (XS.iloadN X0.here hx rfl (dk d42_19) rfl (XS.iconst X0.here hx rfl (dk d42_20) k))) ?_
      by_cases c171 : v168 = (2 : Int32)
      · skip
        refine gy (St s₁ m 26 #[vi p1, vi v168] [(.int 97)]) (fun _ k => XS.icmpNo X0.here hx rfl (dk d42_21) rfl (teq c171).2 (XS.bipush X0.here hx rfl (dk d42_24) k)) ?_
        refine Go.ret X0 hx hlk (t := .char) hret rfl (Or.inl ⟨rfl, by simp, _, rfl⟩) (dk d42_26) (by decide) (by decide) ?_
        rw [e0]
        exact ⟨(congrArg (fun q => some (Value.int q)) (own_ec2 hv168 c169 c170 c171)), N0, rfl⟩
      · skip
        refine gy (St s₁ m 29 #[vi p1, vi v168] [(.int 90)]) (fun _ k => XS.icmpYes X0.here hx rfl (pc0 := 21) (pc' := 27) rfl (dk d42_21) rfl (feq c171).2 (by decide) (by decide) (XS.bipush X0.here hx rfl (dk d42_27) k)) ?_
        refine Go.ret X0 hx hlk (t := .char) hret rfl (Or.inl ⟨rfl, by simp, _, rfl⟩) (dk d42_29) (by decide) (by decide) ?_
        rw [e0]
        exact ⟨(congrArg (fun q => some (Value.int q)) (own_ec3 hv168 c169 c170 c171)), N0, rfl⟩
theorem ef_rm_name (m : MethodId) (x0 : Int32) : entryFrame m #[(.int x0)] 3 = mkF m 0 #[vi x0, .unset, .unset] [] := by first | (simp [entryFrame, mkF, argsToLocals, Value.category]; done) | rfl
theorem d1_0 : decode method_4_code 0 = .ok (.iload_n 0, 1) := by decide +kernel
theorem d1_1 : decode method_4_code 1 = .ok (.iconst 1, 1) := by decide +kernel
theorem d1_2 : decode method_4_code 2 = .ok (.iushr, 1) := by decide +kernel
theorem d1_3 : decode method_4_code 3 = .ok (.invokestatic 7, 3) := by decide +kernel
theorem pd_22 : parseMethodDescriptor "(I)C" = some ⟨[.int], some .char⟩ := by decide +kernel
theorem d1_6 : decode method_4_code 6 = .ok (.istore_n 1, 1) := by decide +kernel
theorem d1_7 : decode method_4_code 7 = .ok (.iload_n 0, 1) := by decide +kernel
theorem d1_8 : decode method_4_code 8 = .ok (.iconst 1, 1) := by decide +kernel
theorem d1_9 : decode method_4_code 9 = .ok (.iand, 1) := by decide +kernel
theorem d1_10 : decode method_4_code 10 = .ok (.ifCond .ne 8, 3) := by decide +kernel
theorem d1_13 : decode method_4_code 13 = .ok (.iload_n 1, 1) := by decide +kernel
theorem d1_14 : decode method_4_code 14 = .ok (.invokestatic 13, 3) := by decide +kernel
theorem pd_23 : parseMethodDescriptor "(C)Ljava/lang/String;" = some ⟨[.char], some (.object "java/lang/String")⟩ := by decide +kernel
theorem d1_17 : decode method_4_code 17 = .ok (.areturn, 1) := by decide +kernel
theorem d1_18 : decode method_4_code 18 = .ok (.iload_n 0, 1) := by decide +kernel
theorem d1_19 : decode method_4_code 19 = .ok (.iconst 3, 1) := by decide +kernel
theorem d1_20 : decode method_4_code 20 = .ok (.iushr, 1) := by decide +kernel
theorem d1_21 : decode method_4_code 21 = .ok (.invokestatic 7, 3) := by decide +kernel
theorem d1_24 : decode method_4_code 24 = .ok (.istore_n 2, 1) := by decide +kernel
theorem d1_25 : decode method_4_code 25 = .ok (.new 14, 3) := by decide +kernel
theorem d1_28 : decode method_4_code 28 = .ok (.dup, 1) := by decide +kernel
theorem d1_29 : decode method_4_code 29 = .ok (.iconst 2, 1) := by decide +kernel
theorem d1_30 : decode method_4_code 30 = .ok (.newarray .char, 2) := by decide +kernel
theorem d1_32 : decode method_4_code 32 = .ok (.dup, 1) := by decide +kernel
theorem d1_33 : decode method_4_code 33 = .ok (.iconst 0, 1) := by decide +kernel
theorem d1_34 : decode method_4_code 34 = .ok (.iload_n 1, 1) := by decide +kernel
theorem d1_35 : decode method_4_code 35 = .ok (.castore, 1) := by decide +kernel
theorem d1_36 : decode method_4_code 36 = .ok (.dup, 1) := by decide +kernel
theorem d1_37 : decode method_4_code 37 = .ok (.iconst 1, 1) := by decide +kernel
theorem d1_38 : decode method_4_code 38 = .ok (.iload_n 2, 1) := by decide +kernel
theorem d1_39 : decode method_4_code 39 = .ok (.castore, 1) := by decide +kernel
theorem d1_40 : decode method_4_code 40 = .ok (.invokespecial 19, 3) := by decide +kernel
theorem pd_24 : parseMethodDescriptor "([C)V" = some ⟨[(.array .char)], none⟩ := by decide +kernel
theorem d1_43 : decode method_4_code 43 = .ok (.areturn, 1) := by decide +kernel
def Q_rm_name (Z : State) (p1 : Int32) (cs : Int32) (h0 : Heap) (n0 : Nat) (vv : Option Value) (h : Heap) (L : List Loc) : Prop := ∃ b : Addr, ∃ t : Addr, ∃ k : ClassId, vv = some (.ref b) ∧ Fr n0 L ∧ Keep h0 h [] ∧ Exa Z h b "java/lang/String" ∧ Fld Z h b "java/lang/String" "value" "[B" (.ref t) ∧ Fld Z h b "java/lang/String" "coder" "B" (.int 0) ∧ Arv Z h t k .byte (own_z (own_nm p1)) (own_vs (own_nm p1)) (.int 0) ∧ h0.size ≤ b
set_option maxRecDepth 65536 in
set_option maxHeartbeats 40000000 in
theorem rm_name (l : Launch) (Z : State) (a0 : Array Value) (hw : HW a0 Z) (ws : List Jvm.Cond) (p1 : Int32) (cs : Int32) (h0 : Heap) (n0 : Nat) (Z0 : n0 ≤ h0.size) (pr0 : Old Z n0 h0) (pr1 : Sta Z Z.heap "java/lang/String" "COMPACT_STRINGS" "Z" (.int cs)) (hcs : ¬ (cs = (0 : Int32))) :
    Met l Z Y5 method_4_code 3 (some (.object "java/lang/String")) ws ({ frames := 4, cells := 3, slots := 8, locals := 66 } : Room) #[(.int p1)] h0 (Q_rm_name Z p1 cs h0 n0) := by
  refine Met.enter (f0 := fun m => mkF m 0 #[vi p1, .unset, .unset] []) (plainFor_of_name pn_com_example_breakwater_breakwater_engine_AddressEqualsPinLaw) (fun m => ef_rm_name m p1) ?_
  intro p e s m below meth c s₁ hx hby hml hown hnm hret hlk hZ X0 e0
  have hown : s.vm.findClass "com/example/breakwater/breakwater/engine/AddressEqualsPinLaw" = some m.cls := hown
  have hnm : meth.name = "name" := hnm
  have hml : c.maxLocals = 3 := hml
  have dk : ∀ {i : Nat} {r : Except DecodeError (Instr × Nat)}, decode method_4_code i = r → decode c.code i = r := fun h => hb hby h
  have N0 := Fr.nil n0
  refine gy (St s₁ m 3 #[vi p1, .unset, .unset] [(.int ((p1.toUInt32 >>> ((1 : Int32) &&& 31).toUInt32).toInt32))]) (fun _ k => XS.iloadN X0.here hx rfl (dk d1_0) rfl (XS.iconst X0.here hx rfl (dk d1_1) (XS.iushr X0.here hx rfl (dk d1_2) rfl k))) ?_
  obtain ⟨_, _, ⟨T172, L172, k172, n172⟩, -, X172, ⟨Lc172, hQ172, l172, y172, z172⟩, st172⟩ := Jvm.LawKit.callS X0 hx (y := Y6) hown (mvT hZ (wd hw 4 rfl)) (mvT hZ (wd hw 5 rfl)) (mvT hZ (wd hw 2 rfl)) (mvT hZ (wd hw 6 rfl)) (by decide) (backOf (W := 0) (rm_nc l Z a0 hw [] ((p1.toUInt32 >>> ((1 : Int32) &&& 31).toUInt32).toInt32) h0 n0 Z0 ) hZ (wd hw 6 rfl) (wd hw 2 rfl) (by decide) (by decide)) (g := (mkF m 3 #[vi p1, .unset, .unset] [(.int ((p1.toUInt32 >>> ((1 : Int32) &&& 31).toUInt32).toInt32))])) rfl (by rw [hml]; rfl) (argsL := [(.int ((p1.toUInt32 >>> ((1 : Int32) &&& 31).toUInt32).toInt32))]) (rest := []) (lenOf pd_22 rfl) rfl (by show 2 * 0 + _ ≤ _; exact Nat.le_of_eq rfl) (dk d1_3) (fun _ _ => ⟨rfl, e0, Nat.le_of_ble_eq_true rfl, Nat.le_of_ble_eq_true rfl⟩)
  dsimp only [Pt.U, Pt.locs, Pt.cells, Pt.slots] at X172 l172 y172 z172 st172 hQ172
  subst l172 y172 z172
  obtain ⟨rfl, Nq172, hh172⟩ := hQ172
  have N172 := Fr.app N0 Nq172
  have X172 : Stand p l e _ _ m _ below meth c T172 _ 0 0 := X172
  refine gy (St T172 m 6 #[vi p1, .unset, .unset] [(.int (own_nc ((p1.toUInt32 >>> ((1 : Int32) &&& 31).toUInt32).toInt32)))]) (fun _ k => st172 _ k) ?_
  obtain ⟨v173, hv173⟩ : ∃ v, v = (own_nc ((p1.toUInt32 >>> ((1 : Int32) &&& 31).toUInt32).toInt32)) := ⟨_, rfl⟩
  refine gy (St T172 m 10 #[vi p1, vi v173, .unset] [(.int (p1 &&& (1 : Int32)))]) (fun _ k => XS.istoreN (x := v173) (rest := []) X172.here hx rfl (dk d1_6) (by rw [hv173]) (l' := #[vi p1, vi v173, .unset]) rfl (XS.iloadN X172.here hx rfl (dk d1_7) rfl (XS.iconst X172.here hx rfl (dk d1_8) (XS.iand X172.here hx rfl (dk d1_9) rfl k)))) ?_
  by_cases c174 : (p1 &&& (1 : Int32)) = (0 : Int32)
  · skip
    refine gy (St T172 m 14 #[vi p1, vi v173, .unset] [(.int v173)]) (fun _ k => XS.ifNo X172.here hx rfl (dk d1_10) rfl ((if0 _ _).trans (teq c174).2) (XS.iloadN X172.here hx rfl (dk d1_13) rfl k)) ?_
    obtain ⟨_, _, ⟨T175, L175, k175, n175⟩, -, X175, ⟨Lc175, hQ175, l175, y175, z175⟩, st175⟩ := Jvm.LawKit.callS X172 hx (y := Y26) hown (mvT hZ (wd hw 7 rfl)) (mvT hZ (wd hw 8 rfl)) (mvT hZ (wd hw 9 rfl)) (mvT hZ (wd hw 10 rfl)) (by decide) (backOf (W := 0) (rm_valueOfC l Z a0 hw [] v173 cs h0 n0 Z0 pr0 pr1 hcs (by rw [hv173]; exact own_ncL _)) hZ (wd hw 10 rfl) (wd hw 9 rfl) (by decide) (by decide)) (g := (mkF m 14 #[vi p1, vi v173, .unset] [(.int v173)])) rfl (by rw [hml]; rfl) (argsL := [(.int v173)]) (rest := []) (lenOf pd_23 rfl) rfl (by show 2 * 0 + _ ≤ _; exact Nat.le_of_eq rfl) (dk d1_14) (fun _ _ => ⟨rfl, hh172, Nat.le_of_ble_eq_true rfl, Nat.le_of_ble_eq_true rfl⟩)
    dsimp only [Pt.U, Pt.locs, Pt.cells, Pt.slots] at X175 l175 y175 z175 st175 hQ175
    subst l175 y175 z175
    obtain ⟨b175, t175, k175, rfl, Nq175, K175, p175_0, p175_1, p175_2, p175_3, p175_4, p175_5⟩ := hQ175
    have N175 := Fr.app N172 Nq175
    have X175 : Stand p l e _ _ m _ below meth c T175 _ 2 5 := X175
    have O176 := pr0.keep K175 all0
    have Z176 : n0 ≤ T175.heap.size := Nat.le_trans Z0 K175.1
    have sz_b175 : h0.size ≤ b175 := p175_4
    have sz_t175 : h0.size ≤ t175 := p175_5
    refine gy (St T175 m 17 #[vi p1, vi v173, .unset] [(.ref b175)]) (fun _ k => st175 _ k) ?_
    refine Go.ret X175 hx hlk (t := (.object "java/lang/String")) hret rfl (Or.inr (Or.inr (Or.inr (Or.inr ⟨rfl, rfl, rfl⟩)))) (dk d1_17) (by decide) (by decide) ?_
    have ec177 : own_nm p1 = [v173] := by
      rw [hv173]
      exact if_pos c174
    have V177 : Arv Z T175.heap t175 k175 .byte (own_z (own_nm p1)) (own_vs (own_nm p1)) (.int 0) := by
      rw [ec177]
      have q := p175_3
      simp only [own_lo] at q
      exact q
    exact ⟨b175, t175, k175, rfl, N175, ((Keep.refl h0 []).trans K175 all0), p175_0, p175_1, p175_2, V177, (Nat.le_trans (Nat.le_refl _) sz_b175)⟩
  · skip
    refine gy (St T172 m 21 #[vi p1, vi v173, .unset] [(.int ((p1.toUInt32 >>> ((3 : Int32) &&& 31).toUInt32).toInt32))]) (fun _ k => XS.ifYes X172.here hx rfl (pc0 := 10) (pc' := 18) rfl (dk d1_10) rfl ((if0 _ _).trans (feq c174).2) (by decide) (by decide) (XS.iloadN X172.here hx rfl (dk d1_18) rfl (XS.iconst X172.here hx rfl (dk d1_19) (XS.iushr X172.here hx rfl (dk d1_20) rfl k)))) ?_
    obtain ⟨_, _, ⟨T178, L178, k178, n178⟩, -, X178, ⟨Lc178, hQ178, l178, y178, z178⟩, st178⟩ := Jvm.LawKit.callS X172 hx (y := Y6) hown (mvT hZ (wd hw 4 rfl)) (mvT hZ (wd hw 5 rfl)) (mvT hZ (wd hw 2 rfl)) (mvT hZ (wd hw 6 rfl)) (by decide) (backOf (W := 0) (rm_nc l Z a0 hw [] ((p1.toUInt32 >>> ((3 : Int32) &&& 31).toUInt32).toInt32) h0 n0 Z0 ) hZ (wd hw 6 rfl) (wd hw 2 rfl) (by decide) (by decide)) (g := (mkF m 21 #[vi p1, vi v173, .unset] [(.int ((p1.toUInt32 >>> ((3 : Int32) &&& 31).toUInt32).toInt32))])) rfl (by rw [hml]; rfl) (argsL := [(.int ((p1.toUInt32 >>> ((3 : Int32) &&& 31).toUInt32).toInt32))]) (rest := []) (lenOf pd_22 rfl) rfl (by show 2 * 0 + _ ≤ _; exact Nat.le_of_eq rfl) (dk d1_21) (fun _ _ => ⟨rfl, hh172, Nat.le_of_ble_eq_true rfl, Nat.le_of_ble_eq_true rfl⟩)
    dsimp only [Pt.U, Pt.locs, Pt.cells, Pt.slots] at X178 l178 y178 z178 st178 hQ178
    subst l178 y178 z178
    obtain ⟨rfl, Nq178, hh178⟩ := hQ178
    have N178 := Fr.app N172 Nq178
    have X178 : Stand p l e _ _ m _ below meth c T178 _ 0 0 := X178
    refine gy (St T178 m 24 #[vi p1, vi v173, .unset] [(.int (own_nc ((p1.toUInt32 >>> ((3 : Int32) &&& 31).toUInt32).toInt32)))]) (fun _ k => st178 _ k) ?_
    obtain ⟨v179, hv179⟩ : ∃ v, v = (own_nc ((p1.toUInt32 >>> ((3 : Int32) &&& 31).toUInt32).toInt32)) := ⟨_, rfl⟩
    refine gy (St T178 m 25 #[vi p1, vi v173, vi v179] []) (fun _ k => XS.istoreN (x := v179) (rest := []) X178.here hx rfl (dk d1_24) (by rw [hv179]) (l' := #[vi p1, vi v173, vi v179]) rfl k) ?_
    obtain ⟨T180, h180, X180, e180, E180, A180, D180, -, st180⟩ := newO X178 hx hZ hown (wd hw 36 rfl) (wd hw 17 rfl) (wd hw 9 rfl) hh178 (g := (mkF m 25 #[vi p1, vi v173, vi v179] [])) rfl (dk d1_25) (by decide) (by decide)
    obtain ⟨b180, g180⟩ : ∃ z, z = h0.size := ⟨_, rfl⟩
    rw [← g180] at A180 D180 st180
    have sz_b180 : h0.size ≤ b180 := Nat.le_of_eq g180.symm
    have O181 := pr0.ext E180
    have Z181 : n0 ≤ h180.size := Nat.le_trans Z0 E180.1
    have F182 : Fld Z h180 b180 "java/lang/String" "value" "[B" .null := D180 (Or.inr (wd hw 30 rfl)) (ty := (.array .byte)) (by decide)
    have F183 : Fld Z h180 b180 "java/lang/String" "coder" "B" (.int 0) := D180 (Or.inr (wd hw 32 rfl)) (ty := .byte) (by decide)
    refine gy (St T180 m 28 #[vi p1, vi v173, vi v179] [(.ref b180)]) st180 ?_
    refine gy (St T180 m 30 #[vi p1, vi v173, vi v179] [(.int 2), (.ref b180), (.ref b180)]) (fun _ k => XS.dup X180.here hx rfl (dk d1_28) rfl rfl (XS.iconst X180.here hx rfl (dk d1_29) k)) ?_
    obtain ⟨T184, h184, k184, X184, e184, E184, A184, st184⟩ := newP X180 hx hZ (wd hw 37 rfl) e180 (g := (mkF m 30 #[vi p1, vi v173, vi v179] [(.int 2), (.ref b180), (.ref b180)])) rfl (dk d1_30) rfl (by decide) (cap := 2) (by decide) (by decide) (by decide) (by decide)
    obtain ⟨b184, g184⟩ : ∃ z, z = h180.size := ⟨_, rfl⟩
    rw [← g184] at A184 st184
    have sz_b184 : h180.size ≤ b184 := Nat.le_of_eq g184.symm
    have V184 : Arv Z h184 b184 k184 .char (2 : Int32) [(.int 0), (.int 0)] (.int 0) := (Arv.new A184 (by decide)).pad (pad_rep [] (.int 0) 2)
    have O185 := O181.ext E184
    have Z185 : n0 ≤ h184.size := Nat.le_trans Z181 E184.1
    refine gy (St T184 m 32 #[vi p1, vi v173, vi v179] [(.ref b184), (.ref b180), (.ref b180)]) st184 ?_
    refine gy (St T184 m 35 #[vi p1, vi v173, vi v179] [(.int v173), (.int 0), (.ref b184), (.ref b184), (.ref b180), (.ref b180)]) (fun _ k => XS.dup X184.here hx rfl (dk d1_32) rfl rfl (XS.iconst X184.here hx rfl (dk d1_33) (XS.iloadN X184.here hx rfl (dk d1_34) rfl k))) ?_
    obtain ⟨cl186, Ar186, q186, S186, N_186, Hs186, G186⟩ := id V184
    have hin187 : ¬ ((0 : Int32) < 0 ∨ cl186.slots.size ≤ ((0 : Int32)).toNatClampNeg) := inb_of S186 ⟨by decide, by decide⟩
    obtain ⟨T187, h187, X187, e187, W187, st187⟩ := stC X184 hx hZ e184 Ar186 (j := (0 : Int32)) hin187 (g := (mkF m 35 #[vi p1, vi v173, vi v179] [(.int v173), (.int 0), (.ref b184), (.ref b184), (.ref b180), (.ref b180)])) rfl rfl (dk d1_35)
    have O188 := O185.wr W187 (Nat.le_trans Z181 sz_b184)
    have Z188 : n0 ≤ h187.size := Nat.le_trans Z185 (Keep.of_wr W187).1
    have V187 : Arv Z h187 b184 k184 .char (2 : Int32) [(.int (nar .char v173)), (.int 0)] (.int 0) := Arv.set Ar186 q186 S186 N_186 Hs186 G186 (fits_nar_char _) W187 0 rfl (Nat.le_of_ble_eq_true rfl)
    have N187 := Fr.snoc X187 N178 (Nat.le_trans Z181 sz_b184)
    refine gy (St T187 m 36 #[vi p1, vi v173, vi v179] [(.ref b184), (.ref b180), (.ref b180)]) st187 ?_
    refine gy (St T187 m 39 #[vi p1, vi v173, vi v179] [(.int v179), (.int 1), (.ref b184), (.ref b184), (.ref b180), (.ref b180)]) (fun _ k => XS.dup X187.here hx rfl (dk d1_36) rfl rfl (XS.iconst X187.here hx rfl (dk d1_37) (XS.iloadN X187.here hx rfl (dk d1_38) rfl k))) ?_
    obtain ⟨cl189, Ar189, q189, S189, N_189, Hs189, G189⟩ := id V187
    have hin190 : ¬ ((1 : Int32) < 0 ∨ cl189.slots.size ≤ ((1 : Int32)).toNatClampNeg) := inb_of S189 ⟨by decide, by decide⟩
    obtain ⟨T190, h190, X190, e190, W190, st190⟩ := stC X187 hx hZ e187 Ar189 (j := (1 : Int32)) hin190 (g := (mkF m 39 #[vi p1, vi v173, vi v179] [(.int v179), (.int 1), (.ref b184), (.ref b184), (.ref b180), (.ref b180)])) rfl rfl (dk d1_39)
    have O191 := O188.wr W190 (Nat.le_trans Z181 sz_b184)
    have Z191 : n0 ≤ h190.size := Nat.le_trans Z188 (Keep.of_wr W190).1
    have V190 : Arv Z h190 b184 k184 .char (2 : Int32) [(.int (nar .char v173)), (.int (nar .char v179))] (.int 0) := Arv.set Ar189 q189 S189 N_189 Hs189 G189 (fits_nar_char _) W190 1 rfl (Nat.le_of_ble_eq_true rfl)
    have N190 := Fr.snoc X190 N187 (Nat.le_trans Z181 sz_b184)
    refine gy (St T190 m 40 #[vi p1, vi v173, vi v179] [(.ref b184), (.ref b180), (.ref b180)]) st190 ?_
    have f192 := (((A180.ext E184).wr W187).wr W190)
    have f193 := (((F182.ext E184).other W187 (Or.inl (Nat.ne_of_lt (Nat.lt_of_lt_of_le A180.lt sz_b184)))).other W190 (Or.inl (Nat.ne_of_lt (Nat.lt_of_lt_of_le A180.lt sz_b184))))
    have f194 := (((F183.ext E184).other W187 (Or.inl (Nat.ne_of_lt (Nat.lt_of_lt_of_le A180.lt sz_b184)))).other W190 (Or.inl (Nat.ne_of_lt (Nat.lt_of_lt_of_le A180.lt sz_b184))))
    obtain ⟨_, _, ⟨T195, L195, k195, n195⟩, -, X195, ⟨Lc195, hQ195, l195, y195, z195⟩, st195⟩ := X190.specialBack hx (y := Y20) rfl hown (mvT hZ (wd hw 38 rfl)) (mvT hZ (wd hw 39 rfl)) (mvT hZ (wd hw 40 rfl)) (by decide) (backOf (W := 1) (rm_sC_2 l Z a0 hw [] b180 b184 k184 (nar .char v173) (nar .char v179) cs h190 n0 Z191 O191 pr1 hcs f192 f193 f194 (Nat.le_trans Z0 sz_b180) V190 (by rw [hv173, own_ncn]; exact own_ncL _) (by rw [hv179, own_ncn]; exact own_ncL _)) hZ (wd hw 40 rfl) (wd hw 9 rfl) (by decide) (by decide)) (g := (mkF m 40 #[vi p1, vi v173, vi v179] [(.ref b184), (.ref b180), (.ref b180)])) rfl (by rw [hml]; rfl) (Steps.refl _) (a := b180) (argsL := [(.ref b184)]) (rest := [(.ref b180)]) (lenOf pd_24 rfl) rfl (by show 2 * 0 + _ ≤ _; exact Nat.le_of_eq rfl) (dk d1_40) (fun _ _ => ⟨rfl, e190, Nat.le_of_ble_eq_true rfl, Nat.le_of_ble_eq_true rfl⟩)
    dsimp only [Pt.U, Pt.locs, Pt.cells, Pt.slots] at X195 l195 y195 z195 st195 hQ195
    subst l195 y195 z195
    obtain ⟨t195, k195, rfl, Nq195, K195, p195_0, p195_1, p195_2, p195_3, p195_4⟩ := hQ195
    have N195 := Fr.app N190 Nq195
    have X195 : Stand p l e _ _ m _ below meth c T195 _ 3 8 := X195
    have O196 := O191.keep K195 (allS (Nat.le_trans Z0 sz_b180) all0)
    have Z196 : n0 ≤ T195.heap.size := Nat.le_trans Z191 K195.1
    have sz_t195 : h190.size ≤ t195 := p195_4
    refine gy (St T195 m 43 #[vi p1, vi v173, vi v179] [(.ref b180)]) (fun _ k => st195.trans k) ?_
    refine Go.ret X195 hx hlk (t := (.object "java/lang/String")) hret rfl (Or.inr (Or.inr (Or.inr (Or.inr ⟨rfl, rfl, rfl⟩)))) (dk d1_43) (by decide) (by decide) ?_
    have ec197 : own_nm p1 = [v173, v179] := by
      rw [hv173, hv179]
      exact if_neg c174
    have V197 : Arv Z T195.heap t195 k195 .byte (own_z (own_nm p1)) (own_vs (own_nm p1)) (.int 0) := by
      rw [ec197]
      have q := p195_3
      have nv173 : nar .char v173 = v173 := by rw [hv173]; exact own_ncn _
      have nv179 : nar .char v179 = v179 := by rw [hv179]; exact own_ncn _
      simp only [nv173, nv179, own_lo] at q
      exact q
    exact ⟨b180, t195, k195, rfl, N195, ((((((Keep.refl h0 []).ext E180).ext E184).wr W187 (Or.inr (Nat.le_trans (Nat.le_trans (Nat.le_refl _) E180.1) sz_b184))).wr W190 (Or.inr (Nat.le_trans (Nat.le_trans (Nat.le_refl _) E180.1) sz_b184))).trans K195 (allS (Or.inr (Nat.le_trans (Nat.le_refl _) sz_b180)) all0)), p195_0, p195_1, p195_2, V197, (Nat.le_trans (Nat.le_refl _) sz_b180)⟩
theorem ef_rm_endN (m : MethodId) (x0 : Int32) : entryFrame m #[(.int x0)] 4 = mkF m 0 #[vi x0, .unset, .unset, .unset] [] := by first | (simp [entryFrame, mkF, argsToLocals, Value.category]; done) | rfl
theorem d8_0 : decode method_5_code 0 = .ok (.iload_n 0, 1) := by decide +kernel
theorem d8_1 : decode method_5_code 1 = .ok (.iconst 1, 1) := by decide +kernel
theorem d8_2 : decode method_5_code 2 = .ok (.iand, 1) := by decide +kernel
theorem d8_3 : decode method_5_code 3 = .ok (.ifCond .ne 5, 3) := by decide +kernel
theorem d8_6 : decode method_5_code 6 = .ok (.aconst_null, 1) := by decide +kernel
theorem d8_7 : decode method_5_code 7 = .ok (.areturn, 1) := by decide +kernel
def Q_rm_endN (Z : State) (p1 : Int32) (h0 : Heap) (n0 : Nat) (vv : Option Value) (h : Heap) (L : List Loc) : Prop := vv = some .null ∧ Fr n0 L ∧ h = h0
set_option maxRecDepth 65536 in
set_option maxHeartbeats 40000000 in
theorem rm_endN (l : Launch) (Z : State) (a0 : Array Value) (hw : HW a0 Z) (ws : List Jvm.Cond) (p1 : Int32) (h0 : Heap) (n0 : Nat) (Z0 : n0 ≤ h0.size) (hbit : (p1 &&& (1 : Int32)) = (0 : Int32)) :
    Met l Z Y4 method_5_code 4 (some (.object "java/lang/String")) ws ({ frames := 0, cells := 0, slots := 0, locals := 0 } : Room) #[(.int p1)] h0 (Q_rm_endN Z p1 h0 n0) := by
  refine Met.enter (f0 := fun m => mkF m 0 #[vi p1, .unset, .unset, .unset] []) (plainFor_of_name pn_com_example_breakwater_breakwater_engine_AddressEqualsPinLaw) (fun m => ef_rm_endN m p1) ?_
  intro p e s m below meth c s₁ hx hby hml hown hnm hret hlk hZ X0 e0
  have hown : s.vm.findClass "com/example/breakwater/breakwater/engine/AddressEqualsPinLaw" = some m.cls := hown
  have hnm : meth.name = "endpoint" := hnm
  have hml : c.maxLocals = 4 := hml
  have dk : ∀ {i : Nat} {r : Except DecodeError (Instr × Nat)}, decode method_5_code i = r → decode c.code i = r := fun h => hb hby h
  have N0 := Fr.nil n0
  refine gy (St s₁ m 7 #[vi p1, .unset, .unset, .unset] [.null]) (fun _ k => XS.iloadN X0.here hx rfl (dk d8_0) rfl (XS.iconst X0.here hx rfl (dk d8_1) (XS.iand X0.here hx rfl (dk d8_2) rfl (XS.ifNo X0.here hx rfl (dk d8_3) rfl ((if0 _ _).trans (teq hbit).2) (XS.aconstNull X0.here hx rfl (dk d8_6) k))))) ?_
  refine Go.ret X0 hx hlk (t := (.object "java/lang/String")) hret rfl (Or.inr (Or.inr (Or.inr (Or.inr ⟨rfl, rfl, rfl⟩)))) (dk d8_7) (by decide) (by decide) ?_
  rw [e0]
  exact ⟨rfl, N0, rfl⟩
theorem ef_rm_endS (m : MethodId) (x0 : Int32) : entryFrame m #[(.int x0)] 4 = mkF m 0 #[vi x0, .unset, .unset, .unset] [] := by first | (simp [entryFrame, mkF, argsToLocals, Value.category]; done) | rfl
theorem d8_8 : decode method_5_code 8 = .ok (.iload_n 0, 1) := by decide +kernel
theorem d8_9 : decode method_5_code 9 = .ok (.iconst 1, 1) := by decide +kernel
theorem d8_10 : decode method_5_code 10 = .ok (.iushr, 1) := by decide +kernel
theorem d8_11 : decode method_5_code 11 = .ok (.iconst 3, 1) := by decide +kernel
theorem d8_12 : decode method_5_code 12 = .ok (.iand, 1) := by decide +kernel
theorem d8_13 : decode method_5_code 13 = .ok (.iconst 3, 1) := by decide +kernel
theorem d8_14 : decode method_5_code 14 = .ok (.irem, 1) := by decide +kernel
theorem d8_15 : decode method_5_code 15 = .ok (.istore_n 1, 1) := by decide +kernel
theorem d8_16 : decode method_5_code 16 = .ok (.iload_n 0, 1) := by decide +kernel
theorem d8_17 : decode method_5_code 17 = .ok (.iconst 3, 1) := by decide +kernel
theorem d8_18 : decode method_5_code 18 = .ok (.iushr, 1) := by decide +kernel
theorem d8_19 : decode method_5_code 19 = .ok (.invokestatic 22, 3) := by decide +kernel
theorem d8_22 : decode method_5_code 22 = .ok (.istore_n 2, 1) := by decide +kernel
theorem d8_23 : decode method_5_code 23 = .ok (.iload_n 0, 1) := by decide +kernel
theorem d8_24 : decode method_5_code 24 = .ok (.iconst 5, 1) := by decide +kernel
theorem d8_25 : decode method_5_code 25 = .ok (.iushr, 1) := by decide +kernel
theorem d8_26 : decode method_5_code 26 = .ok (.invokestatic 22, 3) := by decide +kernel
theorem d8_29 : decode method_5_code 29 = .ok (.istore_n 3, 1) := by decide +kernel
theorem d8_30 : decode method_5_code 30 = .ok (.iload_n 1, 1) := by decide +kernel
theorem d8_31 : decode method_5_code 31 = .ok (.ifCond .ne 14, 3) := by decide +kernel
theorem d8_34 : decode method_5_code 34 = .ok (.new 14, 3) := by decide +kernel
theorem d8_37 : decode method_5_code 37 = .ok (.dup, 1) := by decide +kernel
theorem d8_38 : decode method_5_code 38 = .ok (.iconst 0, 1) := by decide +kernel
theorem d8_39 : decode method_5_code 39 = .ok (.newarray .char, 2) := by decide +kernel
theorem d8_41 : decode method_5_code 41 = .ok (.invokespecial 19, 3) := by decide +kernel
theorem d8_44 : decode method_5_code 44 = .ok (.areturn, 1) := by decide +kernel
theorem d8_45 : decode method_5_code 45 = .ok (.iload_n 1, 1) := by decide +kernel
theorem d8_46 : decode method_5_code 46 = .ok (.iconst 1, 1) := by decide +kernel
theorem d8_47 : decode method_5_code 47 = .ok (.if_icmp .ne 8, 3) := by decide +kernel
theorem d8_50 : decode method_5_code 50 = .ok (.iload_n 2, 1) := by decide +kernel
theorem d8_51 : decode method_5_code 51 = .ok (.invokestatic 13, 3) := by decide +kernel
theorem d8_54 : decode method_5_code 54 = .ok (.areturn, 1) := by decide +kernel
theorem d8_55 : decode method_5_code 55 = .ok (.new 14, 3) := by decide +kernel
theorem d8_58 : decode method_5_code 58 = .ok (.dup, 1) := by decide +kernel
theorem d8_59 : decode method_5_code 59 = .ok (.iconst 2, 1) := by decide +kernel
theorem d8_60 : decode method_5_code 60 = .ok (.newarray .char, 2) := by decide +kernel
theorem d8_62 : decode method_5_code 62 = .ok (.dup, 1) := by decide +kernel
theorem d8_63 : decode method_5_code 63 = .ok (.iconst 0, 1) := by decide +kernel
theorem d8_64 : decode method_5_code 64 = .ok (.iload_n 2, 1) := by decide +kernel
theorem d8_65 : decode method_5_code 65 = .ok (.castore, 1) := by decide +kernel
theorem d8_66 : decode method_5_code 66 = .ok (.dup, 1) := by decide +kernel
theorem d8_67 : decode method_5_code 67 = .ok (.iconst 1, 1) := by decide +kernel
theorem d8_68 : decode method_5_code 68 = .ok (.iload_n 3, 1) := by decide +kernel
theorem d8_69 : decode method_5_code 69 = .ok (.castore, 1) := by decide +kernel
theorem d8_70 : decode method_5_code 70 = .ok (.invokespecial 19, 3) := by decide +kernel
theorem d8_73 : decode method_5_code 73 = .ok (.areturn, 1) := by decide +kernel
def Q_rm_endS (Z : State) (p1 : Int32) (cs : Int32) (h0 : Heap) (n0 : Nat) (vv : Option Value) (h : Heap) (L : List Loc) : Prop := ∃ b : Addr, ∃ t : Addr, ∃ k : ClassId, vv = some (.ref b) ∧ Fr n0 L ∧ Keep h0 h [] ∧ Exa Z h b "java/lang/String" ∧ Fld Z h b "java/lang/String" "value" "[B" (.ref t) ∧ Fld Z h b "java/lang/String" "coder" "B" (.int 0) ∧ Arv Z h t k .byte (own_z (own_en p1)) (own_vs (own_en p1)) (.int 0) ∧ h0.size ≤ b
set_option maxRecDepth 65536 in
set_option maxHeartbeats 40000000 in
theorem rm_endS (l : Launch) (Z : State) (a0 : Array Value) (hw : HW a0 Z) (ws : List Jvm.Cond) (p1 : Int32) (cs : Int32) (h0 : Heap) (n0 : Nat) (Z0 : n0 ≤ h0.size) (pr0 : Old Z n0 h0) (pr1 : Sta Z Z.heap "java/lang/String" "COMPACT_STRINGS" "Z" (.int cs)) (hcs : ¬ (cs = (0 : Int32))) (hbit : ¬ ((p1 &&& (1 : Int32)) = (0 : Int32))) :
    MetS l Z own_EL Y4 method_5_code 4 (some (.object "java/lang/String")) ws ({ frames := 4, cells := 4, slots := 8, locals := 66 } : Room) #[(.int p1)] h0 (Q_rm_endS Z p1 cs h0 n0) := by
  refine MetS.enter (f0 := fun m => mkF m 0 #[vi p1, .unset, .unset, .unset] []) (plainFor_of_name pn_com_example_breakwater_breakwater_engine_AddressEqualsPinLaw) (fun m => ef_rm_endS m p1) ?_
  intro p e s m below meth c s₁ hx hby hml hown hnm hret hlk hZ X0 e0 hS C0
  have hown : s.vm.findClass "com/example/breakwater/breakwater/engine/AddressEqualsPinLaw" = some m.cls := hown
  have hnm : meth.name = "endpoint" := hnm
  have hml : c.maxLocals = 4 := hml
  have dk : ∀ {i : Nat} {r : Except DecodeError (Instr × Nat)}, decode method_5_code i = r → decode c.code i = r := fun h => hb hby h
  have N0 := Fr.nil n0
  have hk : h0.size ≤ h0.size := Nat.le_refl _
  have hEL : EW Z a0 own_EL := own_hEL hw
  have wS : ∀ a ∈ Bundle.stringAtoms, a.before a0 Z = true := own_wS hw
  refine gy (St s₁ m 12 #[vi p1, .unset, .unset, .unset] [(.int 3), (.int ((p1.toUInt32 >>> ((1 : Int32) &&& 31).toUInt32).toInt32))]) (fun _ k => XS.iloadN X0.here hx rfl (dk d8_0) rfl (XS.iconst X0.here hx rfl (dk d8_1) (XS.iand X0.here hx rfl (dk d8_2) rfl (XS.ifYes X0.here hx rfl (pc0 := 3) (pc' := 8) rfl (dk d8_3) rfl ((if0 _ _).trans (feq hbit).2) (by decide) (by decide) (XS.iloadN X0.here hx rfl (dk d8_8) rfl (XS.iconst X0.here hx rfl (dk d8_9) (XS.iushr X0.here hx rfl (dk d8_10) rfl (XS.iconst X0.here hx rfl (dk d8_11) k)))))))) ?_
  refine gy (St s₁ m 15 #[vi p1, .unset, .unset, .unset] [(.int ((((p1.toUInt32 >>> ((1 : Int32) &&& 31).toUInt32).toInt32) &&& (3 : Int32)) % (3 : Int32)))]) (fun _ k => XS.iand X0.here hx rfl (dk d8_12) rfl (XS.iconst X0.here hx rfl (dk d8_13) (iremM X0 hx (g := (mkF m 14 #[vi p1, .unset, .unset, .unset] [(.int 3), (.int (((p1.toUInt32 >>> ((1 : Int32) &&& 31).toUInt32).toInt32) &&& (3 : Int32)))])) rfl (dk d8_14) rfl (by decide) k))) ?_
  obtain ⟨v198, hv198⟩ : ∃ v, v = ((((p1.toUInt32 >>> ((1 : Int32) &&& 31).toUInt32).toInt32) &&& (3 : Int32)) % (3 : Int32)) := ⟨_, rfl⟩
  refine gy (St s₁ m 19 #[vi p1, vi v198, .unset, .unset] [(.int ((p1.toUInt32 >>> ((3 : Int32) &&& 31).toUInt32).toInt32))]) (fun _ k => XS.istoreN (x := v198) (rest := []) X0.here hx rfl (dk d8_15) (by rw [hv198]) (l' := #[vi p1, vi v198, .unset, .unset]) rfl (XS.iloadN X0.here hx rfl (dk d8_16) rfl (XS.iconst X0.here hx rfl (dk d8_17) (XS.iushr X0.here hx rfl (dk d8_18) rfl k)))) ?_
  obtain ⟨_, _, ⟨T199, L199, k199, n199⟩, -, X199, ⟨Lc199, hQ199, l199, y199, z199⟩, st199⟩ := Jvm.LawKit.callS X0 hx (y := Y3) hown (mvT hZ (wd hw 211 rfl)) (mvT hZ (wd hw 212 rfl)) (mvT hZ (wd hw 2 rfl)) (mvT hZ (wd hw 213 rfl)) (by decide) (backOf (W := 0) (rm_ec l Z a0 hw [] ((p1.toUInt32 >>> ((3 : Int32) &&& 31).toUInt32).toInt32) h0 n0 Z0 ) hZ (wd hw 213 rfl) (wd hw 2 rfl) (by decide) (by decide)) (g := (mkF m 19 #[vi p1, vi v198, .unset, .unset] [(.int ((p1.toUInt32 >>> ((3 : Int32) &&& 31).toUInt32).toInt32))])) rfl (by rw [hml]; rfl) (argsL := [(.int ((p1.toUInt32 >>> ((3 : Int32) &&& 31).toUInt32).toInt32))]) (rest := []) (lenOf pd_22 rfl) rfl (by show 2 * 0 + _ ≤ _; exact Nat.le_of_eq rfl) (dk d8_19) (fun _ _ => ⟨rfl, e0, Nat.le_of_ble_eq_true rfl, Nat.le_of_ble_eq_true rfl⟩)
  dsimp only [Pt.U, Pt.locs, Pt.cells, Pt.slots] at X199 l199 y199 z199 st199 hQ199
  subst l199 y199 z199
  obtain ⟨rfl, Nq199, hh199⟩ := hQ199
  have N199 := Fr.app N0 Nq199
  have X199 : Stand p l e _ _ m _ below meth c T199 _ 0 0 := X199
  refine gy (St T199 m 22 #[vi p1, vi v198, .unset, .unset] [(.int (own_ec ((p1.toUInt32 >>> ((3 : Int32) &&& 31).toUInt32).toInt32)))]) (fun _ k => st199 _ k) ?_
  obtain ⟨v200, hv200⟩ : ∃ v, v = (own_ec ((p1.toUInt32 >>> ((3 : Int32) &&& 31).toUInt32).toInt32)) := ⟨_, rfl⟩
  refine gy (St T199 m 26 #[vi p1, vi v198, vi v200, .unset] [(.int ((p1.toUInt32 >>> ((5 : Int32) &&& 31).toUInt32).toInt32))]) (fun _ k => XS.istoreN (x := v200) (rest := []) X199.here hx rfl (dk d8_22) (by rw [hv200]) (l' := #[vi p1, vi v198, vi v200, .unset]) rfl (XS.iloadN X199.here hx rfl (dk d8_23) rfl (XS.iconst X199.here hx rfl (dk d8_24) (XS.iushr X199.here hx rfl (dk d8_25) rfl k)))) ?_
  obtain ⟨_, _, ⟨T201, L201, k201, n201⟩, -, X201, ⟨Lc201, hQ201, l201, y201, z201⟩, st201⟩ := Jvm.LawKit.callS X199 hx (y := Y3) hown (mvT hZ (wd hw 211 rfl)) (mvT hZ (wd hw 212 rfl)) (mvT hZ (wd hw 2 rfl)) (mvT hZ (wd hw 213 rfl)) (by decide) (backOf (W := 0) (rm_ec l Z a0 hw [] ((p1.toUInt32 >>> ((5 : Int32) &&& 31).toUInt32).toInt32) h0 n0 Z0 ) hZ (wd hw 213 rfl) (wd hw 2 rfl) (by decide) (by decide)) (g := (mkF m 26 #[vi p1, vi v198, vi v200, .unset] [(.int ((p1.toUInt32 >>> ((5 : Int32) &&& 31).toUInt32).toInt32))])) rfl (by rw [hml]; rfl) (argsL := [(.int ((p1.toUInt32 >>> ((5 : Int32) &&& 31).toUInt32).toInt32))]) (rest := []) (lenOf pd_22 rfl) rfl (by show 2 * 0 + _ ≤ _; exact Nat.le_of_eq rfl) (dk d8_26) (fun _ _ => ⟨rfl, hh199, Nat.le_of_ble_eq_true rfl, Nat.le_of_ble_eq_true rfl⟩)
  dsimp only [Pt.U, Pt.locs, Pt.cells, Pt.slots] at X201 l201 y201 z201 st201 hQ201
  subst l201 y201 z201
  obtain ⟨rfl, Nq201, hh201⟩ := hQ201
  have N201 := Fr.app N199 Nq201
  have X201 : Stand p l e _ _ m _ below meth c T201 _ 0 0 := X201
  refine gy (St T201 m 29 #[vi p1, vi v198, vi v200, .unset] [(.int (own_ec ((p1.toUInt32 >>> ((5 : Int32) &&& 31).toUInt32).toInt32)))]) (fun _ k => st201 _ k) ?_
  obtain ⟨v202, hv202⟩ : ∃ v, v = (own_ec ((p1.toUInt32 >>> ((5 : Int32) &&& 31).toUInt32).toInt32)) := ⟨_, rfl⟩
  refine gy (St T201 m 31 #[vi p1, vi v198, vi v200, vi v202] [(.int v198)]) (fun _ k => XS.istoreN (x := v202) (rest := []) X201.here hx rfl (dk d8_29) (by rw [hv202]) (l' := #[vi p1, vi v198, vi v200, vi v202]) rfl (XS.iloadN X201.here hx rfl (dk d8_30) rfl k)) ?_
  by_cases c203 : v198 = (0 : Int32)
  · skip
    refine gy (St T201 m 34 #[vi p1, vi v198, vi v200, vi v202] []) (fun _ k => XS.ifNo X201.here hx rfl (dk d8_31) rfl ((if0 _ _).trans (teq c203).2) k) ?_
    obtain ⟨T204, h204, X204, e204, E204, A204, D204, -, st204⟩ := newO X201 hx hZ hown (wd hw 36 rfl) (wd hw 17 rfl) (wd hw 9 rfl) hh201 (g := (mkF m 34 #[vi p1, vi v198, vi v200, vi v202] [])) rfl (dk d8_34) (by decide) (by decide)
    obtain ⟨b204, g204⟩ : ∃ z, z = h0.size := ⟨_, rfl⟩
    rw [← g204] at A204 D204 st204
    have sz_b204 : h0.size ≤ b204 := Nat.le_of_eq g204.symm
    have C205 := C0.trans (CHr.ext E204 C0.1)
    have O205 := pr0.ext E204
    have Z205 : n0 ≤ h204.size := Nat.le_trans Z0 E204.1
    have Sf206_b204 : Safe Z own_EL s.vm h204 b204 := Safe.ext E204 C0.1 (Safe.new sz_b204)
    have F207 : Fld Z h204 b204 "java/lang/String" "value" "[B" .null := D204 (Or.inr (wd hw 30 rfl)) (ty := (.array .byte)) (by decide)
    have F208 : Fld Z h204 b204 "java/lang/String" "coder" "B" (.int 0) := D204 (Or.inr (wd hw 32 rfl)) (ty := .byte) (by decide)
    refine gy (St T204 m 37 #[vi p1, vi v198, vi v200, vi v202] [(.ref b204)]) st204 ?_
    refine gy (St T204 m 39 #[vi p1, vi v198, vi v200, vi v202] [(.int 0), (.ref b204), (.ref b204)]) (fun _ k => XS.dup X204.here hx rfl (dk d8_37) rfl rfl (XS.iconst X204.here hx rfl (dk d8_38) k)) ?_
    obtain ⟨T209, h209, k209, X209, e209, E209, A209, st209⟩ := newP X204 hx hZ (wd hw 37 rfl) e204 (g := (mkF m 39 #[vi p1, vi v198, vi v200, vi v202] [(.int 0), (.ref b204), (.ref b204)])) rfl (dk d8_39) rfl (by decide) (cap := 0) (by decide) (by decide) (by decide) (by decide)
    obtain ⟨b209, g209⟩ : ∃ z, z = h204.size := ⟨_, rfl⟩
    rw [← g209] at A209 st209
    have sz_b209 : h204.size ≤ b209 := Nat.le_of_eq g209.symm
    have V209 : Arv Z h209 b209 k209 .char (0 : Int32) [] (.int 0) := (Arv.new A209 (by decide)).pad (pad_rep [] (.int 0) 0)
    have Sf210_b204 := Safe.ext E209 C205.1 Sf206_b204
    have C210 := C205.trans (CHr.ext E209 C205.1)
    have O210 := O205.ext E209
    have Z210 : n0 ≤ h209.size := Nat.le_trans Z205 E209.1
    refine gy (St T209 m 41 #[vi p1, vi v198, vi v200, vi v202] [(.ref b209), (.ref b204), (.ref b204)]) st209 ?_
    have hkT211 : _ ≤ T209.heap.size := (by rw [e209]; exact (Nat.le_trans (Nat.le_trans hk E204.1) E209.1))
    obtain ⟨_, _, ⟨T211, L211, k211, n211⟩, -, X211, hSn211, hgr211, ⟨Lc211, hQ211, l211, y211, z211, CS211⟩, st211⟩ := X209.specialBackS hx (y := Y20) rfl hown (mvT hZ (wd hw 38 rfl)) (mvT hZ (wd hw 39 rfl)) (mvT hZ (wd hw 40 rfl)) (by decide) (backOfSH (W := 1) (rm_sC_0 l Z a0 hw [] b204 b209 k209 h209 n0 Z210 O210 (A204.ext E209) (F207.ext E209) (F208.ext E209) (Nat.le_trans Z0 sz_b204) V209) hZ (wd hw 40 rfl) (wd hw 9 rfl) (by decide) (by decide) hEL C210.1) (g := (mkF m 41 #[vi p1, vi v198, vi v200, vi v202] [(.ref b209), (.ref b204), (.ref b204)])) rfl (by rw [hml]; rfl) (Steps.refl _) (a := b204) (argsL := [(.ref b209)]) (rest := [(.ref b204)]) (lenOf pd_24 rfl) rfl (by show 2 * 0 + _ ≤ _; exact Nat.le_of_eq rfl) (dk d8_41) (fun _ _ => ⟨rfl, e209, Nat.le_of_ble_eq_true rfl, Nat.le_of_ble_eq_true rfl⟩)
    dsimp only [Pt.U, Pt.locs, Pt.cells, Pt.slots] at X211 l211 y211 z211 st211 hQ211 hSn211 hgr211 CS211
    subst l211 y211 z211
    obtain ⟨X211, hS, hZ, hown⟩ := rebS hS hkT211 X211 hSn211 hgr211 hZ hown
    have hk : T211.heap.size ≤ T211.heap.size := Nat.le_refl _
    obtain ⟨t211, k211, rfl, Nq211, K211, p211_0, p211_1, p211_2, p211_3⟩ := hQ211
    have N211 := Fr.app N201 Nq211
    have X211 : Stand p l e _ _ m _ below meth c T211 _ 4 8 := X211
    have Sf212_b204 := CHr.safe CS211 (A204.ext E209).lt Sf210_b204
    have C212 := C210.trans CS211
    have O212 := O210.keep K211 (allS (Nat.le_trans Z0 sz_b204) all0)
    have Z212 : n0 ≤ T211.heap.size := Nat.le_trans Z210 K211.1
    refine gy (St T211 m 44 #[vi p1, vi v198, vi v200, vi v202] [(.ref b204)]) (fun _ k => st211.trans k) ?_
    have hkE213 : _ ≤ T211.heap.size := hk
    have CE213 : CHr Z own_EL s.vm s.heap T211.vm T211.heap := C212
    refine Go.retS X211 hx hlk hS hkE213 hZ hEL CE213 (t := (.object "java/lang/String")) hret rfl (Or.inr (Or.inr (Or.inr (Or.inr ⟨rfl, rfl, rfl⟩)))) (dk d8_44) (by decide) (by decide) ?_
    have ec214 : own_en p1 = [] := by
      exact if_pos (by rw [← hv198]; exact c203)
    have V214 : Arv Z T211.heap t211 k211 .byte (own_z (own_en p1)) (own_vs (own_en p1)) (.int 0) := by
      rw [ec214]
      have q := p211_3
      exact q
    exact ⟨b204, t211, k211, rfl, N211, ((((Keep.refl h0 []).ext E204).ext E209).trans K211 (allS (Or.inr (Nat.le_trans (Nat.le_refl _) sz_b204)) all0)), p211_0, p211_1, p211_2, V214, (Nat.le_trans (Nat.le_refl _) sz_b204)⟩
  · skip
    refine gy (St T201 m 47 #[vi p1, vi v198, vi v200, vi v202] [(.int 1), (.int v198)]) (fun _ k => XS.ifYes X201.here hx rfl (pc0 := 31) (pc' := 45) rfl (dk d8_31) rfl ((if0 _ _).trans (feq c203).2) (by decide) (by decide) (XS.iloadN X201.here hx rfl (dk d8_45) rfl (XS.iconst X201.here hx rfl (dk d8_46) k))) ?_
    by_cases c215 : v198 = (1 : Int32)
    · skip
      refine gy (St T201 m 51 #[vi p1, vi v198, vi v200, vi v202] [(.int v200)]) (fun _ k => XS.icmpNo X201.here hx rfl (dk d8_47) rfl (teq c215).2 (XS.iloadN X201.here hx rfl (dk d8_50) rfl k)) ?_
      obtain ⟨_, _, ⟨T216, L216, k216, n216⟩, -, X216, ⟨Lc216, hQ216, l216, y216, z216⟩, st216⟩ := Jvm.LawKit.callS X201 hx (y := Y26) hown (mvT hZ (wd hw 7 rfl)) (mvT hZ (wd hw 8 rfl)) (mvT hZ (wd hw 9 rfl)) (mvT hZ (wd hw 10 rfl)) (by decide) (backOf (W := 0) (rm_valueOfC l Z a0 hw [] v200 cs h0 n0 Z0 pr0 pr1 hcs (by rw [hv200]; exact own_ecL _)) hZ (wd hw 10 rfl) (wd hw 9 rfl) (by decide) (by decide)) (g := (mkF m 51 #[vi p1, vi v198, vi v200, vi v202] [(.int v200)])) rfl (by rw [hml]; rfl) (argsL := [(.int v200)]) (rest := []) (lenOf pd_23 rfl) rfl (by show 2 * 0 + _ ≤ _; exact Nat.le_of_eq rfl) (dk d8_51) (fun _ _ => ⟨rfl, hh201, Nat.le_of_ble_eq_true rfl, Nat.le_of_ble_eq_true rfl⟩)
      dsimp only [Pt.U, Pt.locs, Pt.cells, Pt.slots] at X216 l216 y216 z216 st216 hQ216
      subst l216 y216 z216
      obtain ⟨b216, t216, k216, rfl, Nq216, K216, p216_0, p216_1, p216_2, p216_3, p216_4, p216_5⟩ := hQ216
      have N216 := Fr.app N201 Nq216
      have X216 : Stand p l e _ _ m _ below meth c T216 _ 2 5 := X216
      have C217 := C0.trans (CHr.keep K216 sf0 C0.1)
      have O217 := pr0.keep K216 all0
      have Z217 : n0 ≤ T216.heap.size := Nat.le_trans Z0 K216.1
      have sz_b216 : h0.size ≤ b216 := p216_4
      have sz_t216 : h0.size ≤ t216 := p216_5
      refine gy (St T216 m 54 #[vi p1, vi v198, vi v200, vi v202] [(.ref b216)]) (fun _ k => st216 _ k) ?_
      have hkE218 : _ ≤ T216.heap.size := (Nat.le_trans hk K216.1)
      have CE218 : CHr Z own_EL s.vm s.heap s.vm T216.heap := C217
      refine Go.retS X216 hx hlk hS hkE218 hZ hEL CE218 (t := (.object "java/lang/String")) hret rfl (Or.inr (Or.inr (Or.inr (Or.inr ⟨rfl, rfl, rfl⟩)))) (dk d8_54) (by decide) (by decide) ?_
      have ec219 : own_en p1 = [v200] := by
        rw [hv200]
        exact (if_neg (by rw [← hv198]; exact c203)).trans (if_pos (by rw [← hv198]; exact c215))
      have V219 : Arv Z T216.heap t216 k216 .byte (own_z (own_en p1)) (own_vs (own_en p1)) (.int 0) := by
        rw [ec219]
        have q := p216_3
        simp only [own_lo] at q
        exact q
      exact ⟨b216, t216, k216, rfl, N216, ((Keep.refl h0 []).trans K216 all0), p216_0, p216_1, p216_2, V219, (Nat.le_trans (Nat.le_refl _) sz_b216)⟩
    · skip
      refine gy (St T201 m 55 #[vi p1, vi v198, vi v200, vi v202] []) (fun _ k => XS.icmpYes X201.here hx rfl (pc0 := 47) (pc' := 55) rfl (dk d8_47) rfl (feq c215).2 (by decide) (by decide) k) ?_
      obtain ⟨T220, h220, X220, e220, E220, A220, D220, -, st220⟩ := newO X201 hx hZ hown (wd hw 36 rfl) (wd hw 17 rfl) (wd hw 9 rfl) hh201 (g := (mkF m 55 #[vi p1, vi v198, vi v200, vi v202] [])) rfl (dk d8_55) (by decide) (by decide)
      obtain ⟨b220, g220⟩ : ∃ z, z = h0.size := ⟨_, rfl⟩
      rw [← g220] at A220 D220 st220
      have sz_b220 : h0.size ≤ b220 := Nat.le_of_eq g220.symm
      have C221 := C0.trans (CHr.ext E220 C0.1)
      have O221 := pr0.ext E220
      have Z221 : n0 ≤ h220.size := Nat.le_trans Z0 E220.1
      have Sf222_b220 : Safe Z own_EL s.vm h220 b220 := Safe.ext E220 C0.1 (Safe.new sz_b220)
      have F223 : Fld Z h220 b220 "java/lang/String" "value" "[B" .null := D220 (Or.inr (wd hw 30 rfl)) (ty := (.array .byte)) (by decide)
      have F224 : Fld Z h220 b220 "java/lang/String" "coder" "B" (.int 0) := D220 (Or.inr (wd hw 32 rfl)) (ty := .byte) (by decide)
      refine gy (St T220 m 58 #[vi p1, vi v198, vi v200, vi v202] [(.ref b220)]) st220 ?_
      refine gy (St T220 m 60 #[vi p1, vi v198, vi v200, vi v202] [(.int 2), (.ref b220), (.ref b220)]) (fun _ k => XS.dup X220.here hx rfl (dk d8_58) rfl rfl (XS.iconst X220.here hx rfl (dk d8_59) k)) ?_
      obtain ⟨T225, h225, k225, X225, e225, E225, A225, st225⟩ := newP X220 hx hZ (wd hw 37 rfl) e220 (g := (mkF m 60 #[vi p1, vi v198, vi v200, vi v202] [(.int 2), (.ref b220), (.ref b220)])) rfl (dk d8_60) rfl (by decide) (cap := 2) (by decide) (by decide) (by decide) (by decide)
      obtain ⟨b225, g225⟩ : ∃ z, z = h220.size := ⟨_, rfl⟩
      rw [← g225] at A225 st225
      have sz_b225 : h220.size ≤ b225 := Nat.le_of_eq g225.symm
      have V225 : Arv Z h225 b225 k225 .char (2 : Int32) [(.int 0), (.int 0)] (.int 0) := (Arv.new A225 (by decide)).pad (pad_rep [] (.int 0) 2)
      have Sf226_b220 := Safe.ext E225 C221.1 Sf222_b220
      have C226 := C221.trans (CHr.ext E225 C221.1)
      have O226 := O221.ext E225
      have Z226 : n0 ≤ h225.size := Nat.le_trans Z221 E225.1
      refine gy (St T225 m 62 #[vi p1, vi v198, vi v200, vi v202] [(.ref b225), (.ref b220), (.ref b220)]) st225 ?_
      refine gy (St T225 m 65 #[vi p1, vi v198, vi v200, vi v202] [(.int v200), (.int 0), (.ref b225), (.ref b225), (.ref b220), (.ref b220)]) (fun _ k => XS.dup X225.here hx rfl (dk d8_62) rfl rfl (XS.iconst X225.here hx rfl (dk d8_63) (XS.iloadN X225.here hx rfl (dk d8_64) rfl k))) ?_
      obtain ⟨cl227, Ar227, q227, S227, N_227, Hs227, G227⟩ := id V225
      have hin228 : ¬ ((0 : Int32) < 0 ∨ cl227.slots.size ≤ ((0 : Int32)).toNatClampNeg) := inb_of S227 ⟨by decide, by decide⟩
      obtain ⟨T228, h228, X228, e228, W228, st228⟩ := stC X225 hx hZ e225 Ar227 (j := (0 : Int32)) hin228 (g := (mkF m 65 #[vi p1, vi v198, vi v200, vi v202] [(.int v200), (.int 0), (.ref b225), (.ref b225), (.ref b220), (.ref b220)])) rfl rfl (dk d8_65)
      have Sf229_b220 := Safe.wr W228 (Safe.arv hZ.alike V225 nofun) C226.1 Sf226_b220
      have C229 := C226.trans (CHr.wr W228 (Safe.arv hZ.alike V225 nofun) C226.1)
      have O229 := O226.wr W228 (Nat.le_trans Z221 sz_b225)
      have Z229 : n0 ≤ h228.size := Nat.le_trans Z226 (Keep.of_wr W228).1
      have V228 : Arv Z h228 b225 k225 .char (2 : Int32) [(.int (nar .char v200)), (.int 0)] (.int 0) := Arv.set Ar227 q227 S227 N_227 Hs227 G227 (fits_nar_char _) W228 0 rfl (Nat.le_of_ble_eq_true rfl)
      have N228 := Fr.snoc X228 N201 (Nat.le_trans Z221 sz_b225)
      refine gy (St T228 m 66 #[vi p1, vi v198, vi v200, vi v202] [(.ref b225), (.ref b220), (.ref b220)]) st228 ?_
      refine gy (St T228 m 69 #[vi p1, vi v198, vi v200, vi v202] [(.int v202), (.int 1), (.ref b225), (.ref b225), (.ref b220), (.ref b220)]) (fun _ k => XS.dup X228.here hx rfl (dk d8_66) rfl rfl (XS.iconst X228.here hx rfl (dk d8_67) (XS.iloadN X228.here hx rfl (dk d8_68) rfl k))) ?_
      obtain ⟨cl230, Ar230, q230, S230, N_230, Hs230, G230⟩ := id V228
      have hin231 : ¬ ((1 : Int32) < 0 ∨ cl230.slots.size ≤ ((1 : Int32)).toNatClampNeg) := inb_of S230 ⟨by decide, by decide⟩
      obtain ⟨T231, h231, X231, e231, W231, st231⟩ := stC X228 hx hZ e228 Ar230 (j := (1 : Int32)) hin231 (g := (mkF m 69 #[vi p1, vi v198, vi v200, vi v202] [(.int v202), (.int 1), (.ref b225), (.ref b225), (.ref b220), (.ref b220)])) rfl rfl (dk d8_69)
      have Sf232_b220 := Safe.wr W231 (Safe.arv hZ.alike V228 nofun) C229.1 Sf229_b220
      have C232 := C229.trans (CHr.wr W231 (Safe.arv hZ.alike V228 nofun) C229.1)
      have O232 := O229.wr W231 (Nat.le_trans Z221 sz_b225)
      have Z232 : n0 ≤ h231.size := Nat.le_trans Z229 (Keep.of_wr W231).1
      have V231 : Arv Z h231 b225 k225 .char (2 : Int32) [(.int (nar .char v200)), (.int (nar .char v202))] (.int 0) := Arv.set Ar230 q230 S230 N_230 Hs230 G230 (fits_nar_char _) W231 1 rfl (Nat.le_of_ble_eq_true rfl)
      have N231 := Fr.snoc X231 N228 (Nat.le_trans Z221 sz_b225)
      refine gy (St T231 m 70 #[vi p1, vi v198, vi v200, vi v202] [(.ref b225), (.ref b220), (.ref b220)]) st231 ?_
      have f233 := (((A220.ext E225).wr W228).wr W231)
      have f234 := (((F223.ext E225).other W228 (Or.inl (Nat.ne_of_lt (Nat.lt_of_lt_of_le A220.lt sz_b225)))).other W231 (Or.inl (Nat.ne_of_lt (Nat.lt_of_lt_of_le A220.lt sz_b225))))
      have f235 := (((F224.ext E225).other W228 (Or.inl (Nat.ne_of_lt (Nat.lt_of_lt_of_le A220.lt sz_b225)))).other W231 (Or.inl (Nat.ne_of_lt (Nat.lt_of_lt_of_le A220.lt sz_b225))))
      obtain ⟨_, _, ⟨T236, L236, k236, n236⟩, -, X236, ⟨Lc236, hQ236, l236, y236, z236⟩, st236⟩ := X231.specialBack hx (y := Y20) rfl hown (mvT hZ (wd hw 38 rfl)) (mvT hZ (wd hw 39 rfl)) (mvT hZ (wd hw 40 rfl)) (by decide) (backOf (W := 1) (rm_sC_2 l Z a0 hw [] b220 b225 k225 (nar .char v200) (nar .char v202) cs h231 n0 Z232 O232 pr1 hcs f233 f234 f235 (Nat.le_trans Z0 sz_b220) V231 (by rw [hv200, own_ecn]; exact own_ecL _) (by rw [hv202, own_ecn]; exact own_ecL _)) hZ (wd hw 40 rfl) (wd hw 9 rfl) (by decide) (by decide)) (g := (mkF m 70 #[vi p1, vi v198, vi v200, vi v202] [(.ref b225), (.ref b220), (.ref b220)])) rfl (by rw [hml]; rfl) (Steps.refl _) (a := b220) (argsL := [(.ref b225)]) (rest := [(.ref b220)]) (lenOf pd_24 rfl) rfl (by show 2 * 0 + _ ≤ _; exact Nat.le_of_eq rfl) (dk d8_70) (fun _ _ => ⟨rfl, e231, Nat.le_of_ble_eq_true rfl, Nat.le_of_ble_eq_true rfl⟩)
      dsimp only [Pt.U, Pt.locs, Pt.cells, Pt.slots] at X236 l236 y236 z236 st236 hQ236
      subst l236 y236 z236
      obtain ⟨t236, k236, rfl, Nq236, K236, p236_0, p236_1, p236_2, p236_3, p236_4⟩ := hQ236
      have N236 := Fr.app N231 Nq236
      have X236 : Stand p l e _ _ m _ below meth c T236 _ 3 8 := X236
      have Sf237_b220 := Safe.keep K236 (sfS Sf232_b220 sf0) C232.1 Sf232_b220
      have C237 := C232.trans (CHr.keep K236 (sfS Sf232_b220 sf0) C232.1)
      have O237 := O232.keep K236 (allS (Nat.le_trans Z0 sz_b220) all0)
      have Z237 : n0 ≤ T236.heap.size := Nat.le_trans Z232 K236.1
      have sz_t236 : h231.size ≤ t236 := p236_4
      refine gy (St T236 m 73 #[vi p1, vi v198, vi v200, vi v202] [(.ref b220)]) (fun _ k => st236.trans k) ?_
      have hkE238 : _ ≤ T236.heap.size := (Nat.le_trans (Nat.le_trans (Nat.le_trans (Nat.le_trans (Nat.le_trans hk E220.1) E225.1) (Keep.of_wr W228).1) (Keep.of_wr W231).1) K236.1)
      have CE238 : CHr Z own_EL s.vm s.heap s.vm T236.heap := C237
      refine Go.retS X236 hx hlk hS hkE238 hZ hEL CE238 (t := (.object "java/lang/String")) hret rfl (Or.inr (Or.inr (Or.inr (Or.inr ⟨rfl, rfl, rfl⟩)))) (dk d8_73) (by decide) (by decide) ?_
      have ec239 : own_en p1 = [v200, v202] := by
        rw [hv200, hv202]
        exact (if_neg (by rw [← hv198]; exact c203)).trans (if_neg (by rw [← hv198]; exact c215))
      have V239 : Arv Z T236.heap t236 k236 .byte (own_z (own_en p1)) (own_vs (own_en p1)) (.int 0) := by
        rw [ec239]
        have q := p236_3
        have nv200 : nar .char v200 = v200 := by rw [hv200]; exact own_ecn _
        have nv202 : nar .char v202 = v202 := by rw [hv202]; exact own_ecn _
        simp only [nv200, nv202, own_lo] at q
        exact q
      exact ⟨b220, t236, k236, rfl, N236, ((((((Keep.refl h0 []).ext E220).ext E225).wr W228 (Or.inr (Nat.le_trans (Nat.le_trans (Nat.le_refl _) E220.1) sz_b225))).wr W231 (Or.inr (Nat.le_trans (Nat.le_trans (Nat.le_refl _) E220.1) sz_b225))).trans K236 (allS (Or.inr (Nat.le_trans (Nat.le_refl _) sz_b220)) all0)), p236_0, p236_1, p236_2, V239, (Nat.le_trans (Nat.le_refl _) sz_b220)⟩
theorem ef_rm_ad4n (m : MethodId) (x0 : Addr) (x1 : Addr) (x2 : Addr) (x4 : Addr) : entryFrame m #[(.ref x0), (.ref x1), (.ref x2), .null, (.ref x4)] 5 = mkF m 0 #[vr x0, vr x1, vr x2, .val .null, vr x4] [] := by first | (simp [entryFrame, mkF, argsToLocals, Value.category]; done) | rfl
theorem d38_0 : decode prog_1_method_2_code 0 = .ok (.aload_n 0, 1) := by decide +kernel
theorem d38_1 : decode prog_1_method_2_code 1 = .ok (.invokespecial 23, 3) := by decide +kernel
theorem d38_4 : decode prog_1_method_2_code 4 = .ok (.aload_n 0, 1) := by decide +kernel
theorem d38_5 : decode prog_1_method_2_code 5 = .ok (.aload_n 1, 1) := by decide +kernel
theorem d38_6 : decode prog_1_method_2_code 6 = .ok (.putfield 26, 3) := by decide +kernel
theorem d38_9 : decode prog_1_method_2_code 9 = .ok (.aload_n 0, 1) := by decide +kernel
theorem d38_10 : decode prog_1_method_2_code 10 = .ok (.aload_n 2, 1) := by decide +kernel
theorem d38_11 : decode prog_1_method_2_code 11 = .ok (.putfield 30, 3) := by decide +kernel
theorem d38_14 : decode prog_1_method_2_code 14 = .ok (.aload_n 0, 1) := by decide +kernel
theorem d38_15 : decode prog_1_method_2_code 15 = .ok (.aload_n 3, 1) := by decide +kernel
theorem d38_16 : decode prog_1_method_2_code 16 = .ok (.putfield 33, 3) := by decide +kernel
theorem d38_19 : decode prog_1_method_2_code 19 = .ok (.aload_n 0, 1) := by decide +kernel
theorem d38_20 : decode prog_1_method_2_code 20 = .ok (.aload 4, 2) := by decide +kernel
theorem d38_22 : decode prog_1_method_2_code 22 = .ok (.putfield 36, 3) := by decide +kernel
theorem d38_25 : decode prog_1_method_2_code 25 = .ok (.return_, 1) := by decide +kernel
theorem pn_com_example_breakwater_breakwater_engine_Address : plainName "com/example/breakwater/breakwater/engine/Address" = true := by first | (simp [plainName, overriddenIn]; done) | decide +kernel
def Q_rm_ad4n (Z : State) (a1 : Addr) (x1 : Addr) (x2 : Addr) (x4 : Addr) (h0 : Heap) (n0 : Nat) (vv : Option Value) (h : Heap) (L : List Loc) : Prop := vv = none ∧ Fr n0 L ∧ Keep h0 h [a1] ∧ Exa Z h a1 "com/example/breakwater/breakwater/engine/Address" ∧ Fld Z h a1 "com/example/breakwater/breakwater/engine/Address" "scope" "Ljava/lang/String;" (.ref x1) ∧ Fld Z h a1 "com/example/breakwater/breakwater/engine/Address" "service" "Ljava/lang/String;" (.ref x2) ∧ Fld Z h a1 "com/example/breakwater/breakwater/engine/Address" "endpoint" "Ljava/lang/String;" .null ∧ Fld Z h a1 "com/example/breakwater/breakwater/engine/Address" "text" "Ljava/lang/String;" (.ref x4)
set_option maxRecDepth 65536 in
set_option maxHeartbeats 40000000 in
theorem rm_ad4n (l : Launch) (Z : State) (a0 : Array Value) (hw : HW a0 Z) (ws : List Jvm.Cond) (a1 : Addr) (x1 : Addr) (x2 : Addr) (x4 : Addr) (h0 : Heap) (n0 : Nat) (Z0 : n0 ≤ h0.size) (pr0 : Old Z n0 h0) (pr1 : Exa Z h0 a1 "com/example/breakwater/breakwater/engine/Address") (pr2 : Fld Z h0 a1 "com/example/breakwater/breakwater/engine/Address" "scope" "Ljava/lang/String;" .null) (pr3 : Fld Z h0 a1 "com/example/breakwater/breakwater/engine/Address" "service" "Ljava/lang/String;" .null) (pr4 : Fld Z h0 a1 "com/example/breakwater/breakwater/engine/Address" "endpoint" "Ljava/lang/String;" .null) (pr5 : Fld Z h0 a1 "com/example/breakwater/breakwater/engine/Address" "text" "Ljava/lang/String;" .null) (pr6 : n0 ≤ a1) :
    Met l Z Y1 prog_1_method_2_code 5 none ws ({ frames := 1, cells := 0, slots := 0, locals := 12 } : Room) #[(.ref a1), (.ref x1), (.ref x2), .null, (.ref x4)] h0 (Q_rm_ad4n Z a1 x1 x2 x4 h0 n0) := by
  refine Met.enter (f0 := fun m => mkF m 0 #[vr a1, vr x1, vr x2, .val .null, vr x4] []) (plainFor_of_name pn_com_example_breakwater_breakwater_engine_Address) (fun m => ef_rm_ad4n m a1 x1 x2 x4) ?_
  intro p e s m below meth c s₁ hx hby hml hown hnm hret hlk hZ X0 e0
  have hown : s.vm.findClass "com/example/breakwater/breakwater/engine/Address" = some m.cls := hown
  have hnm : meth.name = "<init>" := hnm
  have hml : c.maxLocals = 5 := hml
  have dk : ∀ {i : Nat} {r : Except DecodeError (Instr × Nat)}, decode prog_1_method_2_code i = r → decode c.code i = r := fun h => hb hby h
  have N0 := Fr.nil n0
  refine gy (St s₁ m 1 #[vr a1, vr x1, vr x2, .val .null, vr x4] [(.ref a1)]) (fun _ k => XS.aloadN X0.here hx rfl (dk d38_0) rfl rfl k) ?_
  obtain ⟨T240, X240, e240, st240⟩ := initO X0 hx hZ hown (wd hw 184 rfl) (wd hw 27 rfl) (wd hw 28 rfl) e0 (g := (mkF m 1 #[vr a1, vr x1, vr x2, .val .null, vr x4] [(.ref a1)])) rfl (by rw [hml]; rfl) rfl (dk d38_1) (by decide) (W := 0) (by show 2 * 0 + _ ≤ _; exact Nat.le_of_eq rfl) (by decide)
  refine gy (St T240 m 4 #[vr a1, vr x1, vr x2, .val .null, vr x4] []) st240 ?_
  refine gy (St T240 m 6 #[vr a1, vr x1, vr x2, .val .null, vr x4] [(.ref x1), (.ref a1)]) (fun _ k => XS.aloadN X240.here hx rfl (dk d38_4) rfl rfl (XS.aloadN X240.here hx rfl (dk d38_5) rfl rfl k)) ?_
  obtain ⟨T241, h241, X241, e241, W241, st241⟩ := putF X240 hx hZ hown (host := "") (Or.inl (wd hw 185 rfl)) Via.refl e240 pr2 pr1 (Or.inr ⟨(wd hw 186 rfl), rfl, hnm⟩) (wd hw 55 rfl) (ty := (.object "java/lang/String")) (by decide) rfl rfl (g := (mkF m 6 #[vr a1, vr x1, vr x2, .val .null, vr x4] [(.ref x1), (.ref a1)])) rfl rfl (dk d38_6)
  have N241 := Fr.snoc X241 N0 pr6
  have O242 := pr0.wr W241 pr6
  have Z242 : n0 ≤ h241.size := Nat.le_trans Z0 (Keep.of_wr W241).1
  have F241 := pr2.same W241
  refine gy (St T241 m 9 #[vr a1, vr x1, vr x2, .val .null, vr x4] []) st241 ?_
  refine gy (St T241 m 11 #[vr a1, vr x1, vr x2, .val .null, vr x4] [(.ref x2), (.ref a1)]) (fun _ k => XS.aloadN X241.here hx rfl (dk d38_9) rfl rfl (XS.aloadN X241.here hx rfl (dk d38_10) rfl rfl k)) ?_
  have f243 := (pr3.other W241 (Or.inr (slot_ne (Or.inr (wd hw 188 rfl)) (Or.inr (wd hw 186 rfl)) (by decide) (t := (.object "java/lang/String")) (t' := (.object "java/lang/String")) (by decide) (by decide))))
  obtain ⟨T244, h244, X244, e244, W244, st244⟩ := putF X241 hx hZ hown (host := "") (Or.inl (wd hw 187 rfl)) Via.refl e241 f243 (pr1.wr W241) (Or.inr ⟨(wd hw 188 rfl), rfl, hnm⟩) (wd hw 55 rfl) (ty := (.object "java/lang/String")) (by decide) rfl rfl (g := (mkF m 11 #[vr a1, vr x1, vr x2, .val .null, vr x4] [(.ref x2), (.ref a1)])) rfl rfl (dk d38_11)
  have N244 := Fr.snoc X244 N241 pr6
  have O245 := O242.wr W244 pr6
  have Z245 : n0 ≤ h244.size := Nat.le_trans Z242 (Keep.of_wr W244).1
  have F244 := f243.same W244
  refine gy (St T244 m 14 #[vr a1, vr x1, vr x2, .val .null, vr x4] []) st244 ?_
  refine gy (St T244 m 16 #[vr a1, vr x1, vr x2, .val .null, vr x4] [.null, (.ref a1)]) (fun _ k => XS.aloadN X244.here hx rfl (dk d38_14) rfl rfl (XS.aloadN X244.here hx rfl (dk d38_15) rfl rfl k)) ?_
  have f246 := ((pr4.other W241 (Or.inr (slot_ne (Or.inr (wd hw 190 rfl)) (Or.inr (wd hw 186 rfl)) (by decide) (t := (.object "java/lang/String")) (t' := (.object "java/lang/String")) (by decide) (by decide)))).other W244 (Or.inr (slot_ne (Or.inr (wd hw 190 rfl)) (Or.inr (wd hw 188 rfl)) (by decide) (t := (.object "java/lang/String")) (t' := (.object "java/lang/String")) (by decide) (by decide))))
  obtain ⟨T247, h247, X247, e247, W247, st247⟩ := putF X244 hx hZ hown (host := "") (Or.inl (wd hw 189 rfl)) Via.refl e244 f246 ((pr1.wr W241).wr W244) (Or.inr ⟨(wd hw 190 rfl), rfl, hnm⟩) (wd hw 55 rfl) (ty := (.object "java/lang/String")) (by decide) rfl rfl (g := (mkF m 16 #[vr a1, vr x1, vr x2, .val .null, vr x4] [.null, (.ref a1)])) rfl rfl (dk d38_16)
  have N247 := Fr.snoc X247 N244 pr6
  have O248 := O245.wr W247 pr6
  have Z248 : n0 ≤ h247.size := Nat.le_trans Z245 (Keep.of_wr W247).1
  have F247 := f246.same W247
  refine gy (St T247 m 19 #[vr a1, vr x1, vr x2, .val .null, vr x4] []) st247 ?_
  refine gy (St T247 m 22 #[vr a1, vr x1, vr x2, .val .null, vr x4] [(.ref x4), (.ref a1)]) (fun _ k => XS.aloadN X247.here hx rfl (dk d38_19) rfl rfl (XS.aload X247.here hx rfl (dk d38_20) rfl rfl k)) ?_
  have f249 := (((pr5.other W241 (Or.inr (slot_ne (Or.inr (wd hw 192 rfl)) (Or.inr (wd hw 186 rfl)) (by decide) (t := (.object "java/lang/String")) (t' := (.object "java/lang/String")) (by decide) (by decide)))).other W244 (Or.inr (slot_ne (Or.inr (wd hw 192 rfl)) (Or.inr (wd hw 188 rfl)) (by decide) (t := (.object "java/lang/String")) (t' := (.object "java/lang/String")) (by decide) (by decide)))).other W247 (Or.inr (slot_ne (Or.inr (wd hw 192 rfl)) (Or.inr (wd hw 190 rfl)) (by decide) (t := (.object "java/lang/String")) (t' := (.object "java/lang/String")) (by decide) (by decide))))
  have f250 := (((pr1.wr W241).wr W244).wr W247)
  obtain ⟨T251, h251, X251, e251, W251, st251⟩ := putF X247 hx hZ hown (host := "") (Or.inl (wd hw 191 rfl)) Via.refl e247 f249 f250 (Or.inr ⟨(wd hw 192 rfl), rfl, hnm⟩) (wd hw 55 rfl) (ty := (.object "java/lang/String")) (by decide) rfl rfl (g := (mkF m 22 #[vr a1, vr x1, vr x2, .val .null, vr x4] [(.ref x4), (.ref a1)])) rfl rfl (dk d38_22)
  have N251 := Fr.snoc X251 N247 pr6
  have O252 := O248.wr W251 pr6
  have Z252 : n0 ≤ h251.size := Nat.le_trans Z248 (Keep.of_wr W251).1
  have F251 := f249.same W251
  refine gy (St T251 m 25 #[vr a1, vr x1, vr x2, .val .null, vr x4] []) st251 ?_
  refine Go.retV X251 hx hlk hret (dk d38_25) (by decide) (by decide) ?_
  rw [e251]
  exact ⟨rfl, N251, (((((Keep.refl h0 [a1]).wr W241 (Or.inl (List.mem_of_getElem? (i := 0) rfl))).wr W244 (Or.inl (List.mem_of_getElem? (i := 0) rfl))).wr W247 (Or.inl (List.mem_of_getElem? (i := 0) rfl))).wr W251 (Or.inl (List.mem_of_getElem? (i := 0) rfl))), (f250.wr W251), (((F241.other W244 (Or.inr (slot_ne (Or.inr (wd hw 186 rfl)) (Or.inr (wd hw 188 rfl)) (by decide) (t := (.object "java/lang/String")) (t' := (.object "java/lang/String")) (by decide) (by decide)))).other W247 (Or.inr (slot_ne (Or.inr (wd hw 186 rfl)) (Or.inr (wd hw 190 rfl)) (by decide) (t := (.object "java/lang/String")) (t' := (.object "java/lang/String")) (by decide) (by decide)))).other W251 (Or.inr (slot_ne (Or.inr (wd hw 186 rfl)) (Or.inr (wd hw 192 rfl)) (by decide) (t := (.object "java/lang/String")) (t' := (.object "java/lang/String")) (by decide) (by decide)))), ((F244.other W247 (Or.inr (slot_ne (Or.inr (wd hw 188 rfl)) (Or.inr (wd hw 190 rfl)) (by decide) (t := (.object "java/lang/String")) (t' := (.object "java/lang/String")) (by decide) (by decide)))).other W251 (Or.inr (slot_ne (Or.inr (wd hw 188 rfl)) (Or.inr (wd hw 192 rfl)) (by decide) (t := (.object "java/lang/String")) (t' := (.object "java/lang/String")) (by decide) (by decide)))), (F247.other W251 (Or.inr (slot_ne (Or.inr (wd hw 190 rfl)) (Or.inr (wd hw 192 rfl)) (by decide) (t := (.object "java/lang/String")) (t' := (.object "java/lang/String")) (by decide) (by decide)))), F251⟩
theorem ef_rm_ad4s (m : MethodId) (x0 : Addr) (x1 : Addr) (x2 : Addr) (x3 : Addr) (x4 : Addr) : entryFrame m #[(.ref x0), (.ref x1), (.ref x2), (.ref x3), (.ref x4)] 5 = mkF m 0 #[vr x0, vr x1, vr x2, vr x3, vr x4] [] := by first | (simp [entryFrame, mkF, argsToLocals, Value.category]; done) | rfl
def Q_rm_ad4s (Z : State) (a1 : Addr) (x1 : Addr) (x2 : Addr) (x3 : Addr) (x4 : Addr) (h0 : Heap) (n0 : Nat) (vv : Option Value) (h : Heap) (L : List Loc) : Prop := vv = none ∧ Fr n0 L ∧ Keep h0 h [a1] ∧ Exa Z h a1 "com/example/breakwater/breakwater/engine/Address" ∧ Fld Z h a1 "com/example/breakwater/breakwater/engine/Address" "scope" "Ljava/lang/String;" (.ref x1) ∧ Fld Z h a1 "com/example/breakwater/breakwater/engine/Address" "service" "Ljava/lang/String;" (.ref x2) ∧ Fld Z h a1 "com/example/breakwater/breakwater/engine/Address" "endpoint" "Ljava/lang/String;" (.ref x3) ∧ Fld Z h a1 "com/example/breakwater/breakwater/engine/Address" "text" "Ljava/lang/String;" (.ref x4)
set_option maxRecDepth 65536 in
set_option maxHeartbeats 40000000 in
theorem rm_ad4s (l : Launch) (Z : State) (a0 : Array Value) (hw : HW a0 Z) (ws : List Jvm.Cond) (a1 : Addr) (x1 : Addr) (x2 : Addr) (x3 : Addr) (x4 : Addr) (h0 : Heap) (n0 : Nat) (Z0 : n0 ≤ h0.size) (pr0 : Old Z n0 h0) (pr1 : Exa Z h0 a1 "com/example/breakwater/breakwater/engine/Address") (pr2 : Fld Z h0 a1 "com/example/breakwater/breakwater/engine/Address" "scope" "Ljava/lang/String;" .null) (pr3 : Fld Z h0 a1 "com/example/breakwater/breakwater/engine/Address" "service" "Ljava/lang/String;" .null) (pr4 : Fld Z h0 a1 "com/example/breakwater/breakwater/engine/Address" "endpoint" "Ljava/lang/String;" .null) (pr5 : Fld Z h0 a1 "com/example/breakwater/breakwater/engine/Address" "text" "Ljava/lang/String;" .null) (pr6 : n0 ≤ a1) :
    Met l Z Y1 prog_1_method_2_code 5 none ws ({ frames := 1, cells := 0, slots := 0, locals := 12 } : Room) #[(.ref a1), (.ref x1), (.ref x2), (.ref x3), (.ref x4)] h0 (Q_rm_ad4s Z a1 x1 x2 x3 x4 h0 n0) := by
  refine Met.enter (f0 := fun m => mkF m 0 #[vr a1, vr x1, vr x2, vr x3, vr x4] []) (plainFor_of_name pn_com_example_breakwater_breakwater_engine_Address) (fun m => ef_rm_ad4s m a1 x1 x2 x3 x4) ?_
  intro p e s m below meth c s₁ hx hby hml hown hnm hret hlk hZ X0 e0
  have hown : s.vm.findClass "com/example/breakwater/breakwater/engine/Address" = some m.cls := hown
  have hnm : meth.name = "<init>" := hnm
  have hml : c.maxLocals = 5 := hml
  have dk : ∀ {i : Nat} {r : Except DecodeError (Instr × Nat)}, decode prog_1_method_2_code i = r → decode c.code i = r := fun h => hb hby h
  have N0 := Fr.nil n0
  refine gy (St s₁ m 1 #[vr a1, vr x1, vr x2, vr x3, vr x4] [(.ref a1)]) (fun _ k => XS.aloadN X0.here hx rfl (dk d38_0) rfl rfl k) ?_
  obtain ⟨T253, X253, e253, st253⟩ := initO X0 hx hZ hown (wd hw 184 rfl) (wd hw 27 rfl) (wd hw 28 rfl) e0 (g := (mkF m 1 #[vr a1, vr x1, vr x2, vr x3, vr x4] [(.ref a1)])) rfl (by rw [hml]; rfl) rfl (dk d38_1) (by decide) (W := 0) (by show 2 * 0 + _ ≤ _; exact Nat.le_of_eq rfl) (by decide)
  refine gy (St T253 m 4 #[vr a1, vr x1, vr x2, vr x3, vr x4] []) st253 ?_
  refine gy (St T253 m 6 #[vr a1, vr x1, vr x2, vr x3, vr x4] [(.ref x1), (.ref a1)]) (fun _ k => XS.aloadN X253.here hx rfl (dk d38_4) rfl rfl (XS.aloadN X253.here hx rfl (dk d38_5) rfl rfl k)) ?_
  obtain ⟨T254, h254, X254, e254, W254, st254⟩ := putF X253 hx hZ hown (host := "") (Or.inl (wd hw 185 rfl)) Via.refl e253 pr2 pr1 (Or.inr ⟨(wd hw 186 rfl), rfl, hnm⟩) (wd hw 55 rfl) (ty := (.object "java/lang/String")) (by decide) rfl rfl (g := (mkF m 6 #[vr a1, vr x1, vr x2, vr x3, vr x4] [(.ref x1), (.ref a1)])) rfl rfl (dk d38_6)
  have N254 := Fr.snoc X254 N0 pr6
  have O255 := pr0.wr W254 pr6
  have Z255 : n0 ≤ h254.size := Nat.le_trans Z0 (Keep.of_wr W254).1
  have F254 := pr2.same W254
  refine gy (St T254 m 9 #[vr a1, vr x1, vr x2, vr x3, vr x4] []) st254 ?_
  refine gy (St T254 m 11 #[vr a1, vr x1, vr x2, vr x3, vr x4] [(.ref x2), (.ref a1)]) (fun _ k => XS.aloadN X254.here hx rfl (dk d38_9) rfl rfl (XS.aloadN X254.here hx rfl (dk d38_10) rfl rfl k)) ?_
  have f256 := (pr3.other W254 (Or.inr (slot_ne (Or.inr (wd hw 188 rfl)) (Or.inr (wd hw 186 rfl)) (by decide) (t := (.object "java/lang/String")) (t' := (.object "java/lang/String")) (by decide) (by decide))))
  obtain ⟨T257, h257, X257, e257, W257, st257⟩ := putF X254 hx hZ hown (host := "") (Or.inl (wd hw 187 rfl)) Via.refl e254 f256 (pr1.wr W254) (Or.inr ⟨(wd hw 188 rfl), rfl, hnm⟩) (wd hw 55 rfl) (ty := (.object "java/lang/String")) (by decide) rfl rfl (g := (mkF m 11 #[vr a1, vr x1, vr x2, vr x3, vr x4] [(.ref x2), (.ref a1)])) rfl rfl (dk d38_11)
  have N257 := Fr.snoc X257 N254 pr6
  have O258 := O255.wr W257 pr6
  have Z258 : n0 ≤ h257.size := Nat.le_trans Z255 (Keep.of_wr W257).1
  have F257 := f256.same W257
  refine gy (St T257 m 14 #[vr a1, vr x1, vr x2, vr x3, vr x4] []) st257 ?_
  refine gy (St T257 m 16 #[vr a1, vr x1, vr x2, vr x3, vr x4] [(.ref x3), (.ref a1)]) (fun _ k => XS.aloadN X257.here hx rfl (dk d38_14) rfl rfl (XS.aloadN X257.here hx rfl (dk d38_15) rfl rfl k)) ?_
  have f259 := ((pr4.other W254 (Or.inr (slot_ne (Or.inr (wd hw 190 rfl)) (Or.inr (wd hw 186 rfl)) (by decide) (t := (.object "java/lang/String")) (t' := (.object "java/lang/String")) (by decide) (by decide)))).other W257 (Or.inr (slot_ne (Or.inr (wd hw 190 rfl)) (Or.inr (wd hw 188 rfl)) (by decide) (t := (.object "java/lang/String")) (t' := (.object "java/lang/String")) (by decide) (by decide))))
  obtain ⟨T260, h260, X260, e260, W260, st260⟩ := putF X257 hx hZ hown (host := "") (Or.inl (wd hw 189 rfl)) Via.refl e257 f259 ((pr1.wr W254).wr W257) (Or.inr ⟨(wd hw 190 rfl), rfl, hnm⟩) (wd hw 55 rfl) (ty := (.object "java/lang/String")) (by decide) rfl rfl (g := (mkF m 16 #[vr a1, vr x1, vr x2, vr x3, vr x4] [(.ref x3), (.ref a1)])) rfl rfl (dk d38_16)
  have N260 := Fr.snoc X260 N257 pr6
  have O261 := O258.wr W260 pr6
  have Z261 : n0 ≤ h260.size := Nat.le_trans Z258 (Keep.of_wr W260).1
  have F260 := f259.same W260
  refine gy (St T260 m 19 #[vr a1, vr x1, vr x2, vr x3, vr x4] []) st260 ?_
  refine gy (St T260 m 22 #[vr a1, vr x1, vr x2, vr x3, vr x4] [(.ref x4), (.ref a1)]) (fun _ k => XS.aloadN X260.here hx rfl (dk d38_19) rfl rfl (XS.aload X260.here hx rfl (dk d38_20) rfl rfl k)) ?_
  have f262 := (((pr5.other W254 (Or.inr (slot_ne (Or.inr (wd hw 192 rfl)) (Or.inr (wd hw 186 rfl)) (by decide) (t := (.object "java/lang/String")) (t' := (.object "java/lang/String")) (by decide) (by decide)))).other W257 (Or.inr (slot_ne (Or.inr (wd hw 192 rfl)) (Or.inr (wd hw 188 rfl)) (by decide) (t := (.object "java/lang/String")) (t' := (.object "java/lang/String")) (by decide) (by decide)))).other W260 (Or.inr (slot_ne (Or.inr (wd hw 192 rfl)) (Or.inr (wd hw 190 rfl)) (by decide) (t := (.object "java/lang/String")) (t' := (.object "java/lang/String")) (by decide) (by decide))))
  have f263 := (((pr1.wr W254).wr W257).wr W260)
  obtain ⟨T264, h264, X264, e264, W264, st264⟩ := putF X260 hx hZ hown (host := "") (Or.inl (wd hw 191 rfl)) Via.refl e260 f262 f263 (Or.inr ⟨(wd hw 192 rfl), rfl, hnm⟩) (wd hw 55 rfl) (ty := (.object "java/lang/String")) (by decide) rfl rfl (g := (mkF m 22 #[vr a1, vr x1, vr x2, vr x3, vr x4] [(.ref x4), (.ref a1)])) rfl rfl (dk d38_22)
  have N264 := Fr.snoc X264 N260 pr6
  have O265 := O261.wr W264 pr6
  have Z265 : n0 ≤ h264.size := Nat.le_trans Z261 (Keep.of_wr W264).1
  have F264 := f262.same W264
  refine gy (St T264 m 25 #[vr a1, vr x1, vr x2, vr x3, vr x4] []) st264 ?_
  refine Go.retV X264 hx hlk hret (dk d38_25) (by decide) (by decide) ?_
  rw [e264]
  exact ⟨rfl, N264, (((((Keep.refl h0 [a1]).wr W254 (Or.inl (List.mem_of_getElem? (i := 0) rfl))).wr W257 (Or.inl (List.mem_of_getElem? (i := 0) rfl))).wr W260 (Or.inl (List.mem_of_getElem? (i := 0) rfl))).wr W264 (Or.inl (List.mem_of_getElem? (i := 0) rfl))), (f263.wr W264), (((F254.other W257 (Or.inr (slot_ne (Or.inr (wd hw 186 rfl)) (Or.inr (wd hw 188 rfl)) (by decide) (t := (.object "java/lang/String")) (t' := (.object "java/lang/String")) (by decide) (by decide)))).other W260 (Or.inr (slot_ne (Or.inr (wd hw 186 rfl)) (Or.inr (wd hw 190 rfl)) (by decide) (t := (.object "java/lang/String")) (t' := (.object "java/lang/String")) (by decide) (by decide)))).other W264 (Or.inr (slot_ne (Or.inr (wd hw 186 rfl)) (Or.inr (wd hw 192 rfl)) (by decide) (t := (.object "java/lang/String")) (t' := (.object "java/lang/String")) (by decide) (by decide)))), ((F257.other W260 (Or.inr (slot_ne (Or.inr (wd hw 188 rfl)) (Or.inr (wd hw 190 rfl)) (by decide) (t := (.object "java/lang/String")) (t' := (.object "java/lang/String")) (by decide) (by decide)))).other W264 (Or.inr (slot_ne (Or.inr (wd hw 188 rfl)) (Or.inr (wd hw 192 rfl)) (by decide) (t := (.object "java/lang/String")) (t' := (.object "java/lang/String")) (by decide) (by decide)))), (F260.other W264 (Or.inr (slot_ne (Or.inr (wd hw 190 rfl)) (Or.inr (wd hw 192 rfl)) (by decide) (t := (.object "java/lang/String")) (t' := (.object "java/lang/String")) (by decide) (by decide)))), F264⟩
theorem ef_rm_ad3n (m : MethodId) (x0 : Addr) (x1 : Addr) (x2 : Addr) : entryFrame m #[(.ref x0), (.ref x1), (.ref x2), .null] 4 = mkF m 0 #[vr x0, vr x1, vr x2, .val .null] [] := by first | (simp [entryFrame, mkF, argsToLocals, Value.category]; done) | rfl
theorem d14_0 : decode prog_1_method_1_code 0 = .ok (.aload_n 0, 1) := by decide +kernel
theorem d14_1 : decode prog_1_method_1_code 1 = .ok (.aload_n 1, 1) := by decide +kernel
theorem d14_2 : decode prog_1_method_1_code 2 = .ok (.aload_n 2, 1) := by decide +kernel
theorem d14_3 : decode prog_1_method_1_code 3 = .ok (.aload_n 3, 1) := by decide +kernel
theorem d14_4 : decode prog_1_method_1_code 4 = .ok (.aload_n 3, 1) := by decide +kernel
theorem d14_5 : decode prog_1_method_1_code 5 = .ok (.ifnonnull 29, 3) := by decide +kernel
theorem d14_8 : decode prog_1_method_1_code 8 = .ok (.new 1, 3) := by decide +kernel
theorem d14_11 : decode prog_1_method_1_code 11 = .ok (.dup, 1) := by decide +kernel
theorem d14_12 : decode prog_1_method_1_code 12 = .ok (.invokespecial 3, 3) := by decide +kernel
theorem pd_25 : parseMethodDescriptor "()V" = some ⟨[], none⟩ := by decide +kernel
theorem d14_15 : decode prog_1_method_1_code 15 = .ok (.aload_n 1, 1) := by decide +kernel
theorem d14_16 : decode prog_1_method_1_code 16 = .ok (.invokevirtual 7, 3) := by decide +kernel
theorem pd_26 : parseMethodDescriptor "(Ljava/lang/String;)Ljava/lang/StringBuilder;" = some ⟨[(.object "java/lang/String")], some (.object "java/lang/StringBuilder")⟩ := by decide +kernel
theorem d14_19 : decode prog_1_method_1_code 19 = .ok (.bipush 58, 2) := by decide +kernel
theorem d14_21 : decode prog_1_method_1_code 21 = .ok (.invokevirtual 11, 3) := by decide +kernel
theorem pd_27 : parseMethodDescriptor "(C)Ljava/lang/StringBuilder;" = some ⟨[.char], some (.object "java/lang/StringBuilder")⟩ := by decide +kernel
theorem d14_24 : decode prog_1_method_1_code 24 = .ok (.aload_n 2, 1) := by decide +kernel
theorem d14_25 : decode prog_1_method_1_code 25 = .ok (.invokevirtual 7, 3) := by decide +kernel
theorem d14_28 : decode prog_1_method_1_code 28 = .ok (.invokevirtual 14, 3) := by decide +kernel
theorem pd_28 : parseMethodDescriptor "()Ljava/lang/String;" = some ⟨[], some (.object "java/lang/String")⟩ := by decide +kernel
theorem d14_31 : decode prog_1_method_1_code 31 = .ok (.goto 35, 3) := by decide +kernel
theorem d14_66 : decode prog_1_method_1_code 66 = .ok (.invokespecial 18, 3) := by decide +kernel
theorem pd_29 : parseMethodDescriptor "(Ljava/lang/String;Ljava/lang/String;Ljava/lang/String;Ljava/lang/String;)V" = some ⟨[(.object "java/lang/String"), (.object "java/lang/String"), (.object "java/lang/String"), (.object "java/lang/String")], none⟩ := by decide +kernel
theorem d14_69 : decode prog_1_method_1_code 69 = .ok (.return_, 1) := by decide +kernel
def Q_rm_ad3n (Z : State) (a1 : Addr) (s1 : Addr) (st1 : Addr) (sk1 : ClassId) (c1 : List Int32) (s2 : Addr) (st2 : Addr) (sk2 : ClassId) (c2 : List Int32) (cs : Int32) (h0 : Heap) (n0 : Nat) (vv : Option Value) (h : Heap) (L : List Loc) : Prop := ∃ b : Addr, ∃ t : Addr, ∃ k : ClassId, vv = none ∧ Fr n0 L ∧ Keep h0 h [a1] ∧ Exa Z h a1 "com/example/breakwater/breakwater/engine/Address" ∧ Fld Z h a1 "com/example/breakwater/breakwater/engine/Address" "text" "Ljava/lang/String;" (.ref b) ∧ Exa Z h b "java/lang/String" ∧ Fld Z h b "java/lang/String" "value" "[B" (.ref t) ∧ Fld Z h b "java/lang/String" "coder" "B" (.int 0) ∧ Arv Z h t k .byte (own_z (own_tN c1 c2)) (own_vs (own_tN c1 c2)) (.int 0)
set_option maxRecDepth 65536 in
set_option maxHeartbeats 40000000 in
theorem rm_ad3n (l : Launch) (Z : State) (a0 : Array Value) (hw : HW a0 Z) (ws : List Jvm.Cond) (a1 : Addr) (s1 : Addr) (st1 : Addr) (sk1 : ClassId) (c1 : List Int32) (s2 : Addr) (st2 : Addr) (sk2 : ClassId) (c2 : List Int32) (cs : Int32) (h0 : Heap) (n0 : Nat) (Z0 : n0 ≤ h0.size) (pr0 : Old Z n0 h0) (pr1 : Sta Z Z.heap "java/lang/String" "COMPACT_STRINGS" "Z" (.int cs)) (hcs : ¬ (cs = (0 : Int32))) (pr3 : Exa Z h0 a1 "com/example/breakwater/breakwater/engine/Address") (pr4 : Fld Z h0 a1 "com/example/breakwater/breakwater/engine/Address" "scope" "Ljava/lang/String;" .null) (pr5 : Fld Z h0 a1 "com/example/breakwater/breakwater/engine/Address" "service" "Ljava/lang/String;" .null) (pr6 : Fld Z h0 a1 "com/example/breakwater/breakwater/engine/Address" "endpoint" "Ljava/lang/String;" .null) (pr7 : Fld Z h0 a1 "com/example/breakwater/breakwater/engine/Address" "text" "Ljava/lang/String;" .null) (pr8 : n0 ≤ a1) (pr9 : Exa Z h0 s1 "java/lang/String") (pr10 : Fld Z h0 s1 "java/lang/String" "value" "[B" (.ref st1)) (pr11 : Fld Z h0 s1 "java/lang/String" "coder" "B" (.int 0)) (pr12 : Arv Z h0 st1 sk1 .byte (own_z c1) (own_vs c1) (.int 0)) (hl1 : c1.length ≤ 2) (pr14 : Exa Z h0 s2 "java/lang/String") (pr15 : Fld Z h0 s2 "java/lang/String" "value" "[B" (.ref st2)) (pr16 : Fld Z h0 s2 "java/lang/String" "coder" "B" (.int 0)) (pr17 : Arv Z h0 st2 sk2 .byte (own_z c2) (own_vs c2) (.int 0)) (hl2 : c2.length ≤ 2) :
    Met l Z Y0 prog_1_method_1_code 4 none ws ({ frames := 6, cells := 4, slots := 40, locals := 95 } : Room) #[(.ref a1), (.ref s1), (.ref s2), .null] h0 (Q_rm_ad3n Z a1 s1 st1 sk1 c1 s2 st2 sk2 c2 cs h0 n0) := by
  refine Met.enter (f0 := fun m => mkF m 0 #[vr a1, vr s1, vr s2, .val .null] []) (plainFor_of_name pn_com_example_breakwater_breakwater_engine_Address) (fun m => ef_rm_ad3n m a1 s1 s2) ?_
  intro p e s m below meth c s₁ hx hby hml hown hnm hret hlk hZ X0 e0
  have hown : s.vm.findClass "com/example/breakwater/breakwater/engine/Address" = some m.cls := hown
  have hnm : meth.name = "<init>" := hnm
  have hml : c.maxLocals = 4 := hml
  have dk : ∀ {i : Nat} {r : Except DecodeError (Instr × Nat)}, decode prog_1_method_1_code i = r → decode c.code i = r := fun h => hb hby h
  have N0 := Fr.nil n0
  refine gy (St s₁ m 8 #[vr a1, vr s1, vr s2, .val .null] [.null, (.ref s2), (.ref s1), (.ref a1)]) (fun _ k => XS.aloadN X0.here hx rfl (dk d14_0) rfl rfl (XS.aloadN X0.here hx rfl (dk d14_1) rfl rfl (XS.aloadN X0.here hx rfl (dk d14_2) rfl rfl (XS.aloadN X0.here hx rfl (dk d14_3) rfl rfl (XS.aloadN X0.here hx rfl (dk d14_4) rfl rfl (XS.ifnonnullNo X0.here hx rfl (dk d14_5) rfl k)))))) ?_
  obtain ⟨T266, h266, X266, e266, E266, A266, D266, -, st266⟩ := newO X0 hx hZ hown (wd hw 60 rfl) (wd hw 61 rfl) (wd hw 62 rfl) e0 (g := (mkF m 8 #[vr a1, vr s1, vr s2, .val .null] [.null, (.ref s2), (.ref s1), (.ref a1)])) rfl (dk d14_8) (by decide) (by decide)
  obtain ⟨b266, g266⟩ : ∃ z, z = h0.size := ⟨_, rfl⟩
  rw [← g266] at A266 D266 st266
  have sz_b266 : h0.size ≤ b266 := Nat.le_of_eq g266.symm
  have O267 := pr0.ext E266
  have Z267 : n0 ≤ h266.size := Nat.le_trans Z0 E266.1
  have F268 : Fld Z h266 b266 "java/lang/AbstractStringBuilder" "value" "[B" .null := D266 (Or.inl (wd hw 75 rfl)) (ty := (.array .byte)) (by decide)
  have F269 : Fld Z h266 b266 "java/lang/AbstractStringBuilder" "coder" "B" (.int 0) := D266 (Or.inl (wd hw 77 rfl)) (ty := .byte) (by decide)
  have F270 : Fld Z h266 b266 "java/lang/AbstractStringBuilder" "count" "I" (.int 0) := D266 (Or.inl (wd hw 99 rfl)) (ty := .int) (by decide)
  refine gy (St T266 m 11 #[vr a1, vr s1, vr s2, .val .null] [(.ref b266), .null, (.ref s2), (.ref s1), (.ref a1)]) st266 ?_
  refine gy (St T266 m 12 #[vr a1, vr s1, vr s2, .val .null] [(.ref b266), (.ref b266), .null, (.ref s2), (.ref s1), (.ref a1)]) (fun _ k => XS.dup X266.here hx rfl (dk d14_11) rfl rfl k) ?_
  obtain ⟨_, _, ⟨T271, L271, k271, n271⟩, -, X271, ⟨Lc271, hQ271, l271, y271, z271⟩, st271⟩ := X266.specialBack hx (y := Y27) rfl hown (mvT hZ (wd hw 63 rfl)) (mvT hZ (wd hw 64 rfl)) (mvT hZ (wd hw 65 rfl)) (by decide) (backOf (W := 5) (rm_sbinit l Z a0 hw [] b266 cs h266 n0 Z267 O267 pr1 hcs A266 F268 F269 F270 (Nat.le_trans Z0 sz_b266)) hZ (wd hw 65 rfl) (wd hw 62 rfl) (by decide) (by decide)) (g := (mkF m 12 #[vr a1, vr s1, vr s2, .val .null] [(.ref b266), (.ref b266), .null, (.ref s2), (.ref s1), (.ref a1)])) rfl (by rw [hml]; rfl) (Steps.refl _) (a := b266) (argsL := []) (rest := [(.ref b266), .null, (.ref s2), (.ref s1), (.ref a1)]) (lenOf pd_25 rfl) rfl (by show 2 * 0 + _ ≤ _; exact Nat.le_of_eq rfl) (dk d14_12) (fun _ _ => ⟨rfl, e266, Nat.le_of_ble_eq_true rfl, Nat.le_of_ble_eq_true rfl⟩)
  dsimp only [Pt.U, Pt.locs, Pt.cells, Pt.slots] at X271 l271 y271 z271 st271 hQ271
  subst l271 y271 z271
  obtain ⟨t271, k271, rfl, Nq271, K271, p271_0, p271_1, p271_2, p271_3, p271_4, p271_5⟩ := hQ271
  have N271 := Fr.app N0 Nq271
  have X271 : Stand p l e _ _ m _ below meth c T271 _ 2 20 := X271
  have O272 := O267.keep K271 (allS (Nat.le_trans Z0 sz_b266) all0)
  have Z272 : n0 ≤ T271.heap.size := Nat.le_trans Z267 K271.1
  have sz_t271 : h266.size ≤ t271 := p271_5
  refine gy (St T271 m 15 #[vr a1, vr s1, vr s2, .val .null] [(.ref b266), .null, (.ref s2), (.ref s1), (.ref a1)]) (fun _ k => st271.trans k) ?_
  refine gy (St T271 m 16 #[vr a1, vr s1, vr s2, .val .null] [(.ref s1), (.ref b266), .null, (.ref s2), (.ref s1), (.ref a1)]) (fun _ k => XS.aloadN X271.here hx rfl (dk d14_15) rfl rfl k) ?_
  have f273 := ((pr10.ext E266).keep K271 (ninS (Nat.ne_of_lt (Nat.lt_of_lt_of_le pr9.lt sz_b266)) nin0))
  have f274 := ((pr11.ext E266).keep K271 (ninS (Nat.ne_of_lt (Nat.lt_of_lt_of_le pr9.lt sz_b266)) nin0))
  have f275 := ((pr12.ext E266).keep K271 (ninS (Nat.ne_of_lt (Nat.lt_of_lt_of_le pr12.lt sz_b266)) nin0))
  obtain ⟨cq276, kq276, q276a, q276b, q276c⟩ := isOf hZ rfl p271_0
  obtain ⟨_, _, ⟨T276, L276, k276, n276⟩, -, X276, ⟨Lc276, hQ276, l276, y276, z276⟩, st276⟩ := X271.virtualBack hx (y := Y29) (z := Y29) hown (mvT hZ (wd hw 78 rfl)) (mvT hZ (wd hw 79 rfl)) (notFace_of_selects (args := #[]) (mvT hZ (wd hw 81 rfl))) (mvT hZ (wd hw 81 rfl)) (mvT hZ (wd hw 80 rfl)) (by decide) (backOf (W := 4) (rm_sbapp l Z a0 hw [] b266 t271 k271 own_nil s1 st1 sk1 c1 cs T271.heap n0 Z272 O272 pr1 hcs p271_0 p271_1 p271_2 p271_3 p271_4 ((pr9.ext E266).keep K271) f273 f274 f275 (Nat.le_trans Z0 sz_b266) (Nat.le_trans Z267 sz_t271) (by unfold own_fit; simp only [own_nil, List.length_append, List.length_cons, List.length_nil]; omega)) hZ (wd hw 82 rfl) (wd hw 62 rfl) (by decide) (by decide)) q276a q276c (g := (mkF m 16 #[vr a1, vr s1, vr s2, .val .null] [(.ref s1), (.ref b266), .null, (.ref s2), (.ref s1), (.ref a1)])) rfl (by rw [hml]; rfl) (Steps.refl _) (argsL := [(.ref s1)]) (rest := [.null, (.ref s2), (.ref s1), (.ref a1)]) (lenOf pd_26 rfl) rfl (by show 2 * 0 + _ ≤ _; exact Nat.le_of_eq rfl) (dk d14_16) (fun _ _ => ⟨rfl, rfl, Nat.le_of_ble_eq_true rfl, Nat.le_of_ble_eq_true rfl⟩)
  dsimp only [Pt.U, Pt.locs, Pt.cells, Pt.slots] at X276 l276 y276 z276 st276 hQ276
  subst l276 y276 z276
  obtain ⟨rfl, Nq276, K276, p276_0, p276_1, p276_2, p276_3, p276_4⟩ := hQ276
  have N276 := Fr.app N271 Nq276
  have X276 : Stand p l e _ _ m _ below meth c T276 _ 2 20 := X276
  have O277 := O272.keep K276 (allS (Nat.le_trans Z0 sz_b266) (allS (Nat.le_trans Z267 sz_t271) all0))
  have Z277 : n0 ≤ T276.heap.size := Nat.le_trans Z272 K276.1
  refine gy (St T276 m 19 #[vr a1, vr s1, vr s2, .val .null] [(.ref b266), .null, (.ref s2), (.ref s1), (.ref a1)]) (fun _ k => st276.trans k) ?_
  refine gy (St T276 m 21 #[vr a1, vr s1, vr s2, .val .null] [(.int 58), (.ref b266), .null, (.ref s2), (.ref s1), (.ref a1)]) (fun _ k => XS.bipush X276.here hx rfl (dk d14_19) k) ?_
  obtain ⟨cq278, kq278, q278a, q278b, q278c⟩ := isOf hZ rfl p276_0
  obtain ⟨_, _, ⟨T278, L278, k278, n278⟩, -, X278, ⟨Lc278, hQ278, l278, y278, z278⟩, st278⟩ := X276.virtualBack hx (y := Y28) (z := Y28) hown (mvT hZ (wd hw 125 rfl)) (mvT hZ (wd hw 126 rfl)) (notFace_of_selects (args := #[]) (mvT hZ (wd hw 128 rfl))) (mvT hZ (wd hw 128 rfl)) (mvT hZ (wd hw 127 rfl)) (by decide) (backOf (W := 4) (rm_sbappC l Z a0 hw [] b266 t271 k271 (own_nil ++ c1) (58 : Int32) cs T276.heap n0 Z277 O277 pr1 hcs p276_0 p276_1 p276_2 p276_3 p276_4 (Nat.le_trans Z0 sz_b266) (Nat.le_trans Z267 sz_t271) (by unfold own_fit; simp only [own_nil, List.length_append, List.length_cons, List.length_nil]; omega) (by decide)) hZ (wd hw 129 rfl) (wd hw 62 rfl) (by decide) (by decide)) q278a q278c (g := (mkF m 21 #[vr a1, vr s1, vr s2, .val .null] [(.int 58), (.ref b266), .null, (.ref s2), (.ref s1), (.ref a1)])) rfl (by rw [hml]; rfl) (Steps.refl _) (argsL := [(.int 58)]) (rest := [.null, (.ref s2), (.ref s1), (.ref a1)]) (lenOf pd_27 rfl) rfl (by show 2 * 0 + _ ≤ _; exact Nat.le_of_eq rfl) (dk d14_21) (fun _ _ => ⟨rfl, rfl, Nat.le_of_ble_eq_true rfl, Nat.le_of_ble_eq_true rfl⟩)
  dsimp only [Pt.U, Pt.locs, Pt.cells, Pt.slots] at X278 l278 y278 z278 st278 hQ278
  subst l278 y278 z278
  obtain ⟨rfl, Nq278, K278, p278_0, p278_1, p278_2, p278_3, p278_4⟩ := hQ278
  have N278 := Fr.app N276 Nq278
  have X278 : Stand p l e _ _ m _ below meth c T278 _ 2 20 := X278
  have O279 := O277.keep K278 (allS (Nat.le_trans Z0 sz_b266) (allS (Nat.le_trans Z267 sz_t271) all0))
  have Z279 : n0 ≤ T278.heap.size := Nat.le_trans Z277 K278.1
  refine gy (St T278 m 24 #[vr a1, vr s1, vr s2, .val .null] [(.ref b266), .null, (.ref s2), (.ref s1), (.ref a1)]) (fun _ k => st278.trans k) ?_
  refine gy (St T278 m 25 #[vr a1, vr s1, vr s2, .val .null] [(.ref s2), (.ref b266), .null, (.ref s2), (.ref s1), (.ref a1)]) (fun _ k => XS.aloadN X278.here hx rfl (dk d14_24) rfl rfl k) ?_
  have f280 := ((((pr14.ext E266).keep K271).keep K276).keep K278)
  have f281 := ((((pr15.ext E266).keep K271 (ninS (Nat.ne_of_lt (Nat.lt_of_lt_of_le pr14.lt sz_b266)) nin0)).keep K276 (ninS (Nat.ne_of_lt (Nat.lt_of_lt_of_le pr14.lt sz_b266)) (ninS (Nat.ne_of_lt (Nat.lt_of_lt_of_le (pr14.ext E266).lt sz_t271)) nin0))).keep K278 (ninS (Nat.ne_of_lt (Nat.lt_of_lt_of_le pr14.lt sz_b266)) (ninS (Nat.ne_of_lt (Nat.lt_of_lt_of_le (pr14.ext E266).lt sz_t271)) nin0)))
  have f282 := ((((pr16.ext E266).keep K271 (ninS (Nat.ne_of_lt (Nat.lt_of_lt_of_le pr14.lt sz_b266)) nin0)).keep K276 (ninS (Nat.ne_of_lt (Nat.lt_of_lt_of_le pr14.lt sz_b266)) (ninS (Nat.ne_of_lt (Nat.lt_of_lt_of_le (pr14.ext E266).lt sz_t271)) nin0))).keep K278 (ninS (Nat.ne_of_lt (Nat.lt_of_lt_of_le pr14.lt sz_b266)) (ninS (Nat.ne_of_lt (Nat.lt_of_lt_of_le (pr14.ext E266).lt sz_t271)) nin0)))
  have f283 := ((((pr17.ext E266).keep K271 (ninS (Nat.ne_of_lt (Nat.lt_of_lt_of_le pr17.lt sz_b266)) nin0)).keep K276 (ninS (Nat.ne_of_lt (Nat.lt_of_lt_of_le pr17.lt sz_b266)) (ninS (Nat.ne_of_lt (Nat.lt_of_lt_of_le (pr17.ext E266).lt sz_t271)) nin0))).keep K278 (ninS (Nat.ne_of_lt (Nat.lt_of_lt_of_le pr17.lt sz_b266)) (ninS (Nat.ne_of_lt (Nat.lt_of_lt_of_le (pr17.ext E266).lt sz_t271)) nin0)))
  obtain ⟨cq284, kq284, q284a, q284b, q284c⟩ := isOf hZ rfl p278_0
  obtain ⟨_, _, ⟨T284, L284, k284, n284⟩, -, X284, ⟨Lc284, hQ284, l284, y284, z284⟩, st284⟩ := X278.virtualBack hx (y := Y29) (z := Y29) hown (mvT hZ (wd hw 78 rfl)) (mvT hZ (wd hw 79 rfl)) (notFace_of_selects (args := #[]) (mvT hZ (wd hw 81 rfl))) (mvT hZ (wd hw 81 rfl)) (mvT hZ (wd hw 80 rfl)) (by decide) (backOf (W := 4) (rm_sbapp l Z a0 hw [] b266 t271 k271 ((own_nil ++ c1) ++ [(58 : Int32)]) s2 st2 sk2 c2 cs T278.heap n0 Z279 O279 pr1 hcs p278_0 p278_1 p278_2 p278_3 p278_4 f280 f281 f282 f283 (Nat.le_trans Z0 sz_b266) (Nat.le_trans Z267 sz_t271) (by unfold own_fit; simp only [own_nil, List.length_append, List.length_cons, List.length_nil]; omega)) hZ (wd hw 82 rfl) (wd hw 62 rfl) (by decide) (by decide)) q284a q284c (g := (mkF m 25 #[vr a1, vr s1, vr s2, .val .null] [(.ref s2), (.ref b266), .null, (.ref s2), (.ref s1), (.ref a1)])) rfl (by rw [hml]; rfl) (Steps.refl _) (argsL := [(.ref s2)]) (rest := [.null, (.ref s2), (.ref s1), (.ref a1)]) (lenOf pd_26 rfl) rfl (by show 2 * 0 + _ ≤ _; exact Nat.le_of_eq rfl) (dk d14_25) (fun _ _ => ⟨rfl, rfl, Nat.le_of_ble_eq_true rfl, Nat.le_of_ble_eq_true rfl⟩)
  dsimp only [Pt.U, Pt.locs, Pt.cells, Pt.slots] at X284 l284 y284 z284 st284 hQ284
  subst l284 y284 z284
  obtain ⟨rfl, Nq284, K284, p284_0, p284_1, p284_2, p284_3, p284_4⟩ := hQ284
  have N284 := Fr.app N278 Nq284
  have X284 : Stand p l e _ _ m _ below meth c T284 _ 2 20 := X284
  have O285 := O279.keep K284 (allS (Nat.le_trans Z0 sz_b266) (allS (Nat.le_trans Z267 sz_t271) all0))
  have Z285 : n0 ≤ T284.heap.size := Nat.le_trans Z279 K284.1
  refine gy (St T284 m 28 #[vr a1, vr s1, vr s2, .val .null] [(.ref b266), .null, (.ref s2), (.ref s1), (.ref a1)]) (fun _ k => st284.trans k) ?_
  obtain ⟨cq286, kq286, q286a, q286b, q286c⟩ := isOf hZ rfl p284_0
  obtain ⟨_, _, ⟨T286, L286, k286, n286⟩, -, X286, ⟨Lc286, hQ286, l286, y286, z286⟩, st286⟩ := X284.virtualBack hx (y := Y31) (z := Y31) hown (mvT hZ (wd hw 140 rfl)) (mvT hZ (wd hw 141 rfl)) (notFace_of_selects (args := #[]) (mvT hZ (wd hw 143 rfl))) (mvT hZ (wd hw 143 rfl)) (mvT hZ (wd hw 142 rfl)) (by decide) (backOf (W := 4) (rm_toS l Z a0 hw [] b266 t271 k271 (((own_nil ++ c1) ++ [(58 : Int32)]) ++ c2) cs T284.heap n0 Z285 O285 pr1 hcs p284_0 p284_1 p284_2 p284_3 p284_4 (by unfold own_sh; simp only [own_nil, List.length_append, List.length_cons, List.length_nil]; omega)) hZ (wd hw 144 rfl) (wd hw 62 rfl) (by decide) (by decide)) q286a q286c (g := (mkF m 28 #[vr a1, vr s1, vr s2, .val .null] [(.ref b266), .null, (.ref s2), (.ref s1), (.ref a1)])) rfl (by rw [hml]; rfl) (Steps.refl _) (argsL := []) (rest := [.null, (.ref s2), (.ref s1), (.ref a1)]) (lenOf pd_28 rfl) rfl (by show 2 * 0 + _ ≤ _; exact Nat.le_of_eq rfl) (dk d14_28) (fun _ _ => ⟨rfl, rfl, Nat.le_of_ble_eq_true rfl, Nat.le_of_ble_eq_true rfl⟩)
  dsimp only [Pt.U, Pt.locs, Pt.cells, Pt.slots] at X286 l286 y286 z286 st286 hQ286
  subst l286 y286 z286
  obtain ⟨b286, t286, k286, rfl, Nq286, K286, p286_0, p286_1, p286_2, p286_3, p286_4, p286_5⟩ := hQ286
  have N286 := Fr.app N284 Nq286
  have X286 : Stand p l e _ _ m _ below meth c T286 _ 4 40 := X286
  have O287 := O285.keep K286 all0
  have Z287 : n0 ≤ T286.heap.size := Nat.le_trans Z285 K286.1
  have sz_b286 : T284.heap.size ≤ b286 := p286_4
  have sz_t286 : T284.heap.size ≤ t286 := p286_5
  refine gy (St T286 m 31 #[vr a1, vr s1, vr s2, .val .null] [(.ref b286), .null, (.ref s2), (.ref s1), (.ref a1)]) (fun _ k => st286.trans k) ?_
  refine gy (St T286 m 66 #[vr a1, vr s1, vr s2, .val .null] [(.ref b286), .null, (.ref s2), (.ref s1), (.ref a1)]) (fun _ k => XS.goto X286.here hx rfl (pc0 := 31) (pc' := 66) rfl (dk d14_31) (by decide) (by decide) k) ?_
  have f288 := ((((((pr3.ext E266).keep K271).keep K276).keep K278).keep K284).keep K286)
  have f289 := ((((((pr4.ext E266).keep K271 (ninS (Nat.ne_of_lt (Nat.lt_of_lt_of_le pr3.lt sz_b266)) nin0)).keep K276 (ninS (Nat.ne_of_lt (Nat.lt_of_lt_of_le pr3.lt sz_b266)) (ninS (Nat.ne_of_lt (Nat.lt_of_lt_of_le (pr3.ext E266).lt sz_t271)) nin0))).keep K278 (ninS (Nat.ne_of_lt (Nat.lt_of_lt_of_le pr3.lt sz_b266)) (ninS (Nat.ne_of_lt (Nat.lt_of_lt_of_le (pr3.ext E266).lt sz_t271)) nin0))).keep K284 (ninS (Nat.ne_of_lt (Nat.lt_of_lt_of_le pr3.lt sz_b266)) (ninS (Nat.ne_of_lt (Nat.lt_of_lt_of_le (pr3.ext E266).lt sz_t271)) nin0))).keep K286 nin0)
  have f290 := ((((((pr5.ext E266).keep K271 (ninS (Nat.ne_of_lt (Nat.lt_of_lt_of_le pr3.lt sz_b266)) nin0)).keep K276 (ninS (Nat.ne_of_lt (Nat.lt_of_lt_of_le pr3.lt sz_b266)) (ninS (Nat.ne_of_lt (Nat.lt_of_lt_of_le (pr3.ext E266).lt sz_t271)) nin0))).keep K278 (ninS (Nat.ne_of_lt (Nat.lt_of_lt_of_le pr3.lt sz_b266)) (ninS (Nat.ne_of_lt (Nat.lt_of_lt_of_le (pr3.ext E266).lt sz_t271)) nin0))).keep K284 (ninS (Nat.ne_of_lt (Nat.lt_of_lt_of_le pr3.lt sz_b266)) (ninS (Nat.ne_of_lt (Nat.lt_of_lt_of_le (pr3.ext E266).lt sz_t271)) nin0))).keep K286 nin0)
  have f291 := ((((((pr6.ext E266).keep K271 (ninS (Nat.ne_of_lt (Nat.lt_of_lt_of_le pr3.lt sz_b266)) nin0)).keep K276 (ninS (Nat.ne_of_lt (Nat.lt_of_lt_of_le pr3.lt sz_b266)) (ninS (Nat.ne_of_lt (Nat.lt_of_lt_of_le (pr3.ext E266).lt sz_t271)) nin0))).keep K278 (ninS (Nat.ne_of_lt (Nat.lt_of_lt_of_le pr3.lt sz_b266)) (ninS (Nat.ne_of_lt (Nat.lt_of_lt_of_le (pr3.ext E266).lt sz_t271)) nin0))).keep K284 (ninS (Nat.ne_of_lt (Nat.lt_of_lt_of_le pr3.lt sz_b266)) (ninS (Nat.ne_of_lt (Nat.lt_of_lt_of_le (pr3.ext E266).lt sz_t271)) nin0))).keep K286 nin0)
  have f292 := ((((((pr7.ext E266).keep K271 (ninS (Nat.ne_of_lt (Nat.lt_of_lt_of_le pr3.lt sz_b266)) nin0)).keep K276 (ninS (Nat.ne_of_lt (Nat.lt_of_lt_of_le pr3.lt sz_b266)) (ninS (Nat.ne_of_lt (Nat.lt_of_lt_of_le (pr3.ext E266).lt sz_t271)) nin0))).keep K278 (ninS (Nat.ne_of_lt (Nat.lt_of_lt_of_le pr3.lt sz_b266)) (ninS (Nat.ne_of_lt (Nat.lt_of_lt_of_le (pr3.ext E266).lt sz_t271)) nin0))).keep K284 (ninS (Nat.ne_of_lt (Nat.lt_of_lt_of_le pr3.lt sz_b266)) (ninS (Nat.ne_of_lt (Nat.lt_of_lt_of_le (pr3.ext E266).lt sz_t271)) nin0))).keep K286 nin0)
  obtain ⟨_, _, ⟨T293, L293, k293, n293⟩, -, X293, ⟨Lc293, hQ293, l293, y293, z293⟩, st293⟩ := X286.specialBack hx (y := Y1) rfl hown (mvT hZ (wd hw 181 rfl)) (mvT hZ (wd hw 182 rfl)) (mvT hZ (wd hw 183 rfl)) (by decide) (backOf (W := 0) (rm_ad4n l Z a0 hw [] a1 s1 s2 b286 T286.heap n0 Z287 O287 f288 f289 f290 f291 f292 pr8) hZ (wd hw 183 rfl) (wd hw 56 rfl) (by decide) (by decide)) (g := (mkF m 66 #[vr a1, vr s1, vr s2, .val .null] [(.ref b286), .null, (.ref s2), (.ref s1), (.ref a1)])) rfl (by rw [hml]; rfl) (Steps.refl _) (a := a1) (argsL := [(.ref s1), (.ref s2), .null, (.ref b286)]) (rest := []) (lenOf pd_29 rfl) rfl (by show 2 * 0 + _ ≤ _; exact Nat.le_of_eq rfl) (dk d14_66) (fun _ _ => ⟨rfl, rfl, Nat.le_of_ble_eq_true rfl, Nat.le_of_ble_eq_true rfl⟩)
  dsimp only [Pt.U, Pt.locs, Pt.cells, Pt.slots] at X293 l293 y293 z293 st293 hQ293
  subst l293 y293 z293
  obtain ⟨rfl, Nq293, K293, p293_0, p293_1, p293_2, p293_3, p293_4⟩ := hQ293
  have N293 := Fr.app N286 Nq293
  have X293 : Stand p l e _ _ m _ below meth c T293 _ 4 40 := X293
  have O294 := O287.keep K293 (allS pr8 all0)
  have Z294 : n0 ≤ T293.heap.size := Nat.le_trans Z287 K293.1
  refine gy (St T293 m 69 #[vr a1, vr s1, vr s2, .val .null] []) (fun _ k => st293.trans k) ?_
  refine Go.retV X293 hx hlk hret (dk d14_69) (by decide) (by decide) ?_
  exact ⟨b286, t286, k286, rfl, N293, ((((((((Keep.refl h0 [a1]).ext E266).trans K271 (allS (Or.inr (Nat.le_trans (Nat.le_refl _) sz_b266)) all0)).trans K276 (allS (Or.inr (Nat.le_trans (Nat.le_refl _) sz_b266)) (allS (Or.inr (Nat.le_trans (Nat.le_trans (Nat.le_refl _) E266.1) sz_t271)) all0))).trans K278 (allS (Or.inr (Nat.le_trans (Nat.le_refl _) sz_b266)) (allS (Or.inr (Nat.le_trans (Nat.le_trans (Nat.le_refl _) E266.1) sz_t271)) all0))).trans K284 (allS (Or.inr (Nat.le_trans (Nat.le_refl _) sz_b266)) (allS (Or.inr (Nat.le_trans (Nat.le_trans (Nat.le_refl _) E266.1) sz_t271)) all0))).trans K286 all0).trans K293 (allS (Or.inl (List.mem_of_getElem? (i := 0) rfl)) all0)), p293_0, p293_4, (p286_0.keep K293), (p286_1.keep K293 (ninS (Ne.symm (Nat.ne_of_lt (Nat.lt_of_lt_of_le (((((pr3.ext E266).keep K271).keep K276).keep K278).keep K284).lt sz_b286))) nin0)), (p286_2.keep K293 (ninS (Ne.symm (Nat.ne_of_lt (Nat.lt_of_lt_of_le (((((pr3.ext E266).keep K271).keep K276).keep K278).keep K284).lt sz_b286))) nin0)), (p286_3.keep K293 (ninS (Ne.symm (Nat.ne_of_lt (Nat.lt_of_lt_of_le (((((pr3.ext E266).keep K271).keep K276).keep K278).keep K284).lt sz_t286))) nin0))⟩
theorem ef_rm_ad3s (m : MethodId) (x0 : Addr) (x1 : Addr) (x2 : Addr) (x3 : Addr) : entryFrame m #[(.ref x0), (.ref x1), (.ref x2), (.ref x3)] 4 = mkF m 0 #[vr x0, vr x1, vr x2, vr x3] [] := by first | (simp [entryFrame, mkF, argsToLocals, Value.category]; done) | rfl
theorem d14_34 : decode prog_1_method_1_code 34 = .ok (.new 1, 3) := by decide +kernel
theorem d14_37 : decode prog_1_method_1_code 37 = .ok (.dup, 1) := by decide +kernel
theorem d14_38 : decode prog_1_method_1_code 38 = .ok (.invokespecial 3, 3) := by decide +kernel
theorem d14_41 : decode prog_1_method_1_code 41 = .ok (.aload_n 1, 1) := by decide +kernel
theorem d14_42 : decode prog_1_method_1_code 42 = .ok (.invokevirtual 7, 3) := by decide +kernel
theorem d14_45 : decode prog_1_method_1_code 45 = .ok (.bipush 58, 2) := by decide +kernel
theorem d14_47 : decode prog_1_method_1_code 47 = .ok (.invokevirtual 11, 3) := by decide +kernel
theorem d14_50 : decode prog_1_method_1_code 50 = .ok (.aload_n 2, 1) := by decide +kernel
theorem d14_51 : decode prog_1_method_1_code 51 = .ok (.invokevirtual 7, 3) := by decide +kernel
theorem d14_54 : decode prog_1_method_1_code 54 = .ok (.bipush 47, 2) := by decide +kernel
theorem d14_56 : decode prog_1_method_1_code 56 = .ok (.invokevirtual 11, 3) := by decide +kernel
theorem d14_59 : decode prog_1_method_1_code 59 = .ok (.aload_n 3, 1) := by decide +kernel
theorem d14_60 : decode prog_1_method_1_code 60 = .ok (.invokevirtual 7, 3) := by decide +kernel
theorem d14_63 : decode prog_1_method_1_code 63 = .ok (.invokevirtual 14, 3) := by decide +kernel
def Q_rm_ad3s (Z : State) (a1 : Addr) (s1 : Addr) (st1 : Addr) (sk1 : ClassId) (c1 : List Int32) (s2 : Addr) (st2 : Addr) (sk2 : ClassId) (c2 : List Int32) (s3 : Addr) (st3 : Addr) (sk3 : ClassId) (c3 : List Int32) (cs : Int32) (h0 : Heap) (n0 : Nat) (vv : Option Value) (h : Heap) (L : List Loc) : Prop := ∃ b : Addr, ∃ t : Addr, ∃ k : ClassId, vv = none ∧ Fr n0 L ∧ Keep h0 h [a1] ∧ Exa Z h a1 "com/example/breakwater/breakwater/engine/Address" ∧ Fld Z h a1 "com/example/breakwater/breakwater/engine/Address" "text" "Ljava/lang/String;" (.ref b) ∧ Exa Z h b "java/lang/String" ∧ Fld Z h b "java/lang/String" "value" "[B" (.ref t) ∧ Fld Z h b "java/lang/String" "coder" "B" (.int 0) ∧ Arv Z h t k .byte (own_z (own_tS c1 c2 c3)) (own_vs (own_tS c1 c2 c3)) (.int 0)
set_option maxRecDepth 65536 in
set_option maxHeartbeats 40000000 in
theorem rm_ad3s (l : Launch) (Z : State) (a0 : Array Value) (hw : HW a0 Z) (ws : List Jvm.Cond) (a1 : Addr) (s1 : Addr) (st1 : Addr) (sk1 : ClassId) (c1 : List Int32) (s2 : Addr) (st2 : Addr) (sk2 : ClassId) (c2 : List Int32) (s3 : Addr) (st3 : Addr) (sk3 : ClassId) (c3 : List Int32) (cs : Int32) (h0 : Heap) (n0 : Nat) (Z0 : n0 ≤ h0.size) (pr0 : Old Z n0 h0) (pr1 : Sta Z Z.heap "java/lang/String" "COMPACT_STRINGS" "Z" (.int cs)) (hcs : ¬ (cs = (0 : Int32))) (pr3 : Exa Z h0 a1 "com/example/breakwater/breakwater/engine/Address") (pr4 : Fld Z h0 a1 "com/example/breakwater/breakwater/engine/Address" "scope" "Ljava/lang/String;" .null) (pr5 : Fld Z h0 a1 "com/example/breakwater/breakwater/engine/Address" "service" "Ljava/lang/String;" .null) (pr6 : Fld Z h0 a1 "com/example/breakwater/breakwater/engine/Address" "endpoint" "Ljava/lang/String;" .null) (pr7 : Fld Z h0 a1 "com/example/breakwater/breakwater/engine/Address" "text" "Ljava/lang/String;" .null) (pr8 : n0 ≤ a1) (pr9 : Exa Z h0 s1 "java/lang/String") (pr10 : Fld Z h0 s1 "java/lang/String" "value" "[B" (.ref st1)) (pr11 : Fld Z h0 s1 "java/lang/String" "coder" "B" (.int 0)) (pr12 : Arv Z h0 st1 sk1 .byte (own_z c1) (own_vs c1) (.int 0)) (hl1 : c1.length ≤ 2) (pr14 : Exa Z h0 s2 "java/lang/String") (pr15 : Fld Z h0 s2 "java/lang/String" "value" "[B" (.ref st2)) (pr16 : Fld Z h0 s2 "java/lang/String" "coder" "B" (.int 0)) (pr17 : Arv Z h0 st2 sk2 .byte (own_z c2) (own_vs c2) (.int 0)) (hl2 : c2.length ≤ 2) (pr19 : Exa Z h0 s3 "java/lang/String") (pr20 : Fld Z h0 s3 "java/lang/String" "value" "[B" (.ref st3)) (pr21 : Fld Z h0 s3 "java/lang/String" "coder" "B" (.int 0)) (pr22 : Arv Z h0 st3 sk3 .byte (own_z c3) (own_vs c3) (.int 0)) (hl3 : c3.length ≤ 2) :
    Met l Z Y0 prog_1_method_1_code 4 none ws ({ frames := 6, cells := 4, slots := 40, locals := 95 } : Room) #[(.ref a1), (.ref s1), (.ref s2), (.ref s3)] h0 (Q_rm_ad3s Z a1 s1 st1 sk1 c1 s2 st2 sk2 c2 s3 st3 sk3 c3 cs h0 n0) := by
  refine Met.enter (f0 := fun m => mkF m 0 #[vr a1, vr s1, vr s2, vr s3] []) (plainFor_of_name pn_com_example_breakwater_breakwater_engine_Address) (fun m => ef_rm_ad3s m a1 s1 s2 s3) ?_
  intro p e s m below meth c s₁ hx hby hml hown hnm hret hlk hZ X0 e0
  have hown : s.vm.findClass "com/example/breakwater/breakwater/engine/Address" = some m.cls := hown
  have hnm : meth.name = "<init>" := hnm
  have hml : c.maxLocals = 4 := hml
  have dk : ∀ {i : Nat} {r : Except DecodeError (Instr × Nat)}, decode prog_1_method_1_code i = r → decode c.code i = r := fun h => hb hby h
  have N0 := Fr.nil n0
  refine gy (St s₁ m 34 #[vr a1, vr s1, vr s2, vr s3] [(.ref s3), (.ref s2), (.ref s1), (.ref a1)]) (fun _ k => XS.aloadN X0.here hx rfl (dk d14_0) rfl rfl (XS.aloadN X0.here hx rfl (dk d14_1) rfl rfl (XS.aloadN X0.here hx rfl (dk d14_2) rfl rfl (XS.aloadN X0.here hx rfl (dk d14_3) rfl rfl (XS.aloadN X0.here hx rfl (dk d14_4) rfl rfl (XS.ifnonnullYes X0.here hx rfl (pc0 := 5) (pc' := 34) rfl (dk d14_5) rfl (by decide) (by decide) k)))))) ?_
  obtain ⟨T295, h295, X295, e295, E295, A295, D295, -, st295⟩ := newO X0 hx hZ hown (wd hw 60 rfl) (wd hw 61 rfl) (wd hw 62 rfl) e0 (g := (mkF m 34 #[vr a1, vr s1, vr s2, vr s3] [(.ref s3), (.ref s2), (.ref s1), (.ref a1)])) rfl (dk d14_34) (by decide) (by decide)
  obtain ⟨b295, g295⟩ : ∃ z, z = h0.size := ⟨_, rfl⟩
  rw [← g295] at A295 D295 st295
  have sz_b295 : h0.size ≤ b295 := Nat.le_of_eq g295.symm
  have O296 := pr0.ext E295
  have Z296 : n0 ≤ h295.size := Nat.le_trans Z0 E295.1
  have F297 : Fld Z h295 b295 "java/lang/AbstractStringBuilder" "value" "[B" .null := D295 (Or.inl (wd hw 75 rfl)) (ty := (.array .byte)) (by decide)
  have F298 : Fld Z h295 b295 "java/lang/AbstractStringBuilder" "coder" "B" (.int 0) := D295 (Or.inl (wd hw 77 rfl)) (ty := .byte) (by decide)
  have F299 : Fld Z h295 b295 "java/lang/AbstractStringBuilder" "count" "I" (.int 0) := D295 (Or.inl (wd hw 99 rfl)) (ty := .int) (by decide)
  refine gy (St T295 m 37 #[vr a1, vr s1, vr s2, vr s3] [(.ref b295), (.ref s3), (.ref s2), (.ref s1), (.ref a1)]) st295 ?_
  refine gy (St T295 m 38 #[vr a1, vr s1, vr s2, vr s3] [(.ref b295), (.ref b295), (.ref s3), (.ref s2), (.ref s1), (.ref a1)]) (fun _ k => XS.dup X295.here hx rfl (dk d14_37) rfl rfl k) ?_
  obtain ⟨_, _, ⟨T300, L300, k300, n300⟩, -, X300, ⟨Lc300, hQ300, l300, y300, z300⟩, st300⟩ := X295.specialBack hx (y := Y27) rfl hown (mvT hZ (wd hw 63 rfl)) (mvT hZ (wd hw 64 rfl)) (mvT hZ (wd hw 65 rfl)) (by decide) (backOf (W := 5) (rm_sbinit l Z a0 hw [] b295 cs h295 n0 Z296 O296 pr1 hcs A295 F297 F298 F299 (Nat.le_trans Z0 sz_b295)) hZ (wd hw 65 rfl) (wd hw 62 rfl) (by decide) (by decide)) (g := (mkF m 38 #[vr a1, vr s1, vr s2, vr s3] [(.ref b295), (.ref b295), (.ref s3), (.ref s2), (.ref s1), (.ref a1)])) rfl (by rw [hml]; rfl) (Steps.refl _) (a := b295) (argsL := []) (rest := [(.ref b295), (.ref s3), (.ref s2), (.ref s1), (.ref a1)]) (lenOf pd_25 rfl) rfl (by show 2 * 0 + _ ≤ _; exact Nat.le_of_eq rfl) (dk d14_38) (fun _ _ => ⟨rfl, e295, Nat.le_of_ble_eq_true rfl, Nat.le_of_ble_eq_true rfl⟩)
  dsimp only [Pt.U, Pt.locs, Pt.cells, Pt.slots] at X300 l300 y300 z300 st300 hQ300
  subst l300 y300 z300
  obtain ⟨t300, k300, rfl, Nq300, K300, p300_0, p300_1, p300_2, p300_3, p300_4, p300_5⟩ := hQ300
  have N300 := Fr.app N0 Nq300
  have X300 : Stand p l e _ _ m _ below meth c T300 _ 2 20 := X300
  have O301 := O296.keep K300 (allS (Nat.le_trans Z0 sz_b295) all0)
  have Z301 : n0 ≤ T300.heap.size := Nat.le_trans Z296 K300.1
  have sz_t300 : h295.size ≤ t300 := p300_5
  refine gy (St T300 m 41 #[vr a1, vr s1, vr s2, vr s3] [(.ref b295), (.ref s3), (.ref s2), (.ref s1), (.ref a1)]) (fun _ k => st300.trans k) ?_
  refine gy (St T300 m 42 #[vr a1, vr s1, vr s2, vr s3] [(.ref s1), (.ref b295), (.ref s3), (.ref s2), (.ref s1), (.ref a1)]) (fun _ k => XS.aloadN X300.here hx rfl (dk d14_41) rfl rfl k) ?_
  have f302 := ((pr10.ext E295).keep K300 (ninS (Nat.ne_of_lt (Nat.lt_of_lt_of_le pr9.lt sz_b295)) nin0))
  have f303 := ((pr11.ext E295).keep K300 (ninS (Nat.ne_of_lt (Nat.lt_of_lt_of_le pr9.lt sz_b295)) nin0))
  have f304 := ((pr12.ext E295).keep K300 (ninS (Nat.ne_of_lt (Nat.lt_of_lt_of_le pr12.lt sz_b295)) nin0))
  obtain ⟨cq305, kq305, q305a, q305b, q305c⟩ := isOf hZ rfl p300_0
  obtain ⟨_, _, ⟨T305, L305, k305, n305⟩, -, X305, ⟨Lc305, hQ305, l305, y305, z305⟩, st305⟩ := X300.virtualBack hx (y := Y29) (z := Y29) hown (mvT hZ (wd hw 78 rfl)) (mvT hZ (wd hw 79 rfl)) (notFace_of_selects (args := #[]) (mvT hZ (wd hw 81 rfl))) (mvT hZ (wd hw 81 rfl)) (mvT hZ (wd hw 80 rfl)) (by decide) (backOf (W := 4) (rm_sbapp l Z a0 hw [] b295 t300 k300 own_nil s1 st1 sk1 c1 cs T300.heap n0 Z301 O301 pr1 hcs p300_0 p300_1 p300_2 p300_3 p300_4 ((pr9.ext E295).keep K300) f302 f303 f304 (Nat.le_trans Z0 sz_b295) (Nat.le_trans Z296 sz_t300) (by unfold own_fit; simp only [own_nil, List.length_append, List.length_cons, List.length_nil]; omega)) hZ (wd hw 82 rfl) (wd hw 62 rfl) (by decide) (by decide)) q305a q305c (g := (mkF m 42 #[vr a1, vr s1, vr s2, vr s3] [(.ref s1), (.ref b295), (.ref s3), (.ref s2), (.ref s1), (.ref a1)])) rfl (by rw [hml]; rfl) (Steps.refl _) (argsL := [(.ref s1)]) (rest := [(.ref s3), (.ref s2), (.ref s1), (.ref a1)]) (lenOf pd_26 rfl) rfl (by show 2 * 0 + _ ≤ _; exact Nat.le_of_eq rfl) (dk d14_42) (fun _ _ => ⟨rfl, rfl, Nat.le_of_ble_eq_true rfl, Nat.le_of_ble_eq_true rfl⟩)
  dsimp only [Pt.U, Pt.locs, Pt.cells, Pt.slots] at X305 l305 y305 z305 st305 hQ305
  subst l305 y305 z305
  obtain ⟨rfl, Nq305, K305, p305_0, p305_1, p305_2, p305_3, p305_4⟩ := hQ305
  have N305 := Fr.app N300 Nq305
  have X305 : Stand p l e _ _ m _ below meth c T305 _ 2 20 := X305
  have O306 := O301.keep K305 (allS (Nat.le_trans Z0 sz_b295) (allS (Nat.le_trans Z296 sz_t300) all0))
  have Z306 : n0 ≤ T305.heap.size := Nat.le_trans Z301 K305.1
  refine gy (St T305 m 45 #[vr a1, vr s1, vr s2, vr s3] [(.ref b295), (.ref s3), (.ref s2), (.ref s1), (.ref a1)]) (fun _ k => st305.trans k) ?_
  refine gy (St T305 m 47 #[vr a1, vr s1, vr s2, vr s3] [(.int 58), (.ref b295), (.ref s3), (.ref s2), (.ref s1), (.ref a1)]) (fun _ k => XS.bipush X305.here hx rfl (dk d14_45) k) ?_
  obtain ⟨cq307, kq307, q307a, q307b, q307c⟩ := isOf hZ rfl p305_0
  obtain ⟨_, _, ⟨T307, L307, k307, n307⟩, -, X307, ⟨Lc307, hQ307, l307, y307, z307⟩, st307⟩ := X305.virtualBack hx (y := Y28) (z := Y28) hown (mvT hZ (wd hw 125 rfl)) (mvT hZ (wd hw 126 rfl)) (notFace_of_selects (args := #[]) (mvT hZ (wd hw 128 rfl))) (mvT hZ (wd hw 128 rfl)) (mvT hZ (wd hw 127 rfl)) (by decide) (backOf (W := 4) (rm_sbappC l Z a0 hw [] b295 t300 k300 (own_nil ++ c1) (58 : Int32) cs T305.heap n0 Z306 O306 pr1 hcs p305_0 p305_1 p305_2 p305_3 p305_4 (Nat.le_trans Z0 sz_b295) (Nat.le_trans Z296 sz_t300) (by unfold own_fit; simp only [own_nil, List.length_append, List.length_cons, List.length_nil]; omega) (by decide)) hZ (wd hw 129 rfl) (wd hw 62 rfl) (by decide) (by decide)) q307a q307c (g := (mkF m 47 #[vr a1, vr s1, vr s2, vr s3] [(.int 58), (.ref b295), (.ref s3), (.ref s2), (.ref s1), (.ref a1)])) rfl (by rw [hml]; rfl) (Steps.refl _) (argsL := [(.int 58)]) (rest := [(.ref s3), (.ref s2), (.ref s1), (.ref a1)]) (lenOf pd_27 rfl) rfl (by show 2 * 0 + _ ≤ _; exact Nat.le_of_eq rfl) (dk d14_47) (fun _ _ => ⟨rfl, rfl, Nat.le_of_ble_eq_true rfl, Nat.le_of_ble_eq_true rfl⟩)
  dsimp only [Pt.U, Pt.locs, Pt.cells, Pt.slots] at X307 l307 y307 z307 st307 hQ307
  subst l307 y307 z307
  obtain ⟨rfl, Nq307, K307, p307_0, p307_1, p307_2, p307_3, p307_4⟩ := hQ307
  have N307 := Fr.app N305 Nq307
  have X307 : Stand p l e _ _ m _ below meth c T307 _ 2 20 := X307
  have O308 := O306.keep K307 (allS (Nat.le_trans Z0 sz_b295) (allS (Nat.le_trans Z296 sz_t300) all0))
  have Z308 : n0 ≤ T307.heap.size := Nat.le_trans Z306 K307.1
  refine gy (St T307 m 50 #[vr a1, vr s1, vr s2, vr s3] [(.ref b295), (.ref s3), (.ref s2), (.ref s1), (.ref a1)]) (fun _ k => st307.trans k) ?_
  refine gy (St T307 m 51 #[vr a1, vr s1, vr s2, vr s3] [(.ref s2), (.ref b295), (.ref s3), (.ref s2), (.ref s1), (.ref a1)]) (fun _ k => XS.aloadN X307.here hx rfl (dk d14_50) rfl rfl k) ?_
  have f309 := ((((pr14.ext E295).keep K300).keep K305).keep K307)
  have f310 := ((((pr15.ext E295).keep K300 (ninS (Nat.ne_of_lt (Nat.lt_of_lt_of_le pr14.lt sz_b295)) nin0)).keep K305 (ninS (Nat.ne_of_lt (Nat.lt_of_lt_of_le pr14.lt sz_b295)) (ninS (Nat.ne_of_lt (Nat.lt_of_lt_of_le (pr14.ext E295).lt sz_t300)) nin0))).keep K307 (ninS (Nat.ne_of_lt (Nat.lt_of_lt_of_le pr14.lt sz_b295)) (ninS (Nat.ne_of_lt (Nat.lt_of_lt_of_le (pr14.ext E295).lt sz_t300)) nin0)))
  have f311 := ((((pr16.ext E295).keep K300 (ninS (Nat.ne_of_lt (Nat.lt_of_lt_of_le pr14.lt sz_b295)) nin0)).keep K305 (ninS (Nat.ne_of_lt (Nat.lt_of_lt_of_le pr14.lt sz_b295)) (ninS (Nat.ne_of_lt (Nat.lt_of_lt_of_le (pr14.ext E295).lt sz_t300)) nin0))).keep K307 (ninS (Nat.ne_of_lt (Nat.lt_of_lt_of_le pr14.lt sz_b295)) (ninS (Nat.ne_of_lt (Nat.lt_of_lt_of_le (pr14.ext E295).lt sz_t300)) nin0)))
  have f312 := ((((pr17.ext E295).keep K300 (ninS (Nat.ne_of_lt (Nat.lt_of_lt_of_le pr17.lt sz_b295)) nin0)).keep K305 (ninS (Nat.ne_of_lt (Nat.lt_of_lt_of_le pr17.lt sz_b295)) (ninS (Nat.ne_of_lt (Nat.lt_of_lt_of_le (pr17.ext E295).lt sz_t300)) nin0))).keep K307 (ninS (Nat.ne_of_lt (Nat.lt_of_lt_of_le pr17.lt sz_b295)) (ninS (Nat.ne_of_lt (Nat.lt_of_lt_of_le (pr17.ext E295).lt sz_t300)) nin0)))
  obtain ⟨cq313, kq313, q313a, q313b, q313c⟩ := isOf hZ rfl p307_0
  obtain ⟨_, _, ⟨T313, L313, k313, n313⟩, -, X313, ⟨Lc313, hQ313, l313, y313, z313⟩, st313⟩ := X307.virtualBack hx (y := Y29) (z := Y29) hown (mvT hZ (wd hw 78 rfl)) (mvT hZ (wd hw 79 rfl)) (notFace_of_selects (args := #[]) (mvT hZ (wd hw 81 rfl))) (mvT hZ (wd hw 81 rfl)) (mvT hZ (wd hw 80 rfl)) (by decide) (backOf (W := 4) (rm_sbapp l Z a0 hw [] b295 t300 k300 ((own_nil ++ c1) ++ [(58 : Int32)]) s2 st2 sk2 c2 cs T307.heap n0 Z308 O308 pr1 hcs p307_0 p307_1 p307_2 p307_3 p307_4 f309 f310 f311 f312 (Nat.le_trans Z0 sz_b295) (Nat.le_trans Z296 sz_t300) (by unfold own_fit; simp only [own_nil, List.length_append, List.length_cons, List.length_nil]; omega)) hZ (wd hw 82 rfl) (wd hw 62 rfl) (by decide) (by decide)) q313a q313c (g := (mkF m 51 #[vr a1, vr s1, vr s2, vr s3] [(.ref s2), (.ref b295), (.ref s3), (.ref s2), (.ref s1), (.ref a1)])) rfl (by rw [hml]; rfl) (Steps.refl _) (argsL := [(.ref s2)]) (rest := [(.ref s3), (.ref s2), (.ref s1), (.ref a1)]) (lenOf pd_26 rfl) rfl (by show 2 * 0 + _ ≤ _; exact Nat.le_of_eq rfl) (dk d14_51) (fun _ _ => ⟨rfl, rfl, Nat.le_of_ble_eq_true rfl, Nat.le_of_ble_eq_true rfl⟩)
  dsimp only [Pt.U, Pt.locs, Pt.cells, Pt.slots] at X313 l313 y313 z313 st313 hQ313
  subst l313 y313 z313
  obtain ⟨rfl, Nq313, K313, p313_0, p313_1, p313_2, p313_3, p313_4⟩ := hQ313
  have N313 := Fr.app N307 Nq313
  have X313 : Stand p l e _ _ m _ below meth c T313 _ 2 20 := X313
  have O314 := O308.keep K313 (allS (Nat.le_trans Z0 sz_b295) (allS (Nat.le_trans Z296 sz_t300) all0))
  have Z314 : n0 ≤ T313.heap.size := Nat.le_trans Z308 K313.1
  refine gy (St T313 m 54 #[vr a1, vr s1, vr s2, vr s3] [(.ref b295), (.ref s3), (.ref s2), (.ref s1), (.ref a1)]) (fun _ k => st313.trans k) ?_
  refine gy (St T313 m 56 #[vr a1, vr s1, vr s2, vr s3] [(.int 47), (.ref b295), (.ref s3), (.ref s2), (.ref s1), (.ref a1)]) (fun _ k => XS.bipush X313.here hx rfl (dk d14_54) k) ?_
  obtain ⟨cq315, kq315, q315a, q315b, q315c⟩ := isOf hZ rfl p313_0
  obtain ⟨_, _, ⟨T315, L315, k315, n315⟩, -, X315, ⟨Lc315, hQ315, l315, y315, z315⟩, st315⟩ := X313.virtualBack hx (y := Y28) (z := Y28) hown (mvT hZ (wd hw 125 rfl)) (mvT hZ (wd hw 126 rfl)) (notFace_of_selects (args := #[]) (mvT hZ (wd hw 128 rfl))) (mvT hZ (wd hw 128 rfl)) (mvT hZ (wd hw 127 rfl)) (by decide) (backOf (W := 4) (rm_sbappC l Z a0 hw [] b295 t300 k300 (((own_nil ++ c1) ++ [(58 : Int32)]) ++ c2) (47 : Int32) cs T313.heap n0 Z314 O314 pr1 hcs p313_0 p313_1 p313_2 p313_3 p313_4 (Nat.le_trans Z0 sz_b295) (Nat.le_trans Z296 sz_t300) (by unfold own_fit; simp only [own_nil, List.length_append, List.length_cons, List.length_nil]; omega) (by decide)) hZ (wd hw 129 rfl) (wd hw 62 rfl) (by decide) (by decide)) q315a q315c (g := (mkF m 56 #[vr a1, vr s1, vr s2, vr s3] [(.int 47), (.ref b295), (.ref s3), (.ref s2), (.ref s1), (.ref a1)])) rfl (by rw [hml]; rfl) (Steps.refl _) (argsL := [(.int 47)]) (rest := [(.ref s3), (.ref s2), (.ref s1), (.ref a1)]) (lenOf pd_27 rfl) rfl (by show 2 * 0 + _ ≤ _; exact Nat.le_of_eq rfl) (dk d14_56) (fun _ _ => ⟨rfl, rfl, Nat.le_of_ble_eq_true rfl, Nat.le_of_ble_eq_true rfl⟩)
  dsimp only [Pt.U, Pt.locs, Pt.cells, Pt.slots] at X315 l315 y315 z315 st315 hQ315
  subst l315 y315 z315
  obtain ⟨rfl, Nq315, K315, p315_0, p315_1, p315_2, p315_3, p315_4⟩ := hQ315
  have N315 := Fr.app N313 Nq315
  have X315 : Stand p l e _ _ m _ below meth c T315 _ 2 20 := X315
  have O316 := O314.keep K315 (allS (Nat.le_trans Z0 sz_b295) (allS (Nat.le_trans Z296 sz_t300) all0))
  have Z316 : n0 ≤ T315.heap.size := Nat.le_trans Z314 K315.1
  refine gy (St T315 m 59 #[vr a1, vr s1, vr s2, vr s3] [(.ref b295), (.ref s3), (.ref s2), (.ref s1), (.ref a1)]) (fun _ k => st315.trans k) ?_
  refine gy (St T315 m 60 #[vr a1, vr s1, vr s2, vr s3] [(.ref s3), (.ref b295), (.ref s3), (.ref s2), (.ref s1), (.ref a1)]) (fun _ k => XS.aloadN X315.here hx rfl (dk d14_59) rfl rfl k) ?_
  have f317 := ((((((pr19.ext E295).keep K300).keep K305).keep K307).keep K313).keep K315)
  have f318 := ((((((pr20.ext E295).keep K300 (ninS (Nat.ne_of_lt (Nat.lt_of_lt_of_le pr19.lt sz_b295)) nin0)).keep K305 (ninS (Nat.ne_of_lt (Nat.lt_of_lt_of_le pr19.lt sz_b295)) (ninS (Nat.ne_of_lt (Nat.lt_of_lt_of_le (pr19.ext E295).lt sz_t300)) nin0))).keep K307 (ninS (Nat.ne_of_lt (Nat.lt_of_lt_of_le pr19.lt sz_b295)) (ninS (Nat.ne_of_lt (Nat.lt_of_lt_of_le (pr19.ext E295).lt sz_t300)) nin0))).keep K313 (ninS (Nat.ne_of_lt (Nat.lt_of_lt_of_le pr19.lt sz_b295)) (ninS (Nat.ne_of_lt (Nat.lt_of_lt_of_le (pr19.ext E295).lt sz_t300)) nin0))).keep K315 (ninS (Nat.ne_of_lt (Nat.lt_of_lt_of_le pr19.lt sz_b295)) (ninS (Nat.ne_of_lt (Nat.lt_of_lt_of_le (pr19.ext E295).lt sz_t300)) nin0)))
  have f319 := ((((((pr21.ext E295).keep K300 (ninS (Nat.ne_of_lt (Nat.lt_of_lt_of_le pr19.lt sz_b295)) nin0)).keep K305 (ninS (Nat.ne_of_lt (Nat.lt_of_lt_of_le pr19.lt sz_b295)) (ninS (Nat.ne_of_lt (Nat.lt_of_lt_of_le (pr19.ext E295).lt sz_t300)) nin0))).keep K307 (ninS (Nat.ne_of_lt (Nat.lt_of_lt_of_le pr19.lt sz_b295)) (ninS (Nat.ne_of_lt (Nat.lt_of_lt_of_le (pr19.ext E295).lt sz_t300)) nin0))).keep K313 (ninS (Nat.ne_of_lt (Nat.lt_of_lt_of_le pr19.lt sz_b295)) (ninS (Nat.ne_of_lt (Nat.lt_of_lt_of_le (pr19.ext E295).lt sz_t300)) nin0))).keep K315 (ninS (Nat.ne_of_lt (Nat.lt_of_lt_of_le pr19.lt sz_b295)) (ninS (Nat.ne_of_lt (Nat.lt_of_lt_of_le (pr19.ext E295).lt sz_t300)) nin0)))
  have f320 := ((((((pr22.ext E295).keep K300 (ninS (Nat.ne_of_lt (Nat.lt_of_lt_of_le pr22.lt sz_b295)) nin0)).keep K305 (ninS (Nat.ne_of_lt (Nat.lt_of_lt_of_le pr22.lt sz_b295)) (ninS (Nat.ne_of_lt (Nat.lt_of_lt_of_le (pr22.ext E295).lt sz_t300)) nin0))).keep K307 (ninS (Nat.ne_of_lt (Nat.lt_of_lt_of_le pr22.lt sz_b295)) (ninS (Nat.ne_of_lt (Nat.lt_of_lt_of_le (pr22.ext E295).lt sz_t300)) nin0))).keep K313 (ninS (Nat.ne_of_lt (Nat.lt_of_lt_of_le pr22.lt sz_b295)) (ninS (Nat.ne_of_lt (Nat.lt_of_lt_of_le (pr22.ext E295).lt sz_t300)) nin0))).keep K315 (ninS (Nat.ne_of_lt (Nat.lt_of_lt_of_le pr22.lt sz_b295)) (ninS (Nat.ne_of_lt (Nat.lt_of_lt_of_le (pr22.ext E295).lt sz_t300)) nin0)))
  obtain ⟨cq321, kq321, q321a, q321b, q321c⟩ := isOf hZ rfl p315_0
  obtain ⟨_, _, ⟨T321, L321, k321, n321⟩, -, X321, ⟨Lc321, hQ321, l321, y321, z321⟩, st321⟩ := X315.virtualBack hx (y := Y29) (z := Y29) hown (mvT hZ (wd hw 78 rfl)) (mvT hZ (wd hw 79 rfl)) (notFace_of_selects (args := #[]) (mvT hZ (wd hw 81 rfl))) (mvT hZ (wd hw 81 rfl)) (mvT hZ (wd hw 80 rfl)) (by decide) (backOf (W := 4) (rm_sbapp l Z a0 hw [] b295 t300 k300 ((((own_nil ++ c1) ++ [(58 : Int32)]) ++ c2) ++ [(47 : Int32)]) s3 st3 sk3 c3 cs T315.heap n0 Z316 O316 pr1 hcs p315_0 p315_1 p315_2 p315_3 p315_4 f317 f318 f319 f320 (Nat.le_trans Z0 sz_b295) (Nat.le_trans Z296 sz_t300) (by unfold own_fit; simp only [own_nil, List.length_append, List.length_cons, List.length_nil]; omega)) hZ (wd hw 82 rfl) (wd hw 62 rfl) (by decide) (by decide)) q321a q321c (g := (mkF m 60 #[vr a1, vr s1, vr s2, vr s3] [(.ref s3), (.ref b295), (.ref s3), (.ref s2), (.ref s1), (.ref a1)])) rfl (by rw [hml]; rfl) (Steps.refl _) (argsL := [(.ref s3)]) (rest := [(.ref s3), (.ref s2), (.ref s1), (.ref a1)]) (lenOf pd_26 rfl) rfl (by show 2 * 0 + _ ≤ _; exact Nat.le_of_eq rfl) (dk d14_60) (fun _ _ => ⟨rfl, rfl, Nat.le_of_ble_eq_true rfl, Nat.le_of_ble_eq_true rfl⟩)
  dsimp only [Pt.U, Pt.locs, Pt.cells, Pt.slots] at X321 l321 y321 z321 st321 hQ321
  subst l321 y321 z321
  obtain ⟨rfl, Nq321, K321, p321_0, p321_1, p321_2, p321_3, p321_4⟩ := hQ321
  have N321 := Fr.app N315 Nq321
  have X321 : Stand p l e _ _ m _ below meth c T321 _ 2 20 := X321
  have O322 := O316.keep K321 (allS (Nat.le_trans Z0 sz_b295) (allS (Nat.le_trans Z296 sz_t300) all0))
  have Z322 : n0 ≤ T321.heap.size := Nat.le_trans Z316 K321.1
  refine gy (St T321 m 63 #[vr a1, vr s1, vr s2, vr s3] [(.ref b295), (.ref s3), (.ref s2), (.ref s1), (.ref a1)]) (fun _ k => st321.trans k) ?_
  obtain ⟨cq323, kq323, q323a, q323b, q323c⟩ := isOf hZ rfl p321_0
  obtain ⟨_, _, ⟨T323, L323, k323, n323⟩, -, X323, ⟨Lc323, hQ323, l323, y323, z323⟩, st323⟩ := X321.virtualBack hx (y := Y31) (z := Y31) hown (mvT hZ (wd hw 140 rfl)) (mvT hZ (wd hw 141 rfl)) (notFace_of_selects (args := #[]) (mvT hZ (wd hw 143 rfl))) (mvT hZ (wd hw 143 rfl)) (mvT hZ (wd hw 142 rfl)) (by decide) (backOf (W := 4) (rm_toS l Z a0 hw [] b295 t300 k300 (((((own_nil ++ c1) ++ [(58 : Int32)]) ++ c2) ++ [(47 : Int32)]) ++ c3) cs T321.heap n0 Z322 O322 pr1 hcs p321_0 p321_1 p321_2 p321_3 p321_4 (by unfold own_sh; simp only [own_nil, List.length_append, List.length_cons, List.length_nil]; omega)) hZ (wd hw 144 rfl) (wd hw 62 rfl) (by decide) (by decide)) q323a q323c (g := (mkF m 63 #[vr a1, vr s1, vr s2, vr s3] [(.ref b295), (.ref s3), (.ref s2), (.ref s1), (.ref a1)])) rfl (by rw [hml]; rfl) (Steps.refl _) (argsL := []) (rest := [(.ref s3), (.ref s2), (.ref s1), (.ref a1)]) (lenOf pd_28 rfl) rfl (by show 2 * 0 + _ ≤ _; exact Nat.le_of_eq rfl) (dk d14_63) (fun _ _ => ⟨rfl, rfl, Nat.le_of_ble_eq_true rfl, Nat.le_of_ble_eq_true rfl⟩)
  dsimp only [Pt.U, Pt.locs, Pt.cells, Pt.slots] at X323 l323 y323 z323 st323 hQ323
  subst l323 y323 z323
  obtain ⟨b323, t323, k323, rfl, Nq323, K323, p323_0, p323_1, p323_2, p323_3, p323_4, p323_5⟩ := hQ323
  have N323 := Fr.app N321 Nq323
  have X323 : Stand p l e _ _ m _ below meth c T323 _ 4 40 := X323
  have O324 := O322.keep K323 all0
  have Z324 : n0 ≤ T323.heap.size := Nat.le_trans Z322 K323.1
  have sz_b323 : T321.heap.size ≤ b323 := p323_4
  have sz_t323 : T321.heap.size ≤ t323 := p323_5
  refine gy (St T323 m 66 #[vr a1, vr s1, vr s2, vr s3] [(.ref b323), (.ref s3), (.ref s2), (.ref s1), (.ref a1)]) (fun _ k => st323.trans k) ?_
  have f325 := ((((((((pr3.ext E295).keep K300).keep K305).keep K307).keep K313).keep K315).keep K321).keep K323)
  have f326 := ((((((((pr4.ext E295).keep K300 (ninS (Nat.ne_of_lt (Nat.lt_of_lt_of_le pr3.lt sz_b295)) nin0)).keep K305 (ninS (Nat.ne_of_lt (Nat.lt_of_lt_of_le pr3.lt sz_b295)) (ninS (Nat.ne_of_lt (Nat.lt_of_lt_of_le (pr3.ext E295).lt sz_t300)) nin0))).keep K307 (ninS (Nat.ne_of_lt (Nat.lt_of_lt_of_le pr3.lt sz_b295)) (ninS (Nat.ne_of_lt (Nat.lt_of_lt_of_le (pr3.ext E295).lt sz_t300)) nin0))).keep K313 (ninS (Nat.ne_of_lt (Nat.lt_of_lt_of_le pr3.lt sz_b295)) (ninS (Nat.ne_of_lt (Nat.lt_of_lt_of_le (pr3.ext E295).lt sz_t300)) nin0))).keep K315 (ninS (Nat.ne_of_lt (Nat.lt_of_lt_of_le pr3.lt sz_b295)) (ninS (Nat.ne_of_lt (Nat.lt_of_lt_of_le (pr3.ext E295).lt sz_t300)) nin0))).keep K321 (ninS (Nat.ne_of_lt (Nat.lt_of_lt_of_le pr3.lt sz_b295)) (ninS (Nat.ne_of_lt (Nat.lt_of_lt_of_le (pr3.ext E295).lt sz_t300)) nin0))).keep K323 nin0)
  have f327 := ((((((((pr5.ext E295).keep K300 (ninS (Nat.ne_of_lt (Nat.lt_of_lt_of_le pr3.lt sz_b295)) nin0)).keep K305 (ninS (Nat.ne_of_lt (Nat.lt_of_lt_of_le pr3.lt sz_b295)) (ninS (Nat.ne_of_lt (Nat.lt_of_lt_of_le (pr3.ext E295).lt sz_t300)) nin0))).keep K307 (ninS (Nat.ne_of_lt (Nat.lt_of_lt_of_le pr3.lt sz_b295)) (ninS (Nat.ne_of_lt (Nat.lt_of_lt_of_le (pr3.ext E295).lt sz_t300)) nin0))).keep K313 (ninS (Nat.ne_of_lt (Nat.lt_of_lt_of_le pr3.lt sz_b295)) (ninS (Nat.ne_of_lt (Nat.lt_of_lt_of_le (pr3.ext E295).lt sz_t300)) nin0))).keep K315 (ninS (Nat.ne_of_lt (Nat.lt_of_lt_of_le pr3.lt sz_b295)) (ninS (Nat.ne_of_lt (Nat.lt_of_lt_of_le (pr3.ext E295).lt sz_t300)) nin0))).keep K321 (ninS (Nat.ne_of_lt (Nat.lt_of_lt_of_le pr3.lt sz_b295)) (ninS (Nat.ne_of_lt (Nat.lt_of_lt_of_le (pr3.ext E295).lt sz_t300)) nin0))).keep K323 nin0)
  have f328 := ((((((((pr6.ext E295).keep K300 (ninS (Nat.ne_of_lt (Nat.lt_of_lt_of_le pr3.lt sz_b295)) nin0)).keep K305 (ninS (Nat.ne_of_lt (Nat.lt_of_lt_of_le pr3.lt sz_b295)) (ninS (Nat.ne_of_lt (Nat.lt_of_lt_of_le (pr3.ext E295).lt sz_t300)) nin0))).keep K307 (ninS (Nat.ne_of_lt (Nat.lt_of_lt_of_le pr3.lt sz_b295)) (ninS (Nat.ne_of_lt (Nat.lt_of_lt_of_le (pr3.ext E295).lt sz_t300)) nin0))).keep K313 (ninS (Nat.ne_of_lt (Nat.lt_of_lt_of_le pr3.lt sz_b295)) (ninS (Nat.ne_of_lt (Nat.lt_of_lt_of_le (pr3.ext E295).lt sz_t300)) nin0))).keep K315 (ninS (Nat.ne_of_lt (Nat.lt_of_lt_of_le pr3.lt sz_b295)) (ninS (Nat.ne_of_lt (Nat.lt_of_lt_of_le (pr3.ext E295).lt sz_t300)) nin0))).keep K321 (ninS (Nat.ne_of_lt (Nat.lt_of_lt_of_le pr3.lt sz_b295)) (ninS (Nat.ne_of_lt (Nat.lt_of_lt_of_le (pr3.ext E295).lt sz_t300)) nin0))).keep K323 nin0)
  have f329 := ((((((((pr7.ext E295).keep K300 (ninS (Nat.ne_of_lt (Nat.lt_of_lt_of_le pr3.lt sz_b295)) nin0)).keep K305 (ninS (Nat.ne_of_lt (Nat.lt_of_lt_of_le pr3.lt sz_b295)) (ninS (Nat.ne_of_lt (Nat.lt_of_lt_of_le (pr3.ext E295).lt sz_t300)) nin0))).keep K307 (ninS (Nat.ne_of_lt (Nat.lt_of_lt_of_le pr3.lt sz_b295)) (ninS (Nat.ne_of_lt (Nat.lt_of_lt_of_le (pr3.ext E295).lt sz_t300)) nin0))).keep K313 (ninS (Nat.ne_of_lt (Nat.lt_of_lt_of_le pr3.lt sz_b295)) (ninS (Nat.ne_of_lt (Nat.lt_of_lt_of_le (pr3.ext E295).lt sz_t300)) nin0))).keep K315 (ninS (Nat.ne_of_lt (Nat.lt_of_lt_of_le pr3.lt sz_b295)) (ninS (Nat.ne_of_lt (Nat.lt_of_lt_of_le (pr3.ext E295).lt sz_t300)) nin0))).keep K321 (ninS (Nat.ne_of_lt (Nat.lt_of_lt_of_le pr3.lt sz_b295)) (ninS (Nat.ne_of_lt (Nat.lt_of_lt_of_le (pr3.ext E295).lt sz_t300)) nin0))).keep K323 nin0)
  obtain ⟨_, _, ⟨T330, L330, k330, n330⟩, -, X330, ⟨Lc330, hQ330, l330, y330, z330⟩, st330⟩ := X323.specialBack hx (y := Y1) rfl hown (mvT hZ (wd hw 181 rfl)) (mvT hZ (wd hw 182 rfl)) (mvT hZ (wd hw 183 rfl)) (by decide) (backOf (W := 0) (rm_ad4s l Z a0 hw [] a1 s1 s2 s3 b323 T323.heap n0 Z324 O324 f325 f326 f327 f328 f329 pr8) hZ (wd hw 183 rfl) (wd hw 56 rfl) (by decide) (by decide)) (g := (mkF m 66 #[vr a1, vr s1, vr s2, vr s3] [(.ref b323), (.ref s3), (.ref s2), (.ref s1), (.ref a1)])) rfl (by rw [hml]; rfl) (Steps.refl _) (a := a1) (argsL := [(.ref s1), (.ref s2), (.ref s3), (.ref b323)]) (rest := []) (lenOf pd_29 rfl) rfl (by show 2 * 0 + _ ≤ _; exact Nat.le_of_eq rfl) (dk d14_66) (fun _ _ => ⟨rfl, rfl, Nat.le_of_ble_eq_true rfl, Nat.le_of_ble_eq_true rfl⟩)
  dsimp only [Pt.U, Pt.locs, Pt.cells, Pt.slots] at X330 l330 y330 z330 st330 hQ330
  subst l330 y330 z330
  obtain ⟨rfl, Nq330, K330, p330_0, p330_1, p330_2, p330_3, p330_4⟩ := hQ330
  have N330 := Fr.app N323 Nq330
  have X330 : Stand p l e _ _ m _ below meth c T330 _ 4 40 := X330
  have O331 := O324.keep K330 (allS pr8 all0)
  have Z331 : n0 ≤ T330.heap.size := Nat.le_trans Z324 K330.1
  refine gy (St T330 m 69 #[vr a1, vr s1, vr s2, vr s3] []) (fun _ k => st330.trans k) ?_
  refine Go.retV X330 hx hlk hret (dk d14_69) (by decide) (by decide) ?_
  exact ⟨b323, t323, k323, rfl, N330, ((((((((((Keep.refl h0 [a1]).ext E295).trans K300 (allS (Or.inr (Nat.le_trans (Nat.le_refl _) sz_b295)) all0)).trans K305 (allS (Or.inr (Nat.le_trans (Nat.le_refl _) sz_b295)) (allS (Or.inr (Nat.le_trans (Nat.le_trans (Nat.le_refl _) E295.1) sz_t300)) all0))).trans K307 (allS (Or.inr (Nat.le_trans (Nat.le_refl _) sz_b295)) (allS (Or.inr (Nat.le_trans (Nat.le_trans (Nat.le_refl _) E295.1) sz_t300)) all0))).trans K313 (allS (Or.inr (Nat.le_trans (Nat.le_refl _) sz_b295)) (allS (Or.inr (Nat.le_trans (Nat.le_trans (Nat.le_refl _) E295.1) sz_t300)) all0))).trans K315 (allS (Or.inr (Nat.le_trans (Nat.le_refl _) sz_b295)) (allS (Or.inr (Nat.le_trans (Nat.le_trans (Nat.le_refl _) E295.1) sz_t300)) all0))).trans K321 (allS (Or.inr (Nat.le_trans (Nat.le_refl _) sz_b295)) (allS (Or.inr (Nat.le_trans (Nat.le_trans (Nat.le_refl _) E295.1) sz_t300)) all0))).trans K323 all0).trans K330 (allS (Or.inl (List.mem_of_getElem? (i := 0) rfl)) all0)), p330_0, p330_4, (p323_0.keep K330), (p323_1.keep K330 (ninS (Ne.symm (Nat.ne_of_lt (Nat.lt_of_lt_of_le (((((((pr3.ext E295).keep K300).keep K305).keep K307).keep K313).keep K315).keep K321).lt sz_b323))) nin0)), (p323_2.keep K330 (ninS (Ne.symm (Nat.ne_of_lt (Nat.lt_of_lt_of_le (((((((pr3.ext E295).keep K300).keep K305).keep K307).keep K313).keep K315).keep K321).lt sz_b323))) nin0)), (p323_3.keep K330 (ninS (Ne.symm (Nat.ne_of_lt (Nat.lt_of_lt_of_le (((((((pr3.ext E295).keep K300).keep K305).keep K307).keep K313).keep K315).keep K321).lt sz_t323))) nin0))⟩
theorem ef_rm_eq_s (m : MethodId) (x0 : Addr) (x1 : Addr) : entryFrame m #[(.ref x0), (.ref x1)] 3 = mkF m 0 #[vr x0, vr x1, .unset] [] := by first | (simp [entryFrame, mkF, argsToLocals, Value.category]; done) | rfl
theorem d41_0 : decode prog_1_method_11_code 0 = .ok (.aload_n 0, 1) := by decide +kernel
theorem d41_1 : decode prog_1_method_11_code 1 = .ok (.aload_n 1, 1) := by decide +kernel
theorem d41_2 : decode prog_1_method_11_code 2 = .ok (.if_acmp .ne 5, 3) := by decide +kernel
theorem d41_5 : decode prog_1_method_11_code 5 = .ok (.iconst 1, 1) := by decide +kernel
theorem d41_6 : decode prog_1_method_11_code 6 = .ok (.ireturn, 1) := by decide +kernel
def Q_rm_eq_s (Z : State) (a1 : Addr) (h0 : Heap) (n0 : Nat) (vv : Option Value) (h : Heap) (L : List Loc) : Prop := vv = some (.int 1) ∧ Fr n0 L ∧ h = h0
set_option maxRecDepth 65536 in
set_option maxHeartbeats 40000000 in
theorem rm_eq_s (l : Launch) (Z : State) (a0 : Array Value) (hw : HW a0 Z) (ws : List Jvm.Cond) (a1 : Addr) (h0 : Heap) (n0 : Nat) (Z0 : n0 ≤ h0.size) :
    Met l Z Y2 prog_1_method_11_code 3 (some .boolean) ws ({ frames := 0, cells := 0, slots := 0, locals := 0 } : Room) #[(.ref a1), (.ref a1)] h0 (Q_rm_eq_s Z a1 h0 n0) := by
  refine Met.enter (f0 := fun m => mkF m 0 #[vr a1, vr a1, .unset] []) (plainFor_of_name pn_com_example_breakwater_breakwater_engine_Address) (fun m => ef_rm_eq_s m a1 a1) ?_
  intro p e s m below meth c s₁ hx hby hml hown hnm hret hlk hZ X0 e0
  have hown : s.vm.findClass "com/example/breakwater/breakwater/engine/Address" = some m.cls := hown
  have hnm : meth.name = "equals" := hnm
  have hml : c.maxLocals = 3 := hml
  have dk : ∀ {i : Nat} {r : Except DecodeError (Instr × Nat)}, decode prog_1_method_11_code i = r → decode c.code i = r := fun h => hb hby h
  have N0 := Fr.nil n0
  refine gy (St s₁ m 6 #[vr a1, vr a1, .unset] [(.int 1)]) (fun _ k => XS.aloadN X0.here hx rfl (dk d41_0) rfl rfl (XS.aloadN X0.here hx rfl (dk d41_1) rfl rfl (Jvm.RoadKit.acmp (g := (mkF m 2 #[vr a1, vr a1, .unset] [(.ref a1), (.ref a1)])) X0 hx rfl rfl rfl (pc0 := 2) (pc' := 5) (same := true) rfl (dk d41_2) rfl (decide_eq_true rfl) (by decide) (by decide) (XS.iconst X0.here hx rfl (dk d41_5) k)))) ?_
  refine Go.ret X0 hx hlk (t := .boolean) hret rfl (Or.inl ⟨rfl, by simp, _, rfl⟩) (dk d41_6) (by decide) (by decide) ?_
  rw [e0]
  exact ⟨rfl, N0, rfl⟩
theorem ef_rm_eq_n (m : MethodId) (x0 : Addr) : entryFrame m #[(.ref x0), .null] 3 = mkF m 0 #[vr x0, .val .null, .unset] [] := by first | (simp [entryFrame, mkF, argsToLocals, Value.category]; done) | rfl
theorem d41_7 : decode prog_1_method_11_code 7 = .ok (.aload_n 1, 1) := by decide +kernel
theorem d41_8 : decode prog_1_method_11_code 8 = .ok (.instanceof 19, 3) := by decide +kernel
theorem d41_11 : decode prog_1_method_11_code 11 = .ok (.ifCond .eq 26, 3) := by decide +kernel
theorem d41_37 : decode prog_1_method_11_code 37 = .ok (.iconst 0, 1) := by decide +kernel
theorem d41_38 : decode prog_1_method_11_code 38 = .ok (.ireturn, 1) := by decide +kernel
def Q_rm_eq_n (Z : State) (a1 : Addr) (h0 : Heap) (n0 : Nat) (vv : Option Value) (h : Heap) (L : List Loc) : Prop := vv = some (.int 0) ∧ Fr n0 L ∧ h = h0
set_option maxRecDepth 65536 in
set_option maxHeartbeats 40000000 in
theorem rm_eq_n (l : Launch) (Z : State) (a0 : Array Value) (hw : HW a0 Z) (ws : List Jvm.Cond) (a1 : Addr) (h0 : Heap) (n0 : Nat) (Z0 : n0 ≤ h0.size) :
    Met l Z Y2 prog_1_method_11_code 3 (some .boolean) ws ({ frames := 0, cells := 0, slots := 0, locals := 0 } : Room) #[(.ref a1), .null] h0 (Q_rm_eq_n Z a1 h0 n0) := by
  refine Met.enter (f0 := fun m => mkF m 0 #[vr a1, .val .null, .unset] []) (plainFor_of_name pn_com_example_breakwater_breakwater_engine_Address) (fun m => ef_rm_eq_n m a1) ?_
  intro p e s m below meth c s₁ hx hby hml hown hnm hret hlk hZ X0 e0
  have hown : s.vm.findClass "com/example/breakwater/breakwater/engine/Address" = some m.cls := hown
  have hnm : meth.name = "equals" := hnm
  have hml : c.maxLocals = 3 := hml
  have dk : ∀ {i : Nat} {r : Except DecodeError (Instr × Nat)}, decode prog_1_method_11_code i = r → decode c.code i = r := fun h => hb hby h
  have N0 := Fr.nil n0
  refine gy (St s₁ m 38 #[vr a1, .val .null, .unset] [(.int 0)]) (fun _ k => XS.aloadN X0.here hx rfl (dk d41_0) rfl rfl (XS.aloadN X0.here hx rfl (dk d41_1) rfl rfl (Jvm.RoadKit.acmp (g := (mkF m 2 #[vr a1, .val .null, .unset] [.null, (.ref a1)])) X0 hx rfl rfl rfl (pc0 := 2) (pc' := 7) (same := false) rfl (dk d41_2) rfl (decide_eq_false nofun) (by decide) (by decide) (XS.aloadN X0.here hx rfl (dk d41_7) rfl rfl (X0.instanceofNull hx (g := (mkF m 8 #[vr a1, .val .null, .unset] [.null])) rfl rfl (dk d41_8) _ (XS.ifYes X0.here hx rfl (pc0 := 11) (pc' := 37) rfl (dk d41_11) rfl ((if0 _ _).trans (teq (by decide : (0 : Int32) = (0 : Int32))).1) (by decide) (by decide) (XS.iconst X0.here hx rfl (dk d41_37) k))))))) ?_
  refine Go.ret X0 hx hlk (t := .boolean) hret rfl (Or.inl ⟨rfl, by simp, _, rfl⟩) (dk d41_38) (by decide) (by decide) ?_
  rw [e0]
  exact ⟨rfl, N0, rfl⟩
theorem ef_rm_eq_o (m : MethodId) (x0 : Addr) (x1 : Addr) : entryFrame m #[(.ref x0), (.ref x1)] 3 = mkF m 0 #[vr x0, vr x1, .unset] [] := by first | (simp [entryFrame, mkF, argsToLocals, Value.category]; done) | rfl
def Q_rm_eq_o (Z : State) (a1 : Addr) (a2 : Addr) (h0 : Heap) (n0 : Nat) (vv : Option Value) (h : Heap) (L : List Loc) : Prop := vv = some (.int 0) ∧ Fr n0 L ∧ h = h0
set_option maxRecDepth 65536 in
set_option maxHeartbeats 40000000 in
theorem rm_eq_o (l : Launch) (Z : State) (a0 : Array Value) (hw : HW a0 Z) (ws : List Jvm.Cond) (a1 : Addr) (a2 : Addr) (h0 : Heap) (n0 : Nat) (Z0 : n0 ≤ h0.size) (pr0 : Exa Z h0 a1 "com/example/breakwater/breakwater/engine/Address") (pr1 : Exa Z h0 a2 "java/lang/String") :
    Met l Z Y2 prog_1_method_11_code 3 (some .boolean) ws ({ frames := 0, cells := 0, slots := 0, locals := 0 } : Room) #[(.ref a1), (.ref a2)] h0 (Q_rm_eq_o Z a1 a2 h0 n0) := by
  refine Met.enter (f0 := fun m => mkF m 0 #[vr a1, vr a2, .unset] []) (plainFor_of_name pn_com_example_breakwater_breakwater_engine_Address) (fun m => ef_rm_eq_o m a1 a2) ?_
  intro p e s m below meth c s₁ hx hby hml hown hnm hret hlk hZ X0 e0
  have hown : s.vm.findClass "com/example/breakwater/breakwater/engine/Address" = some m.cls := hown
  have hnm : meth.name = "equals" := hnm
  have hml : c.maxLocals = 3 := hml
  have dk : ∀ {i : Nat} {r : Except DecodeError (Instr × Nat)}, decode prog_1_method_11_code i = r → decode c.code i = r := fun h => hb hby h
  have N0 := Fr.nil n0
  refine gy (St s₁ m 8 #[vr a1, vr a2, .unset] [(.ref a2)]) (fun _ k => XS.aloadN X0.here hx rfl (dk d41_0) rfl rfl (XS.aloadN X0.here hx rfl (dk d41_1) rfl rfl (Jvm.RoadKit.acmp (g := (mkF m 2 #[vr a1, vr a2, .unset] [(.ref a2), (.ref a1)])) X0 hx rfl rfl rfl (pc0 := 2) (pc' := 7) (same := false) rfl (dk d41_2) rfl (decide_eq_false fun q => (ne_exa pr0 pr1 (by decide)) (Value.ref.inj q)) (by decide) (by decide) (XS.aloadN X0.here hx rfl (dk d41_7) rfl rfl k)))) ?_
  obtain ⟨T332, X332, e332, st332⟩ := instNo X0 hx hZ hown (wd hw 206 rfl) e0 pr1 (own_notsub (wd hw 209 rfl) (wd hw 210 rfl) (wd hw 55 rfl) (by decide) (by decide)) (g := (mkF m 8 #[vr a1, vr a2, .unset] [(.ref a2)])) rfl rfl (dk d41_8)
  refine gy (St T332 m 11 #[vr a1, vr a2, .unset] [(.int 0)]) st332 ?_
  refine gy (St T332 m 38 #[vr a1, vr a2, .unset] [(.int 0)]) (fun _ k => XS.ifYes X332.here hx rfl (pc0 := 11) (pc' := 37) rfl (dk d41_11) rfl ((if0 _ _).trans (teq (by decide : (0 : Int32) = (0 : Int32))).1) (by decide) (by decide) (XS.iconst X332.here hx rfl (dk d41_37) k)) ?_
  refine Go.ret X332 hx hlk (t := .boolean) hret rfl (Or.inl ⟨rfl, by simp, _, rfl⟩) (dk d41_38) (by decide) (by decide) ?_
  rw [e332]
  exact ⟨rfl, N0, rfl⟩
theorem ef_rm_eq_i (m : MethodId) (x0 : Addr) (x1 : Addr) : entryFrame m #[(.ref x0), (.ref x1)] 3 = mkF m 0 #[vr x0, vr x1, .unset] [] := by first | (simp [entryFrame, mkF, argsToLocals, Value.category]; done) | rfl
theorem d41_14 : decode prog_1_method_11_code 14 = .ok (.aload_n 1, 1) := by decide +kernel
theorem d41_15 : decode prog_1_method_11_code 15 = .ok (.checkcast 19, 3) := by decide +kernel
theorem d41_18 : decode prog_1_method_11_code 18 = .ok (.astore_n 2, 1) := by decide +kernel
theorem d41_19 : decode prog_1_method_11_code 19 = .ok (.aload_n 0, 1) := by decide +kernel
theorem d41_20 : decode prog_1_method_11_code 20 = .ok (.getfield 36, 3) := by decide +kernel
theorem d41_23 : decode prog_1_method_11_code 23 = .ok (.aload_n 2, 1) := by decide +kernel
theorem d41_24 : decode prog_1_method_11_code 24 = .ok (.getfield 36, 3) := by decide +kernel
theorem d41_27 : decode prog_1_method_11_code 27 = .ok (.invokevirtual 124, 3) := by decide +kernel
theorem pd_30 : parseMethodDescriptor "(Ljava/lang/Object;)Z" = some ⟨[(.object "java/lang/Object")], some .boolean⟩ := by decide +kernel
theorem d41_30 : decode prog_1_method_11_code 30 = .ok (.ifCond .eq 7, 3) := by decide +kernel
theorem d41_33 : decode prog_1_method_11_code 33 = .ok (.iconst 1, 1) := by decide +kernel
theorem d41_34 : decode prog_1_method_11_code 34 = .ok (.goto 4, 3) := by decide +kernel
def Q_rm_eq_i (Z : State) (a1 : Addr) (a2 : Addr) (n1 : Addr) (nt1 : Addr) (nk1 : ClassId) (nc1 : List Int32) (n2 : Addr) (nt2 : Addr) (nk2 : ClassId) (nc2 : List Int32) (cs : Int32) (h0 : Heap) (n0 : Nat) (vv : Option Value) (h : Heap) (L : List Loc) : Prop := ∃ v : Int32, vv = some (.int v) ∧ Fr n0 L ∧ h = h0 ∧ ((v = 1 ∧ nc1 = nc2) ∨ (v = 0 ∧ ¬ nc1 = nc2))
set_option maxRecDepth 65536 in
set_option maxHeartbeats 40000000 in
theorem rm_eq_i (l : Launch) (Z : State) (a0 : Array Value) (hw : HW a0 Z) (ws : List Jvm.Cond) (a1 : Addr) (a2 : Addr) (n1 : Addr) (nt1 : Addr) (nk1 : ClassId) (nc1 : List Int32) (n2 : Addr) (nt2 : Addr) (nk2 : ClassId) (nc2 : List Int32) (cs : Int32) (h0 : Heap) (n0 : Nat) (Z0 : n0 ≤ h0.size) (pr0 : Old Z n0 h0) (pr1 : Sta Z Z.heap "java/lang/String" "COMPACT_STRINGS" "Z" (.int cs)) (hcs : ¬ (cs = (0 : Int32))) (pr3 : Exa Z h0 a1 "com/example/breakwater/breakwater/engine/Address") (pr4 : Fld Z h0 a1 "com/example/breakwater/breakwater/engine/Address" "text" "Ljava/lang/String;" (.ref n1)) (pr5 : Exa Z h0 n1 "java/lang/String") (pr6 : Fld Z h0 n1 "java/lang/String" "value" "[B" (.ref nt1)) (pr7 : Fld Z h0 n1 "java/lang/String" "coder" "B" (.int 0)) (pr8 : Arv Z h0 nt1 nk1 .byte (own_z nc1) (own_vs nc1) (.int 0)) (okn1 : own_ok nc1) (pr10 : Exa Z h0 a2 "com/example/breakwater/breakwater/engine/Address") (pr11 : Fld Z h0 a2 "com/example/breakwater/breakwater/engine/Address" "text" "Ljava/lang/String;" (.ref n2)) (pr12 : Exa Z h0 n2 "java/lang/String") (pr13 : Fld Z h0 n2 "java/lang/String" "value" "[B" (.ref nt2)) (pr14 : Fld Z h0 n2 "java/lang/String" "coder" "B" (.int 0)) (pr15 : Arv Z h0 nt2 nk2 .byte (own_z nc2) (own_vs nc2) (.int 0)) (okn2 : own_ok nc2) (pr17 : a1 ≠ a2) :
    Met l Z Y2 prog_1_method_11_code 3 (some .boolean) ws ({ frames := 2, cells := 0, slots := 0, locals := 28 } : Room) #[(.ref a1), (.ref a2)] h0 (Q_rm_eq_i Z a1 a2 n1 nt1 nk1 nc1 n2 nt2 nk2 nc2 cs h0 n0) := by
  refine Met.enter (f0 := fun m => mkF m 0 #[vr a1, vr a2, .unset] []) (plainFor_of_name pn_com_example_breakwater_breakwater_engine_Address) (fun m => ef_rm_eq_i m a1 a2) ?_
  intro p e s m below meth c s₁ hx hby hml hown hnm hret hlk hZ X0 e0
  have hown : s.vm.findClass "com/example/breakwater/breakwater/engine/Address" = some m.cls := hown
  have hnm : meth.name = "equals" := hnm
  have hml : c.maxLocals = 3 := hml
  have dk : ∀ {i : Nat} {r : Except DecodeError (Instr × Nat)}, decode prog_1_method_11_code i = r → decode c.code i = r := fun h => hb hby h
  have N0 := Fr.nil n0
  refine gy (St s₁ m 8 #[vr a1, vr a2, .unset] [(.ref a2)]) (fun _ k => XS.aloadN X0.here hx rfl (dk d41_0) rfl rfl (XS.aloadN X0.here hx rfl (dk d41_1) rfl rfl (Jvm.RoadKit.acmp (g := (mkF m 2 #[vr a1, vr a2, .unset] [(.ref a2), (.ref a1)])) X0 hx rfl rfl rfl (pc0 := 2) (pc' := 7) (same := false) rfl (dk d41_2) rfl (decide_eq_false fun q => pr17 (Value.ref.inj q)) (by decide) (by decide) (XS.aloadN X0.here hx rfl (dk d41_7) rfl rfl k)))) ?_
  obtain ⟨T333, X333, e333, st333⟩ := instY X0 hx hZ hown (wd hw 206 rfl) e0 (Ins.self pr10) (g := (mkF m 8 #[vr a1, vr a2, .unset] [(.ref a2)])) rfl rfl (dk d41_8)
  refine gy (St T333 m 11 #[vr a1, vr a2, .unset] [(.int 1)]) st333 ?_
  refine gy (St T333 m 15 #[vr a1, vr a2, .unset] [(.ref a2)]) (fun _ k => XS.ifNo X333.here hx rfl (dk d41_11) rfl ((if0 _ _).trans (feq (by decide : ¬ ((1 : Int32) = (0 : Int32)))).1) (XS.aloadN X333.here hx rfl (dk d41_14) rfl rfl k)) ?_
  obtain ⟨T334, X334, e334, st334⟩ := castY X333 hx hZ hown (wd hw 206 rfl) e333 (Ins.self pr10) (g := (mkF m 15 #[vr a1, vr a2, .unset] [(.ref a2)])) rfl rfl (dk d41_15)
  refine gy (St T334 m 18 #[vr a1, vr a2, .unset] [(.ref a2)]) st334 ?_
  refine gy (St T334 m 20 #[vr a1, vr a2, vr a2] [(.ref a1)]) (fun _ k => XS.astoreN X334.here hx rfl (dk d41_18) rfl rfl (l' := #[vr a1, vr a2, vr a2]) rfl (XS.aloadN X334.here hx rfl (dk d41_19) rfl rfl k)) ?_
  obtain ⟨T335, X335, e335, st335⟩ := getF X334 hx hZ hown (host := "") (Or.inl (wd hw 191 rfl)) Via.refl e334 pr4 (g := (mkF m 20 #[vr a1, vr a2, vr a2] [(.ref a1)])) rfl rfl (dk d41_20)
  refine gy (St T335 m 23 #[vr a1, vr a2, vr a2] [(.ref n1)]) st335 ?_
  refine gy (St T335 m 24 #[vr a1, vr a2, vr a2] [(.ref a2), (.ref n1)]) (fun _ k => XS.aloadN X335.here hx rfl (dk d41_23) rfl rfl k) ?_
  obtain ⟨T336, X336, e336, st336⟩ := getF X335 hx hZ hown (host := "") (Or.inl (wd hw 191 rfl)) Via.refl e335 pr11 (g := (mkF m 24 #[vr a1, vr a2, vr a2] [(.ref a2), (.ref n1)])) rfl rfl (dk d41_24)
  refine gy (St T336 m 27 #[vr a1, vr a2, vr a2] [(.ref n2), (.ref n1)]) st336 ?_
  obtain ⟨cq337, kq337, q337a, q337b, q337c⟩ := isOf hZ e336 pr5
  obtain ⟨_, _, ⟨T337, L337, k337, n337⟩, -, X337, ⟨Lc337, hQ337, l337, y337, z337⟩, st337⟩ := X336.virtualBack hx (y := Y23) (z := Y23) hown (mvT hZ (wd hw 208 rfl)) (mvT hZ (wd hw 194 rfl)) (notFace_of_selects (args := #[]) (mvT hZ (wd hw 196 rfl))) (mvT hZ (wd hw 196 rfl)) (mvT hZ (wd hw 195 rfl)) (by decide) (StrChars.Road.eqW (W := 0) hZ (own_heq hw) (kI := 4) (wd hw 17 rfl) pr5 pr6 pr7 pr8 (own_cod okn1) (own_up okn1) okn1.2 pr12 pr13 pr14 pr15 (own_cod okn2) (own_up okn2) okn2.2 (pr1.ext pr0.2) hcs (by decide) (by decide)) q337a q337c (g := (mkF m 27 #[vr a1, vr a2, vr a2] [(.ref n2), (.ref n1)])) rfl (by rw [hml]; rfl) (Steps.refl _) (argsL := [(.ref n2)]) (rest := []) (lenOf pd_30 rfl) rfl (by show 2 * 0 + _ ≤ _; exact Nat.le_of_eq rfl) (dk d41_27) (fun _ _ => ⟨rfl, e336, Nat.le_of_ble_eq_true rfl, Nat.le_of_ble_eq_true rfl⟩)
  dsimp only [Pt.U, Pt.locs, Pt.cells, Pt.slots] at X337 l337 y337 z337 st337 hQ337
  subst l337 y337 z337
  obtain ⟨hv337, hL337, hh337⟩ := hQ337
  subst hL337
  have N337 := Fr.app N0 (Fr.nil n0)
  rcases hv337 with ⟨rfl, e338⟩ | ⟨rfl, e338⟩
  · skip
    refine gy (St T337 m 30 #[vr a1, vr a2, vr a2] [(.int 1)]) (fun _ k => st337.trans k) ?_
    refine gy (St T337 m 38 #[vr a1, vr a2, vr a2] [(.int 1)]) (fun _ k => XS.ifNo X337.here hx rfl (dk d41_30) rfl ((if0 _ _).trans (feq (by decide : ¬ ((1 : Int32) = (0 : Int32)))).1) (XS.iconst X337.here hx rfl (dk d41_33) (XS.goto X337.here hx rfl (pc0 := 34) (pc' := 38) rfl (dk d41_34) (by decide) (by decide) k))) ?_
    refine Go.ret X337 hx hlk (t := .boolean) hret rfl (Or.inl ⟨rfl, by simp, _, rfl⟩) (dk d41_38) (by decide) (by decide) ?_
    rw [hh337]
    exact ⟨(1 : Int32), rfl, N337, rfl, (Or.inl ⟨rfl, e338⟩)⟩
  · skip
    refine gy (St T337 m 30 #[vr a1, vr a2, vr a2] [(.int 0)]) (fun _ k => st337.trans k) ?_
    refine gy (St T337 m 38 #[vr a1, vr a2, vr a2] [(.int 0)]) (fun _ k => XS.ifYes X337.here hx rfl (pc0 := 30) (pc' := 37) rfl (dk d41_30) rfl ((if0 _ _).trans (teq (by decide : (0 : Int32) = (0 : Int32))).1) (by decide) (by decide) (XS.iconst X337.here hx rfl (dk d41_37) k)) ?_
    refine Go.ret X337 hx hlk (t := .boolean) hret rfl (Or.inl ⟨rfl, by simp, _, rfl⟩) (dk d41_38) (by decide) (by decide) ?_
    rw [hh337]
    exact ⟨(0 : Int32), rfl, N337, rfl, (Or.inr ⟨rfl, e338⟩)⟩
theorem ef_rm0 (m : MethodId) (x0 : Int32) (x1 : Int32) (x2 : Int32) : entryFrame m #[(.int x0), (.int x1), (.int x2)] maxLocals = mkF m 0 #[vi x0, vi x1, vi x2, .unset, .unset, .unset, .unset, .unset, .unset, .unset, .unset, .unset, .unset, .unset, .unset, .unset, .unset, .unset, .unset] [] := by first | (simp [entryFrame, mkF, argsToLocals, Value.category, maxLocals]; done) | rfl
theorem pd_31 : parseMethodDescriptor "(I)Ljava/lang/String;" = some ⟨[.int], some (.object "java/lang/String")⟩ := by decide +kernel
theorem pd_32 : parseMethodDescriptor "(Ljava/lang/String;Ljava/lang/String;Ljava/lang/String;)V" = some ⟨[(.object "java/lang/String"), (.object "java/lang/String"), (.object "java/lang/String")], none⟩ := by decide +kernel
def Q_rm0 (Z : State) (p1 : Int32) (p2 : Int32) (p3 : Int32) (cs : Int32) (h0 : Heap) (n0 : Nat) (vv : Option Value) (h : Heap) (L : List Loc) : Prop := vv = some (.int 1) ∧ Fr n0 L
set_option maxRecDepth 65536 in
set_option maxHeartbeats 40000000 in
theorem rm0 (l : Launch) (Z : State) (a0 : Array Value) (hw : HW a0 Z) (ws : List Jvm.Cond) (p1 : Int32) (p2 : Int32) (p3 : Int32) (cs : Int32) (h0 : Heap) (n0 : Nat) (Z0 : n0 ≤ h0.size) (pr0 : Old Z n0 h0) (pr1 : Sta Z Z.heap "java/lang/String" "COMPACT_STRINGS" "Z" (.int cs)) (hcs : ¬ (cs = (0 : Int32))) :
    MetS l Z own_EL x code maxLocals ret ws room_1 #[(.int p1), (.int p2), (.int p3)] h0 (Q_rm0 Z p1 p2 p3 cs h0 n0) := by
  refine MetS.enter (f0 := fun m => mkF m 0 #[vi p1, vi p2, vi p3, .unset, .unset, .unset, .unset, .unset, .unset, .unset, .unset, .unset, .unset, .unset, .unset, .unset, .unset, .unset, .unset] []) (plainFor_of_name pn_com_example_breakwater_breakwater_engine_AddressEqualsPinLaw) (fun m => ef_rm0 m p1 p2 p3) ?_
  intro p e s m below meth c s₁ hx hby hml hown hnm hret hlk hZ X0 e0 hS C0
  have hown : s.vm.findClass "com/example/breakwater/breakwater/engine/AddressEqualsPinLaw" = some m.cls := hown
  have hnm : meth.name = "law" := hnm
  have hml : c.maxLocals = 19 := hml
  have dk : ∀ {i : Nat} {r : Except DecodeError (Instr × Nat)}, decode code i = r → decode c.code i = r := fun h => hb hby h
  have N0 := Fr.nil n0
  have hk : h0.size ≤ h0.size := Nat.le_refl _
  have hEL : EW Z a0 own_EL := own_hEL hw
  have wS : ∀ a ∈ Bundle.stringAtoms, a.before a0 Z = true := own_wS hw
  obtain ⟨lc339, X339, N339⟩ : ∃ lc, Stand p l e room_1 (s.setVm s.vm) m #[(.int p1), (.int p2), (.int p3)] below meth c s₁ lc 0 0 ∧ Fr n0 lc := ⟨_, X0, N0⟩
  have e339 : s₁.heap = h0 := e0
  have J339 : ∀ (T340 : State) (X340 : Stand p l e room_1 (s.setVm s.vm) m #[(.int p1), (.int p2), (.int p3)] below meth c T340 lc339 0 0) (e340 : T340.heap = h0) (bb340 : Int32), Go p e below (PostS Z own_EL s room_1.cells room_1.slots (Q_rm0 Z p1 p2 p3 cs h0 n0)) (T340.setTop (mkF m 11 #[vi p1, vi p2, vi p3, .unset, .unset, .unset, .unset, .unset, .unset, .unset, .unset, .unset, .unset, .unset, .unset, .unset, .unset, .unset, .unset] [(.int bb340)])) := by
    intro T340 X340 e340 bb340
    refine gy (St T340 m 13 #[vi p1, vi p2, vi p3, vi bb340, .unset, .unset, .unset, .unset, .unset, .unset, .unset, .unset, .unset, .unset, .unset, .unset, .unset, .unset, .unset] [(.int p1)]) (fun _ k => XS.istoreN X340.here hx rfl (dk at_11) rfl (l' := #[vi p1, vi p2, vi p3, vi bb340, .unset, .unset, .unset, .unset, .unset, .unset, .unset, .unset, .unset, .unset, .unset, .unset, .unset, .unset, .unset]) rfl (XS.iloadN X340.here hx rfl (dk at_12) rfl k)) ?_
    obtain ⟨_, _, ⟨T341, L341, k341, n341⟩, -, X341, ⟨Lc341, hQ341, l341, y341, z341⟩, st341⟩ := Jvm.LawKit.callS X340 hx (y := Y5) hown (mvT hZ (wd hw 0 rfl)) (mvT hZ (wd hw 1 rfl)) (mvT hZ (wd hw 2 rfl)) (mvT hZ (wd hw 3 rfl)) (by decide) (backOf (W := 0) (rm_name l Z a0 hw [] p1 cs h0 n0 Z0 pr0 pr1 hcs) hZ (wd hw 3 rfl) (wd hw 2 rfl) (by decide) (by decide)) (g := (mkF m 13 #[vi p1, vi p2, vi p3, vi bb340, .unset, .unset, .unset, .unset, .unset, .unset, .unset, .unset, .unset, .unset, .unset, .unset, .unset, .unset, .unset] [(.int p1)])) rfl (by rw [hml]; rfl) (argsL := [(.int p1)]) (rest := []) (lenOf pd_31 rfl) rfl (by show 2 * 0 + _ ≤ _; exact Nat.le_of_eq rfl) (dk at_13) (fun _ _ => ⟨rfl, e340, Nat.le_of_ble_eq_true rfl, Nat.le_of_ble_eq_true rfl⟩)
    dsimp only [Pt.U, Pt.locs, Pt.cells, Pt.slots] at X341 l341 y341 z341 st341 hQ341
    subst l341 y341 z341
    obtain ⟨b341, t341, k341, rfl, Nq341, K341, p341_0, p341_1, p341_2, p341_3, p341_4⟩ := hQ341
    have N341 := Fr.app N339 Nq341
    have X341 : Stand p l e _ _ m _ below meth c T341 _ 3 8 := X341
    have C342 := C0.trans (CHr.keep K341 sf0 C0.1)
    have O342 := pr0.keep K341 all0
    have Z342 : n0 ≤ T341.heap.size := Nat.le_trans Z0 K341.1
    have sz_b341 : h0.size ≤ b341 := p341_4
    refine gy (St T341 m 16 #[vi p1, vi p2, vi p3, vi bb340, .unset, .unset, .unset, .unset, .unset, .unset, .unset, .unset, .unset, .unset, .unset, .unset, .unset, .unset, .unset] [(.ref b341)]) (fun _ k => st341 _ k) ?_
    refine gy (St T341 m 21 #[vi p1, vi p2, vi p3, vi bb340, vr b341, .unset, .unset, .unset, .unset, .unset, .unset, .unset, .unset, .unset, .unset, .unset, .unset, .unset, .unset] [(.int ((p1.toUInt32 >>> ((5 : Int32) &&& 31).toUInt32).toInt32))]) (fun _ k => XS.astore X341.here hx rfl (dk at_16) rfl rfl (l' := #[vi p1, vi p2, vi p3, vi bb340, vr b341, .unset, .unset, .unset, .unset, .unset, .unset, .unset, .unset, .unset, .unset, .unset, .unset, .unset, .unset]) rfl (XS.iloadN X341.here hx rfl (dk at_18) rfl (XS.iconst X341.here hx rfl (dk at_19) (XS.iushr X341.here hx rfl (dk at_20) rfl k)))) ?_
    obtain ⟨_, _, ⟨T343, L343, k343, n343⟩, -, X343, ⟨Lc343, hQ343, l343, y343, z343⟩, st343⟩ := Jvm.LawKit.callS X341 hx (y := Y5) hown (mvT hZ (wd hw 0 rfl)) (mvT hZ (wd hw 1 rfl)) (mvT hZ (wd hw 2 rfl)) (mvT hZ (wd hw 3 rfl)) (by decide) (backOf (W := 0) (rm_name l Z a0 hw [] ((p1.toUInt32 >>> ((5 : Int32) &&& 31).toUInt32).toInt32) cs T341.heap n0 Z342 O342 pr1 hcs) hZ (wd hw 3 rfl) (wd hw 2 rfl) (by decide) (by decide)) (g := (mkF m 21 #[vi p1, vi p2, vi p3, vi bb340, vr b341, .unset, .unset, .unset, .unset, .unset, .unset, .unset, .unset, .unset, .unset, .unset, .unset, .unset, .unset] [(.int ((p1.toUInt32 >>> ((5 : Int32) &&& 31).toUInt32).toInt32))])) rfl (by rw [hml]; rfl) (argsL := [(.int ((p1.toUInt32 >>> ((5 : Int32) &&& 31).toUInt32).toInt32))]) (rest := []) (lenOf pd_31 rfl) rfl (by show 2 * 0 + _ ≤ _; exact Nat.le_of_eq rfl) (dk at_21) (fun _ _ => ⟨rfl, rfl, Nat.le_of_ble_eq_true rfl, Nat.le_of_ble_eq_true rfl⟩)
    dsimp only [Pt.U, Pt.locs, Pt.cells, Pt.slots] at X343 l343 y343 z343 st343 hQ343
    subst l343 y343 z343
    obtain ⟨b343, t343, k343, rfl, Nq343, K343, p343_0, p343_1, p343_2, p343_3, p343_4⟩ := hQ343
    have N343 := Fr.app N341 Nq343
    have X343 : Stand p l e _ _ m _ below meth c T343 _ 6 16 := X343
    have C344 := C342.trans (CHr.keep K343 sf0 C342.1)
    have O344 := O342.keep K343 all0
    have Z344 : n0 ≤ T343.heap.size := Nat.le_trans Z342 K343.1
    have sz_b343 : T341.heap.size ≤ b343 := p343_4
    refine gy (St T343 m 24 #[vi p1, vi p2, vi p3, vi bb340, vr b341, .unset, .unset, .unset, .unset, .unset, .unset, .unset, .unset, .unset, .unset, .unset, .unset, .unset, .unset] [(.ref b343)]) (fun _ k => st343 _ k) ?_
    refine gy (St T343 m 30 #[vi p1, vi p2, vi p3, vi bb340, vr b341, vr b343, .unset, .unset, .unset, .unset, .unset, .unset, .unset, .unset, .unset, .unset, .unset, .unset, .unset] [(.int ((p1.toUInt32 >>> ((10 : Int32) &&& 31).toUInt32).toInt32))]) (fun _ k => XS.astore X343.here hx rfl (dk at_24) rfl rfl (l' := #[vi p1, vi p2, vi p3, vi bb340, vr b341, vr b343, .unset, .unset, .unset, .unset, .unset, .unset, .unset, .unset, .unset, .unset, .unset, .unset, .unset]) rfl (XS.iloadN X343.here hx rfl (dk at_26) rfl (XS.bipush X343.here hx rfl (dk at_27) (XS.iushr X343.here hx rfl (dk at_29) rfl k)))) ?_
    rcases Classical.em ((((p1.toUInt32 >>> ((10 : Int32) &&& 31).toUInt32).toInt32) &&& (1 : Int32)) = (0 : Int32)) with c345 | c345
    · skip
      obtain ⟨_, _, ⟨T346, L346, k346, n346⟩, -, X346, ⟨Lc346, hQ346, l346, y346, z346⟩, st346⟩ := Jvm.LawKit.callS X343 hx (y := Y4) hown (mvT hZ (wd hw 33 rfl)) (mvT hZ (wd hw 34 rfl)) (mvT hZ (wd hw 2 rfl)) (mvT hZ (wd hw 35 rfl)) (by decide) (backOf (W := 0) (rm_endN l Z a0 hw [] ((p1.toUInt32 >>> ((10 : Int32) &&& 31).toUInt32).toInt32) T343.heap n0 Z344 c345) hZ (wd hw 35 rfl) (wd hw 2 rfl) (by decide) (by decide)) (g := (mkF m 30 #[vi p1, vi p2, vi p3, vi bb340, vr b341, vr b343, .unset, .unset, .unset, .unset, .unset, .unset, .unset, .unset, .unset, .unset, .unset, .unset, .unset] [(.int ((p1.toUInt32 >>> ((10 : Int32) &&& 31).toUInt32).toInt32))])) rfl (by rw [hml]; rfl) (argsL := [(.int ((p1.toUInt32 >>> ((10 : Int32) &&& 31).toUInt32).toInt32))]) (rest := []) (lenOf pd_31 rfl) rfl (by show 2 * 0 + _ ≤ _; exact Nat.le_of_eq rfl) (dk at_30) (fun _ _ => ⟨rfl, rfl, Nat.le_of_ble_eq_true rfl, Nat.le_of_ble_eq_true rfl⟩)
      dsimp only [Pt.U, Pt.locs, Pt.cells, Pt.slots] at X346 l346 y346 z346 st346 hQ346
      subst l346 y346 z346
      obtain ⟨rfl, Nq346, hh346⟩ := hQ346
      have N346 := Fr.app N343 Nq346
      have X346 : Stand p l e _ _ m _ below meth c T346 _ 6 16 := X346
      refine gy (St T346 m 33 #[vi p1, vi p2, vi p3, vi bb340, vr b341, vr b343, .unset, .unset, .unset, .unset, .unset, .unset, .unset, .unset, .unset, .unset, .unset, .unset, .unset] [.null]) (fun _ k => st346 _ k) ?_
      refine gy (St T346 m 36 #[vi p1, vi p2, vi p3, vi bb340, vr b341, vr b343, .val .null, .unset, .unset, .unset, .unset, .unset, .unset, .unset, .unset, .unset, .unset, .unset, .unset] [(.int bb340)]) (fun _ k => XS.astore X346.here hx rfl (dk at_33) rfl rfl (l' := #[vi p1, vi p2, vi p3, vi bb340, vr b341, vr b343, .val .null, .unset, .unset, .unset, .unset, .unset, .unset, .unset, .unset, .unset, .unset, .unset, .unset]) rfl (XS.iloadN X346.here hx rfl (dk at_35) rfl k)) ?_
      obtain ⟨_, _, ⟨T347, L347, k347, n347⟩, -, X347, ⟨Lc347, hQ347, l347, y347, z347⟩, st347⟩ := Jvm.LawKit.callS X346 hx (y := Y5) hown (mvT hZ (wd hw 0 rfl)) (mvT hZ (wd hw 1 rfl)) (mvT hZ (wd hw 2 rfl)) (mvT hZ (wd hw 3 rfl)) (by decide) (backOf (W := 0) (rm_name l Z a0 hw [] bb340 cs T343.heap n0 Z344 O344 pr1 hcs) hZ (wd hw 3 rfl) (wd hw 2 rfl) (by decide) (by decide)) (g := (mkF m 36 #[vi p1, vi p2, vi p3, vi bb340, vr b341, vr b343, .val .null, .unset, .unset, .unset, .unset, .unset, .unset, .unset, .unset, .unset, .unset, .unset, .unset] [(.int bb340)])) rfl (by rw [hml]; rfl) (argsL := [(.int bb340)]) (rest := []) (lenOf pd_31 rfl) rfl (by show 2 * 0 + _ ≤ _; exact Nat.le_of_eq rfl) (dk at_36) (fun _ _ => ⟨rfl, hh346, Nat.le_of_ble_eq_true rfl, Nat.le_of_ble_eq_true rfl⟩)
      dsimp only [Pt.U, Pt.locs, Pt.cells, Pt.slots] at X347 l347 y347 z347 st347 hQ347
      subst l347 y347 z347
      obtain ⟨b347, t347, k347, rfl, Nq347, K347, p347_0, p347_1, p347_2, p347_3, p347_4⟩ := hQ347
      have N347 := Fr.app N346 Nq347
      have X347 : Stand p l e _ _ m _ below meth c T347 _ 9 24 := X347
      have C348 := C344.trans (CHr.keep K347 sf0 C344.1)
      have O348 := O344.keep K347 all0
      have Z348 : n0 ≤ T347.heap.size := Nat.le_trans Z344 K347.1
      have sz_b347 : T343.heap.size ≤ b347 := p347_4
      refine gy (St T347 m 39 #[vi p1, vi p2, vi p3, vi bb340, vr b341, vr b343, .val .null, .unset, .unset, .unset, .unset, .unset, .unset, .unset, .unset, .unset, .unset, .unset, .unset] [(.ref b347)]) (fun _ k => st347 _ k) ?_
      refine gy (St T347 m 44 #[vi p1, vi p2, vi p3, vi bb340, vr b341, vr b343, .val .null, vr b347, .unset, .unset, .unset, .unset, .unset, .unset, .unset, .unset, .unset, .unset, .unset] [(.int ((bb340.toUInt32 >>> ((5 : Int32) &&& 31).toUInt32).toInt32))]) (fun _ k => XS.astore X347.here hx rfl (dk at_39) rfl rfl (l' := #[vi p1, vi p2, vi p3, vi bb340, vr b341, vr b343, .val .null, vr b347, .unset, .unset, .unset, .unset, .unset, .unset, .unset, .unset, .unset, .unset, .unset]) rfl (XS.iloadN X347.here hx rfl (dk at_41) rfl (XS.iconst X347.here hx rfl (dk at_42) (XS.iushr X347.here hx rfl (dk at_43) rfl k)))) ?_
      obtain ⟨_, _, ⟨T349, L349, k349, n349⟩, -, X349, ⟨Lc349, hQ349, l349, y349, z349⟩, st349⟩ := Jvm.LawKit.callS X347 hx (y := Y5) hown (mvT hZ (wd hw 0 rfl)) (mvT hZ (wd hw 1 rfl)) (mvT hZ (wd hw 2 rfl)) (mvT hZ (wd hw 3 rfl)) (by decide) (backOf (W := 0) (rm_name l Z a0 hw [] ((bb340.toUInt32 >>> ((5 : Int32) &&& 31).toUInt32).toInt32) cs T347.heap n0 Z348 O348 pr1 hcs) hZ (wd hw 3 rfl) (wd hw 2 rfl) (by decide) (by decide)) (g := (mkF m 44 #[vi p1, vi p2, vi p3, vi bb340, vr b341, vr b343, .val .null, vr b347, .unset, .unset, .unset, .unset, .unset, .unset, .unset, .unset, .unset, .unset, .unset] [(.int ((bb340.toUInt32 >>> ((5 : Int32) &&& 31).toUInt32).toInt32))])) rfl (by rw [hml]; rfl) (argsL := [(.int ((bb340.toUInt32 >>> ((5 : Int32) &&& 31).toUInt32).toInt32))]) (rest := []) (lenOf pd_31 rfl) rfl (by show 2 * 0 + _ ≤ _; exact Nat.le_of_eq rfl) (dk at_44) (fun _ _ => ⟨rfl, rfl, Nat.le_of_ble_eq_true rfl, Nat.le_of_ble_eq_true rfl⟩)
      dsimp only [Pt.U, Pt.locs, Pt.cells, Pt.slots] at X349 l349 y349 z349 st349 hQ349
      subst l349 y349 z349
      obtain ⟨b349, t349, k349, rfl, Nq349, K349, p349_0, p349_1, p349_2, p349_3, p349_4⟩ := hQ349
      have N349 := Fr.app N347 Nq349
      have X349 : Stand p l e _ _ m _ below meth c T349 _ 12 32 := X349
      have C350 := C348.trans (CHr.keep K349 sf0 C348.1)
      have O350 := O348.keep K349 all0
      have Z350 : n0 ≤ T349.heap.size := Nat.le_trans Z348 K349.1
      have sz_b349 : T347.heap.size ≤ b349 := p349_4
      refine gy (St T349 m 47 #[vi p1, vi p2, vi p3, vi bb340, vr b341, vr b343, .val .null, vr b347, .unset, .unset, .unset, .unset, .unset, .unset, .unset, .unset, .unset, .unset, .unset] [(.ref b349)]) (fun _ k => st349 _ k) ?_
      refine gy (St T349 m 53 #[vi p1, vi p2, vi p3, vi bb340, vr b341, vr b343, .val .null, vr b347, vr b349, .unset, .unset, .unset, .unset, .unset, .unset, .unset, .unset, .unset, .unset] [(.int ((bb340.toUInt32 >>> ((10 : Int32) &&& 31).toUInt32).toInt32))]) (fun _ k => XS.astore X349.here hx rfl (dk at_47) rfl rfl (l' := #[vi p1, vi p2, vi p3, vi bb340, vr b341, vr b343, .val .null, vr b347, vr b349, .unset, .unset, .unset, .unset, .unset, .unset, .unset, .unset, .unset, .unset]) rfl (XS.iloadN X349.here hx rfl (dk at_49) rfl (XS.bipush X349.here hx rfl (dk at_50) (XS.iushr X349.here hx rfl (dk at_52) rfl k)))) ?_
      rcases Classical.em ((((bb340.toUInt32 >>> ((10 : Int32) &&& 31).toUInt32).toInt32) &&& (1 : Int32)) = (0 : Int32)) with c351 | c351
      · skip
        obtain ⟨_, _, ⟨T352, L352, k352, n352⟩, -, X352, ⟨Lc352, hQ352, l352, y352, z352⟩, st352⟩ := Jvm.LawKit.callS X349 hx (y := Y4) hown (mvT hZ (wd hw 33 rfl)) (mvT hZ (wd hw 34 rfl)) (mvT hZ (wd hw 2 rfl)) (mvT hZ (wd hw 35 rfl)) (by decide) (backOf (W := 0) (rm_endN l Z a0 hw [] ((bb340.toUInt32 >>> ((10 : Int32) &&& 31).toUInt32).toInt32) T349.heap n0 Z350 c351) hZ (wd hw 35 rfl) (wd hw 2 rfl) (by decide) (by decide)) (g := (mkF m 53 #[vi p1, vi p2, vi p3, vi bb340, vr b341, vr b343, .val .null, vr b347, vr b349, .unset, .unset, .unset, .unset, .unset, .unset, .unset, .unset, .unset, .unset] [(.int ((bb340.toUInt32 >>> ((10 : Int32) &&& 31).toUInt32).toInt32))])) rfl (by rw [hml]; rfl) (argsL := [(.int ((bb340.toUInt32 >>> ((10 : Int32) &&& 31).toUInt32).toInt32))]) (rest := []) (lenOf pd_31 rfl) rfl (by show 2 * 0 + _ ≤ _; exact Nat.le_of_eq rfl) (dk at_53) (fun _ _ => ⟨rfl, rfl, Nat.le_of_ble_eq_true rfl, Nat.le_of_ble_eq_true rfl⟩)
        dsimp only [Pt.U, Pt.locs, Pt.cells, Pt.slots] at X352 l352 y352 z352 st352 hQ352
        subst l352 y352 z352
        obtain ⟨rfl, Nq352, hh352⟩ := hQ352
        have N352 := Fr.app N349 Nq352
        have X352 : Stand p l e _ _ m _ below meth c T352 _ 12 32 := X352
        refine gy (St T352 m 56 #[vi p1, vi p2, vi p3, vi bb340, vr b341, vr b343, .val .null, vr b347, vr b349, .unset, .unset, .unset, .unset, .unset, .unset, .unset, .unset, .unset, .unset] [.null]) (fun _ k => st352 _ k) ?_
        refine gy (St T352 m 58 #[vi p1, vi p2, vi p3, vi bb340, vr b341, vr b343, .val .null, vr b347, vr b349, .val .null, .unset, .unset, .unset, .unset, .unset, .unset, .unset, .unset, .unset] []) (fun _ k => XS.astore X352.here hx rfl (dk at_56) rfl rfl (l' := #[vi p1, vi p2, vi p3, vi bb340, vr b341, vr b343, .val .null, vr b347, vr b349, .val .null, .unset, .unset, .unset, .unset, .unset, .unset, .unset, .unset, .unset]) rfl k) ?_
        obtain ⟨T353, h353, X353, e353, E353, A353, D353, -, st353⟩ := newO X352 hx hZ hown (wd hw 54 rfl) (wd hw 55 rfl) (wd hw 56 rfl) hh352 (g := (mkF m 58 #[vi p1, vi p2, vi p3, vi bb340, vr b341, vr b343, .val .null, vr b347, vr b349, .val .null, .unset, .unset, .unset, .unset, .unset, .unset, .unset, .unset, .unset] [])) rfl (dk at_58) (by decide) (by decide)
        obtain ⟨b353, g353⟩ : ∃ z, z = T349.heap.size := ⟨_, rfl⟩
        rw [← g353] at A353 D353 st353
        have sz_b353 : T349.heap.size ≤ b353 := Nat.le_of_eq g353.symm
        have C354 := C350.trans (CHr.ext E353 C350.1)
        have O354 := O350.ext E353
        have Z354 : n0 ≤ h353.size := Nat.le_trans Z350 E353.1
        have F355 : Fld Z h353 b353 "com/example/breakwater/breakwater/engine/Address" "scope" "Ljava/lang/String;" .null := D353 (Or.inr (wd hw 186 rfl)) (ty := (.object "java/lang/String")) (by decide)
        have F356 : Fld Z h353 b353 "com/example/breakwater/breakwater/engine/Address" "service" "Ljava/lang/String;" .null := D353 (Or.inr (wd hw 188 rfl)) (ty := (.object "java/lang/String")) (by decide)
        have F357 : Fld Z h353 b353 "com/example/breakwater/breakwater/engine/Address" "endpoint" "Ljava/lang/String;" .null := D353 (Or.inr (wd hw 190 rfl)) (ty := (.object "java/lang/String")) (by decide)
        have F358 : Fld Z h353 b353 "com/example/breakwater/breakwater/engine/Address" "text" "Ljava/lang/String;" .null := D353 (Or.inr (wd hw 192 rfl)) (ty := (.object "java/lang/String")) (by decide)
        refine gy (St T353 m 61 #[vi p1, vi p2, vi p3, vi bb340, vr b341, vr b343, .val .null, vr b347, vr b349, .val .null, .unset, .unset, .unset, .unset, .unset, .unset, .unset, .unset, .unset] [(.ref b353)]) st353 ?_
        refine gy (St T353 m 68 #[vi p1, vi p2, vi p3, vi bb340, vr b341, vr b343, .val .null, vr b347, vr b349, .val .null, .unset, .unset, .unset, .unset, .unset, .unset, .unset, .unset, .unset] [.null, (.ref b343), (.ref b341), (.ref b353), (.ref b353)]) (fun _ k => XS.dup X353.here hx rfl (dk at_61) rfl rfl (XS.aload X353.here hx rfl (dk at_62) rfl rfl (XS.aload X353.here hx rfl (dk at_64) rfl rfl (XS.aload X353.here hx rfl (dk at_66) rfl rfl k)))) ?_
        have f359 := ((((p341_0.keep K343).keep K347).keep K349).ext E353)
        have f360 := ((((p341_1.keep K343 nin0).keep K347 nin0).keep K349 nin0).ext E353)
        have f361 := ((((p341_2.keep K343 nin0).keep K347 nin0).keep K349 nin0).ext E353)
        have f362 := ((((p341_3.keep K343 nin0).keep K347 nin0).keep K349 nin0).ext E353)
        have f363 := (((p343_0.keep K347).keep K349).ext E353)
        have f364 := (((p343_1.keep K347 nin0).keep K349 nin0).ext E353)
        have f365 := (((p343_2.keep K347 nin0).keep K349 nin0).ext E353)
        have f366 := (((p343_3.keep K347 nin0).keep K349 nin0).ext E353)
        obtain ⟨_, _, ⟨T367, L367, k367, n367⟩, -, X367, ⟨Lc367, hQ367, l367, y367, z367⟩, st367⟩ := X353.specialBack hx (y := Y0) rfl hown (mvT hZ (wd hw 57 rfl)) (mvT hZ (wd hw 58 rfl)) (mvT hZ (wd hw 59 rfl)) (by decide) (backOf (W := 1) (rm_ad3n l Z a0 hw [] b353 b341 t341 k341 (own_nm p1) b343 t343 k343 (own_nm ((p1.toUInt32 >>> ((5 : Int32) &&& 31).toUInt32).toInt32)) cs h353 n0 Z354 O354 pr1 hcs A353 F355 F356 F357 F358 (Nat.le_trans Z350 sz_b353) f359 f360 f361 f362 (own_nmL _) f363 f364 f365 f366 (own_nmL _)) hZ (wd hw 59 rfl) (wd hw 56 rfl) (by decide) (by decide)) (g := (mkF m 68 #[vi p1, vi p2, vi p3, vi bb340, vr b341, vr b343, .val .null, vr b347, vr b349, .val .null, .unset, .unset, .unset, .unset, .unset, .unset, .unset, .unset, .unset] [.null, (.ref b343), (.ref b341), (.ref b353), (.ref b353)])) rfl (by rw [hml]; rfl) (Steps.refl _) (a := b353) (argsL := [(.ref b341), (.ref b343), .null]) (rest := [(.ref b353)]) (lenOf pd_32 rfl) rfl (by show 2 * 0 + _ ≤ _; exact Nat.le_of_eq rfl) (dk at_68) (fun _ _ => ⟨rfl, e353, Nat.le_of_ble_eq_true rfl, Nat.le_of_ble_eq_true rfl⟩)
        dsimp only [Pt.U, Pt.locs, Pt.cells, Pt.slots] at X367 l367 y367 z367 st367 hQ367
        subst l367 y367 z367
        obtain ⟨b367, t367, k367, rfl, Nq367, K367, p367_0, p367_1, p367_2, p367_3, p367_4, p367_5⟩ := hQ367
        have N367 := Fr.app N352 Nq367
        have X367 : Stand p l e _ _ m _ below meth c T367 _ 17 76 := X367
        have C368 := C354.trans (CHr.keep K367 (sfS (Safe.exa hZ.alike A353 (by decide) (by decide)) sf0) C354.1)
        have O368 := O354.keep K367 (allS (Nat.le_trans Z350 sz_b353) all0)
        have Z368 : n0 ≤ T367.heap.size := Nat.le_trans Z354 K367.1
        refine gy (St T367 m 71 #[vi p1, vi p2, vi p3, vi bb340, vr b341, vr b343, .val .null, vr b347, vr b349, .val .null, .unset, .unset, .unset, .unset, .unset, .unset, .unset, .unset, .unset] [(.ref b353)]) (fun _ k => st367.trans k) ?_
        refine gy (St T367 m 73 #[vi p1, vi p2, vi p3, vi bb340, vr b341, vr b343, .val .null, vr b347, vr b349, .val .null, vr b353, .unset, .unset, .unset, .unset, .unset, .unset, .unset, .unset] []) (fun _ k => XS.astore X367.here hx rfl (dk at_71) rfl rfl (l' := #[vi p1, vi p2, vi p3, vi bb340, vr b341, vr b343, .val .null, vr b347, vr b349, .val .null, vr b353, .unset, .unset, .unset, .unset, .unset, .unset, .unset, .unset]) rfl k) ?_
        obtain ⟨T369, h369, X369, e369, E369, A369, D369, -, st369⟩ := newO X367 hx hZ hown (wd hw 54 rfl) (wd hw 55 rfl) (wd hw 56 rfl) rfl (g := (mkF m 73 #[vi p1, vi p2, vi p3, vi bb340, vr b341, vr b343, .val .null, vr b347, vr b349, .val .null, vr b353, .unset, .unset, .unset, .unset, .unset, .unset, .unset, .unset] [])) rfl (dk at_73) (by decide) (by decide)
        obtain ⟨b369, g369⟩ : ∃ z, z = T367.heap.size := ⟨_, rfl⟩
        rw [← g369] at A369 D369 st369
        have sz_b369 : T367.heap.size ≤ b369 := Nat.le_of_eq g369.symm
        have C370 := C368.trans (CHr.ext E369 C368.1)
        have O370 := O368.ext E369
        have Z370 : n0 ≤ h369.size := Nat.le_trans Z368 E369.1
        have F371 : Fld Z h369 b369 "com/example/breakwater/breakwater/engine/Address" "scope" "Ljava/lang/String;" .null := D369 (Or.inr (wd hw 186 rfl)) (ty := (.object "java/lang/String")) (by decide)
        have F372 : Fld Z h369 b369 "com/example/breakwater/breakwater/engine/Address" "service" "Ljava/lang/String;" .null := D369 (Or.inr (wd hw 188 rfl)) (ty := (.object "java/lang/String")) (by decide)
        have F373 : Fld Z h369 b369 "com/example/breakwater/breakwater/engine/Address" "endpoint" "Ljava/lang/String;" .null := D369 (Or.inr (wd hw 190 rfl)) (ty := (.object "java/lang/String")) (by decide)
        have F374 : Fld Z h369 b369 "com/example/breakwater/breakwater/engine/Address" "text" "Ljava/lang/String;" .null := D369 (Or.inr (wd hw 192 rfl)) (ty := (.object "java/lang/String")) (by decide)
        refine gy (St T369 m 76 #[vi p1, vi p2, vi p3, vi bb340, vr b341, vr b343, .val .null, vr b347, vr b349, .val .null, vr b353, .unset, .unset, .unset, .unset, .unset, .unset, .unset, .unset] [(.ref b369)]) st369 ?_
        refine gy (St T369 m 83 #[vi p1, vi p2, vi p3, vi bb340, vr b341, vr b343, .val .null, vr b347, vr b349, .val .null, vr b353, .unset, .unset, .unset, .unset, .unset, .unset, .unset, .unset] [.null, (.ref b349), (.ref b347), (.ref b369), (.ref b369)]) (fun _ k => XS.dup X369.here hx rfl (dk at_76) rfl rfl (XS.aload X369.here hx rfl (dk at_77) rfl rfl (XS.aload X369.here hx rfl (dk at_79) rfl rfl (XS.aload X369.here hx rfl (dk at_81) rfl rfl k)))) ?_
        have f375 := ((((p347_0.keep K349).ext E353).keep K367).ext E369)
        have f376 := ((((p347_1.keep K349 nin0).ext E353).keep K367 (ninS (Nat.ne_of_lt (Nat.lt_of_lt_of_le (p347_0.keep K349).lt sz_b353)) nin0)).ext E369)
        have f377 := ((((p347_2.keep K349 nin0).ext E353).keep K367 (ninS (Nat.ne_of_lt (Nat.lt_of_lt_of_le (p347_0.keep K349).lt sz_b353)) nin0)).ext E369)
        have f378 := ((((p347_3.keep K349 nin0).ext E353).keep K367 (ninS (Nat.ne_of_lt (Nat.lt_of_lt_of_le (p347_3.keep K349 nin0).lt sz_b353)) nin0)).ext E369)
        have f379 := (((p349_0.ext E353).keep K367).ext E369)
        have f380 := (((p349_1.ext E353).keep K367 (ninS (Nat.ne_of_lt (Nat.lt_of_lt_of_le p349_0.lt sz_b353)) nin0)).ext E369)
        have f381 := (((p349_2.ext E353).keep K367 (ninS (Nat.ne_of_lt (Nat.lt_of_lt_of_le p349_0.lt sz_b353)) nin0)).ext E369)
        have f382 := (((p349_3.ext E353).keep K367 (ninS (Nat.ne_of_lt (Nat.lt_of_lt_of_le p349_3.lt sz_b353)) nin0)).ext E369)
        obtain ⟨_, _, ⟨T383, L383, k383, n383⟩, -, X383, ⟨Lc383, hQ383, l383, y383, z383⟩, st383⟩ := X369.specialBack hx (y := Y0) rfl hown (mvT hZ (wd hw 57 rfl)) (mvT hZ (wd hw 58 rfl)) (mvT hZ (wd hw 59 rfl)) (by decide) (backOf (W := 1) (rm_ad3n l Z a0 hw [] b369 b347 t347 k347 (own_nm bb340) b349 t349 k349 (own_nm ((bb340.toUInt32 >>> ((5 : Int32) &&& 31).toUInt32).toInt32)) cs h369 n0 Z370 O370 pr1 hcs A369 F371 F372 F373 F374 (Nat.le_trans Z368 sz_b369) f375 f376 f377 f378 (own_nmL _) f379 f380 f381 f382 (own_nmL _)) hZ (wd hw 59 rfl) (wd hw 56 rfl) (by decide) (by decide)) (g := (mkF m 83 #[vi p1, vi p2, vi p3, vi bb340, vr b341, vr b343, .val .null, vr b347, vr b349, .val .null, vr b353, .unset, .unset, .unset, .unset, .unset, .unset, .unset, .unset] [.null, (.ref b349), (.ref b347), (.ref b369), (.ref b369)])) rfl (by rw [hml]; rfl) (Steps.refl _) (a := b369) (argsL := [(.ref b347), (.ref b349), .null]) (rest := [(.ref b369)]) (lenOf pd_32 rfl) rfl (by show 2 * 0 + _ ≤ _; exact Nat.le_of_eq rfl) (dk at_83) (fun _ _ => ⟨rfl, e369, Nat.le_of_ble_eq_true rfl, Nat.le_of_ble_eq_true rfl⟩)
        dsimp only [Pt.U, Pt.locs, Pt.cells, Pt.slots] at X383 l383 y383 z383 st383 hQ383
        subst l383 y383 z383
        obtain ⟨b383, t383, k383, rfl, Nq383, K383, p383_0, p383_1, p383_2, p383_3, p383_4, p383_5⟩ := hQ383
        have N383 := Fr.app N367 Nq383
        have X383 : Stand p l e _ _ m _ below meth c T383 _ 22 120 := X383
        have C384 := C370.trans (CHr.keep K383 (sfS (Safe.exa hZ.alike A369 (by decide) (by decide)) sf0) C370.1)
        have O384 := O370.keep K383 (allS (Nat.le_trans Z368 sz_b369) all0)
        have Z384 : n0 ≤ T383.heap.size := Nat.le_trans Z370 K383.1
        refine gy (St T383 m 86 #[vi p1, vi p2, vi p3, vi bb340, vr b341, vr b343, .val .null, vr b347, vr b349, .val .null, vr b353, .unset, .unset, .unset, .unset, .unset, .unset, .unset, .unset] [(.ref b369)]) (fun _ k => st383.trans k) ?_
        refine gy (St T383 m 88 #[vi p1, vi p2, vi p3, vi bb340, vr b341, vr b343, .val .null, vr b347, vr b349, .val .null, vr b353, vr b369, .unset, .unset, .unset, .unset, .unset, .unset, .unset] []) (fun _ k => XS.astore X383.here hx rfl (dk at_86) rfl rfl (l' := #[vi p1, vi p2, vi p3, vi bb340, vr b341, vr b343, .val .null, vr b347, vr b349, .val .null, vr b353, vr b369, .unset, .unset, .unset, .unset, .unset, .unset, .unset]) rfl k) ?_
        have e385 : T383.heap = T383.heap := rfl
        have J385 : ∀ (T386 : State) (lc386 : List Loc) (X386 : Stand p l e room_1 (s.setVm s.vm) m #[(.int p1), (.int p2), (.int p3)] below meth c T386 lc386 22 120) (N386 : Fr n0 lc386) (e386 : T386.heap = T383.heap) (rf386 : Int32) (se386 : Int32) (hJ386 : (rf386 = (1 : Int32) ∧ (own_tN (own_nm p1) (own_nm ((p1.toUInt32 >>> ((5 : Int32) &&& 31).toUInt32).toInt32))) = (own_tN (own_nm bb340) (own_nm ((bb340.toUInt32 >>> ((5 : Int32) &&& 31).toUInt32).toInt32)))) ∨ (rf386 = (0 : Int32) ∧ ¬ (own_tN (own_nm p1) (own_nm ((p1.toUInt32 >>> ((5 : Int32) &&& 31).toUInt32).toInt32))) = (own_tN (own_nm bb340) (own_nm ((bb340.toUInt32 >>> ((5 : Int32) &&& 31).toUInt32).toInt32))))), Go p e below (PostS Z own_EL s room_1.cells room_1.slots (Q_rm0 Z p1 p2 p3 cs h0 n0)) (T386.setTop (mkF m 158 #[vi p1, vi p2, vi p3, vi bb340, vr b341, vr b343, .val .null, vr b347, vr b349, .val .null, vr b353, vr b369, vi se386, .unset, .unset, .unset, .unset, .unset, .unset] [(.int rf386)])) := by
          intro T386 lc386 X386 N386 e386 rf386 se386 hJ386
          rcases hJ386 with ⟨rfl, e387⟩ | ⟨rfl, e387⟩
          · skip
            refine gy (St T386 m 164 #[vi p1, vi p2, vi p3, vi bb340, vr b341, vr b343, .val .null, vr b347, vr b349, .val .null, vr b353, vr b369, vi se386, vi 1, .unset, .unset, .unset, .unset, .unset] [(.ref b369), (.ref b353)]) (fun _ k => XS.istore X386.here hx rfl (dk at_158) rfl (l' := #[vi p1, vi p2, vi p3, vi bb340, vr b341, vr b343, .val .null, vr b347, vr b349, .val .null, vr b353, vr b369, vi se386, vi 1, .unset, .unset, .unset, .unset, .unset]) rfl (XS.aload X386.here hx rfl (dk at_160) rfl rfl (XS.aload X386.here hx rfl (dk at_162) rfl rfl k))) ?_
            have f388 := ((p367_1.ext E369).keep K383 (ninS (Nat.ne_of_lt (Nat.lt_of_lt_of_le p367_0.lt sz_b369)) nin0))
            have f389 := ((p367_3.ext E369).keep K383 (ninS (Nat.ne_of_lt (Nat.lt_of_lt_of_le p367_2.lt sz_b369)) nin0))
            have f390 := ((p367_4.ext E369).keep K383 (ninS (Nat.ne_of_lt (Nat.lt_of_lt_of_le p367_2.lt sz_b369)) nin0))
            have f391 := ((p367_5.ext E369).keep K383 (ninS (Nat.ne_of_lt (Nat.lt_of_lt_of_le p367_5.lt sz_b369)) nin0))
            obtain ⟨cq392, kq392, q392a, q392b, q392c⟩ := isOf hZ e386 ((p367_0.ext E369).keep K383)
            obtain ⟨_, _, ⟨T392, L392, k392, n392⟩, -, X392, ⟨Lc392, hQ392, l392, y392, z392⟩, st392⟩ := X386.virtualBack hx (y := Y2) (z := Y2) hown (mvT hZ (wd hw 201 rfl)) (mvT hZ (wd hw 202 rfl)) (notFace_of_selects (args := #[]) (mvT hZ (wd hw 204 rfl))) (mvT hZ (wd hw 204 rfl)) (mvT hZ (wd hw 203 rfl)) (by decide) (backOf (W := 0) (rm_eq_i l Z a0 hw [] b353 b369 b367 t367 k367 (own_tN (own_nm p1) (own_nm ((p1.toUInt32 >>> ((5 : Int32) &&& 31).toUInt32).toInt32))) b383 t383 k383 (own_tN (own_nm bb340) (own_nm ((bb340.toUInt32 >>> ((5 : Int32) &&& 31).toUInt32).toInt32))) cs T383.heap n0 Z384 O384 pr1 hcs ((p367_0.ext E369).keep K383) f388 ((p367_2.ext E369).keep K383) f389 f390 f391 (own_tN_ok _ _) p383_0 p383_1 p383_2 p383_3 p383_4 p383_5 (own_tN_ok _ _) (Nat.ne_of_lt (Nat.lt_of_lt_of_le p367_0.lt sz_b369))) hZ (wd hw 205 rfl) (wd hw 56 rfl) (by decide) (by decide)) q392a q392c (g := (mkF m 164 #[vi p1, vi p2, vi p3, vi bb340, vr b341, vr b343, .val .null, vr b347, vr b349, .val .null, vr b353, vr b369, vi se386, vi 1, .unset, .unset, .unset, .unset, .unset] [(.ref b369), (.ref b353)])) rfl (by rw [hml]; rfl) (Steps.refl _) (argsL := [(.ref b369)]) (rest := []) (lenOf pd_30 rfl) rfl (by show 2 * 0 + _ ≤ _; exact Nat.le_of_eq rfl) (dk at_164) (fun _ _ => ⟨rfl, e386, Nat.le_of_ble_eq_true rfl, Nat.le_of_ble_eq_true rfl⟩)
            dsimp only [Pt.U, Pt.locs, Pt.cells, Pt.slots] at X392 l392 y392 z392 st392 hQ392
            subst l392 y392 z392
            obtain ⟨v392, rfl, Nq392, hh392, p392_0⟩ := hQ392
            have N392 := Fr.app N386 Nq392
            have X392 : Stand p l e _ _ m _ below meth c T392 _ 22 120 := X392
            refine gy (St T392 m 167 #[vi p1, vi p2, vi p3, vi bb340, vr b341, vr b343, .val .null, vr b347, vr b349, .val .null, vr b353, vr b369, vi se386, vi 1, .unset, .unset, .unset, .unset, .unset] [(.int v392)]) (fun _ k => st392.trans k) ?_
            rcases p392_0 with ⟨rfl, e393⟩ | ⟨rfl, e393⟩
            · skip
              refine gy (St T392 m 173 #[vi p1, vi p2, vi p3, vi bb340, vr b341, vr b343, .val .null, vr b347, vr b349, .val .null, vr b353, vr b369, vi se386, vi 1, vi 1, .unset, .unset, .unset, .unset] [(.ref b353), (.ref b369)]) (fun _ k => XS.istore X392.here hx rfl (dk at_167) rfl (l' := #[vi p1, vi p2, vi p3, vi bb340, vr b341, vr b343, .val .null, vr b347, vr b349, .val .null, vr b353, vr b369, vi se386, vi 1, vi 1, .unset, .unset, .unset, .unset]) rfl (XS.aload X392.here hx rfl (dk at_169) rfl rfl (XS.aload X392.here hx rfl (dk at_171) rfl rfl k))) ?_
              obtain ⟨cq394, kq394, q394a, q394b, q394c⟩ := isOf hZ hh392 p383_0
              obtain ⟨_, _, ⟨T394, L394, k394, n394⟩, -, X394, ⟨Lc394, hQ394, l394, y394, z394⟩, st394⟩ := X392.virtualBack hx (y := Y2) (z := Y2) hown (mvT hZ (wd hw 201 rfl)) (mvT hZ (wd hw 202 rfl)) (notFace_of_selects (args := #[]) (mvT hZ (wd hw 204 rfl))) (mvT hZ (wd hw 204 rfl)) (mvT hZ (wd hw 203 rfl)) (by decide) (backOf (W := 0) (rm_eq_i l Z a0 hw [] b369 b353 b383 t383 k383 (own_tN (own_nm bb340) (own_nm ((bb340.toUInt32 >>> ((5 : Int32) &&& 31).toUInt32).toInt32))) b367 t367 k367 (own_tN (own_nm p1) (own_nm ((p1.toUInt32 >>> ((5 : Int32) &&& 31).toUInt32).toInt32))) cs T383.heap n0 Z384 O384 pr1 hcs p383_0 p383_1 p383_2 p383_3 p383_4 p383_5 (own_tN_ok _ _) ((p367_0.ext E369).keep K383) f388 ((p367_2.ext E369).keep K383) f389 f390 f391 (own_tN_ok _ _) (Ne.symm (Nat.ne_of_lt (Nat.lt_of_lt_of_le p367_0.lt sz_b369)))) hZ (wd hw 205 rfl) (wd hw 56 rfl) (by decide) (by decide)) q394a q394c (g := (mkF m 173 #[vi p1, vi p2, vi p3, vi bb340, vr b341, vr b343, .val .null, vr b347, vr b349, .val .null, vr b353, vr b369, vi se386, vi 1, vi 1, .unset, .unset, .unset, .unset] [(.ref b353), (.ref b369)])) rfl (by rw [hml]; rfl) (Steps.refl _) (argsL := [(.ref b353)]) (rest := []) (lenOf pd_30 rfl) rfl (by show 2 * 0 + _ ≤ _; exact Nat.le_of_eq rfl) (dk at_173) (fun _ _ => ⟨rfl, hh392, Nat.le_of_ble_eq_true rfl, Nat.le_of_ble_eq_true rfl⟩)
              dsimp only [Pt.U, Pt.locs, Pt.cells, Pt.slots] at X394 l394 y394 z394 st394 hQ394
              subst l394 y394 z394
              obtain ⟨v394, rfl, Nq394, hh394, p394_0⟩ := hQ394
              have N394 := Fr.app N392 Nq394
              have X394 : Stand p l e _ _ m _ below meth c T394 _ 22 120 := X394
              refine gy (St T394 m 176 #[vi p1, vi p2, vi p3, vi bb340, vr b341, vr b343, .val .null, vr b347, vr b349, .val .null, vr b353, vr b369, vi se386, vi 1, vi 1, .unset, .unset, .unset, .unset] [(.int v394)]) (fun _ k => st394.trans k) ?_
              rcases p394_0 with ⟨rfl, e395⟩ | ⟨rfl, e395⟩
              · skip
                refine gy (St T394 m 182 #[vi p1, vi p2, vi p3, vi bb340, vr b341, vr b343, .val .null, vr b347, vr b349, .val .null, vr b353, vr b369, vi se386, vi 1, vi 1, vi 1, .unset, .unset, .unset] [(.ref b353), (.ref b353)]) (fun _ k => XS.istore X394.here hx rfl (dk at_176) rfl (l' := #[vi p1, vi p2, vi p3, vi bb340, vr b341, vr b343, .val .null, vr b347, vr b349, .val .null, vr b353, vr b369, vi se386, vi 1, vi 1, vi 1, .unset, .unset, .unset]) rfl (XS.aload X394.here hx rfl (dk at_178) rfl rfl (XS.aload X394.here hx rfl (dk at_180) rfl rfl k))) ?_
                obtain ⟨cq396, kq396, q396a, q396b, q396c⟩ := isOf hZ hh394 ((p367_0.ext E369).keep K383)
                obtain ⟨_, _, ⟨T396, L396, k396, n396⟩, -, X396, ⟨Lc396, hQ396, l396, y396, z396⟩, st396⟩ := X394.virtualBack hx (y := Y2) (z := Y2) hown (mvT hZ (wd hw 201 rfl)) (mvT hZ (wd hw 202 rfl)) (notFace_of_selects (args := #[]) (mvT hZ (wd hw 204 rfl))) (mvT hZ (wd hw 204 rfl)) (mvT hZ (wd hw 203 rfl)) (by decide) (backOf (W := 0) (rm_eq_s l Z a0 hw [] b353 T383.heap n0 Z384 ) hZ (wd hw 205 rfl) (wd hw 56 rfl) (by decide) (by decide)) q396a q396c (g := (mkF m 182 #[vi p1, vi p2, vi p3, vi bb340, vr b341, vr b343, .val .null, vr b347, vr b349, .val .null, vr b353, vr b369, vi se386, vi 1, vi 1, vi 1, .unset, .unset, .unset] [(.ref b353), (.ref b353)])) rfl (by rw [hml]; rfl) (Steps.refl _) (argsL := [(.ref b353)]) (rest := []) (lenOf pd_30 rfl) rfl (by show 2 * 0 + _ ≤ _; exact Nat.le_of_eq rfl) (dk at_182) (fun _ _ => ⟨rfl, hh394, Nat.le_of_ble_eq_true rfl, Nat.le_of_ble_eq_true rfl⟩)
                dsimp only [Pt.U, Pt.locs, Pt.cells, Pt.slots] at X396 l396 y396 z396 st396 hQ396
                subst l396 y396 z396
                obtain ⟨rfl, Nq396, hh396⟩ := hQ396
                have N396 := Fr.app N394 Nq396
                have X396 : Stand p l e _ _ m _ below meth c T396 _ 22 120 := X396
                refine gy (St T396 m 185 #[vi p1, vi p2, vi p3, vi bb340, vr b341, vr b343, .val .null, vr b347, vr b349, .val .null, vr b353, vr b369, vi se386, vi 1, vi 1, vi 1, .unset, .unset, .unset] [(.int 1)]) (fun _ k => st396.trans k) ?_
                refine gy (St T396 m 190 #[vi p1, vi p2, vi p3, vi bb340, vr b341, vr b343, .val .null, vr b347, vr b349, .val .null, vr b353, vr b369, vi se386, vi 1, vi 1, vi 1, vi 1, .unset, .unset] [.null, (.ref b353)]) (fun _ k => XS.istore X396.here hx rfl (dk at_185) rfl (l' := #[vi p1, vi p2, vi p3, vi bb340, vr b341, vr b343, .val .null, vr b347, vr b349, .val .null, vr b353, vr b369, vi se386, vi 1, vi 1, vi 1, vi 1, .unset, .unset]) rfl (XS.aload X396.here hx rfl (dk at_187) rfl rfl (XS.aconstNull X396.here hx rfl (dk at_189) k))) ?_
                obtain ⟨cq397, kq397, q397a, q397b, q397c⟩ := isOf hZ hh396 ((p367_0.ext E369).keep K383)
                obtain ⟨_, _, ⟨T397, L397, k397, n397⟩, -, X397, ⟨Lc397, hQ397, l397, y397, z397⟩, st397⟩ := X396.virtualBack hx (y := Y2) (z := Y2) hown (mvT hZ (wd hw 201 rfl)) (mvT hZ (wd hw 202 rfl)) (notFace_of_selects (args := #[]) (mvT hZ (wd hw 204 rfl))) (mvT hZ (wd hw 204 rfl)) (mvT hZ (wd hw 203 rfl)) (by decide) (backOf (W := 0) (rm_eq_n l Z a0 hw [] b353 T383.heap n0 Z384 ) hZ (wd hw 205 rfl) (wd hw 56 rfl) (by decide) (by decide)) q397a q397c (g := (mkF m 190 #[vi p1, vi p2, vi p3, vi bb340, vr b341, vr b343, .val .null, vr b347, vr b349, .val .null, vr b353, vr b369, vi se386, vi 1, vi 1, vi 1, vi 1, .unset, .unset] [.null, (.ref b353)])) rfl (by rw [hml]; rfl) (Steps.refl _) (argsL := [.null]) (rest := []) (lenOf pd_30 rfl) rfl (by show 2 * 0 + _ ≤ _; exact Nat.le_of_eq rfl) (dk at_190) (fun _ _ => ⟨rfl, hh396, Nat.le_of_ble_eq_true rfl, Nat.le_of_ble_eq_true rfl⟩)
                dsimp only [Pt.U, Pt.locs, Pt.cells, Pt.slots] at X397 l397 y397 z397 st397 hQ397
                subst l397 y397 z397
                obtain ⟨rfl, Nq397, hh397⟩ := hQ397
                have N397 := Fr.app N396 Nq397
                have X397 : Stand p l e _ _ m _ below meth c T397 _ 22 120 := X397
                refine gy (St T397 m 193 #[vi p1, vi p2, vi p3, vi bb340, vr b341, vr b343, .val .null, vr b347, vr b349, .val .null, vr b353, vr b369, vi se386, vi 1, vi 1, vi 1, vi 1, .unset, .unset] [(.int 0)]) (fun _ k => st397.trans k) ?_
                refine gy (St T397 m 199 #[vi p1, vi p2, vi p3, vi bb340, vr b341, vr b343, .val .null, vr b347, vr b349, .val .null, vr b353, vr b369, vi se386, vi 1, vi 1, vi 1, vi 1, vi 0, .unset] [(.ref b341), (.ref b353)]) (fun _ k => XS.istore X397.here hx rfl (dk at_193) rfl (l' := #[vi p1, vi p2, vi p3, vi bb340, vr b341, vr b343, .val .null, vr b347, vr b349, .val .null, vr b353, vr b369, vi se386, vi 1, vi 1, vi 1, vi 1, vi 0, .unset]) rfl (XS.aload X397.here hx rfl (dk at_195) rfl rfl (XS.aload X397.here hx rfl (dk at_197) rfl rfl k))) ?_
                have f398 := (((f359.keep K367).ext E369).keep K383)
                obtain ⟨cq399, kq399, q399a, q399b, q399c⟩ := isOf hZ hh397 ((p367_0.ext E369).keep K383)
                obtain ⟨_, _, ⟨T399, L399, k399, n399⟩, -, X399, ⟨Lc399, hQ399, l399, y399, z399⟩, st399⟩ := X397.virtualBack hx (y := Y2) (z := Y2) hown (mvT hZ (wd hw 201 rfl)) (mvT hZ (wd hw 202 rfl)) (notFace_of_selects (args := #[]) (mvT hZ (wd hw 204 rfl))) (mvT hZ (wd hw 204 rfl)) (mvT hZ (wd hw 203 rfl)) (by decide) (backOf (W := 0) (rm_eq_o l Z a0 hw [] b353 b341 T383.heap n0 Z384 ((p367_0.ext E369).keep K383) f398) hZ (wd hw 205 rfl) (wd hw 56 rfl) (by decide) (by decide)) q399a q399c (g := (mkF m 199 #[vi p1, vi p2, vi p3, vi bb340, vr b341, vr b343, .val .null, vr b347, vr b349, .val .null, vr b353, vr b369, vi se386, vi 1, vi 1, vi 1, vi 1, vi 0, .unset] [(.ref b341), (.ref b353)])) rfl (by rw [hml]; rfl) (Steps.refl _) (argsL := [(.ref b341)]) (rest := []) (lenOf pd_30 rfl) rfl (by show 2 * 0 + _ ≤ _; exact Nat.le_of_eq rfl) (dk at_199) (fun _ _ => ⟨rfl, hh397, Nat.le_of_ble_eq_true rfl, Nat.le_of_ble_eq_true rfl⟩)
                dsimp only [Pt.U, Pt.locs, Pt.cells, Pt.slots] at X399 l399 y399 z399 st399 hQ399
                subst l399 y399 z399
                obtain ⟨rfl, Nq399, hh399⟩ := hQ399
                have N399 := Fr.app N397 Nq399
                have X399 : Stand p l e _ _ m _ below meth c T399 _ 22 120 := X399
                refine gy (St T399 m 202 #[vi p1, vi p2, vi p3, vi bb340, vr b341, vr b343, .val .null, vr b347, vr b349, .val .null, vr b353, vr b369, vi se386, vi 1, vi 1, vi 1, vi 1, vi 0, .unset] [(.int 0)]) (fun _ k => st399.trans k) ?_
                refine gy (St T399 m 220 #[vi p1, vi p2, vi p3, vi bb340, vr b341, vr b343, .val .null, vr b347, vr b349, .val .null, vr b353, vr b369, vi se386, vi 1, vi 1, vi 1, vi 1, vi 0, vi 0] [(.int 1)]) (fun _ k => XS.istore X399.here hx rfl (dk at_202) rfl (l' := #[vi p1, vi p2, vi p3, vi bb340, vr b341, vr b343, .val .null, vr b347, vr b349, .val .null, vr b353, vr b369, vi se386, vi 1, vi 1, vi 1, vi 1, vi 0, vi 0]) rfl (XS.iload X399.here hx rfl (dk at_204) rfl (XS.iload X399.here hx rfl (dk at_206) rfl (XS.icmpNo X399.here hx rfl (dk at_208) rfl (teq (by decide : (1 : Int32) = (1 : Int32))).2 (XS.iload X399.here hx rfl (dk at_211) rfl (XS.iload X399.here hx rfl (dk at_213) rfl (XS.icmpNo X399.here hx rfl (dk at_215) rfl (teq (by decide : (1 : Int32) = (1 : Int32))).2 (XS.iload X399.here hx rfl (dk at_218) rfl k)))))))) ?_
                refine gy (St T399 m 238 #[vi p1, vi p2, vi p3, vi bb340, vr b341, vr b343, .val .null, vr b347, vr b349, .val .null, vr b353, vr b369, vi se386, vi 1, vi 1, vi 1, vi 1, vi 0, vi 0] [(.int 1)]) (fun _ k => XS.ifNo X399.here hx rfl (dk at_220) rfl ((if0 _ _).trans (feq (by decide : ¬ ((1 : Int32) = (0 : Int32)))).1) (XS.iload X399.here hx rfl (dk at_223) rfl (XS.ifNo X399.here hx rfl (dk at_225) rfl ((if0 _ _).trans (teq (by decide : (0 : Int32) = (0 : Int32))).2) (XS.iload X399.here hx rfl (dk at_228) rfl (XS.ifNo X399.here hx rfl (dk at_230) rfl ((if0 _ _).trans (teq (by decide : (0 : Int32) = (0 : Int32))).2) (XS.iconst X399.here hx rfl (dk at_233) (XS.goto X399.here hx rfl (pc0 := 234) (pc' := 238) rfl (dk at_234) (by decide) (by decide) k))))))) ?_
                have hkE400 : _ ≤ T399.heap.size := (by rw [hh399]; exact (Nat.le_trans (Nat.le_trans (Nat.le_trans (Nat.le_trans (Nat.le_trans (Nat.le_trans (Nat.le_trans (Nat.le_trans hk K341.1) K343.1) K347.1) K349.1) E353.1) K367.1) E369.1) K383.1))
                have CE400 : CHr Z own_EL s.vm s.heap s.vm T399.heap := (by rw [hh399]; exact C384)
                refine Go.retS X399 hx hlk hS hkE400 hZ hEL CE400 (t := .boolean) hret rfl (Or.inl ⟨rfl, by simp, _, rfl⟩) (dk at_238) (by decide) (by decide) ?_
                exact ⟨rfl, N399⟩
              · skip
                exact absurd (e393).symm e395
            · skip
              exact absurd e387 e393
          · skip
            refine gy (St T386 m 164 #[vi p1, vi p2, vi p3, vi bb340, vr b341, vr b343, .val .null, vr b347, vr b349, .val .null, vr b353, vr b369, vi se386, vi 0, .unset, .unset, .unset, .unset, .unset] [(.ref b369), (.ref b353)]) (fun _ k => XS.istore X386.here hx rfl (dk at_158) rfl (l' := #[vi p1, vi p2, vi p3, vi bb340, vr b341, vr b343, .val .null, vr b347, vr b349, .val .null, vr b353, vr b369, vi se386, vi 0, .unset, .unset, .unset, .unset, .unset]) rfl (XS.aload X386.here hx rfl (dk at_160) rfl rfl (XS.aload X386.here hx rfl (dk at_162) rfl rfl k))) ?_
            have f401 := ((p367_1.ext E369).keep K383 (ninS (Nat.ne_of_lt (Nat.lt_of_lt_of_le p367_0.lt sz_b369)) nin0))
            have f402 := ((p367_3.ext E369).keep K383 (ninS (Nat.ne_of_lt (Nat.lt_of_lt_of_le p367_2.lt sz_b369)) nin0))
            have f403 := ((p367_4.ext E369).keep K383 (ninS (Nat.ne_of_lt (Nat.lt_of_lt_of_le p367_2.lt sz_b369)) nin0))
            have f404 := ((p367_5.ext E369).keep K383 (ninS (Nat.ne_of_lt (Nat.lt_of_lt_of_le p367_5.lt sz_b369)) nin0))
            obtain ⟨cq405, kq405, q405a, q405b, q405c⟩ := isOf hZ e386 ((p367_0.ext E369).keep K383)
            obtain ⟨_, _, ⟨T405, L405, k405, n405⟩, -, X405, ⟨Lc405, hQ405, l405, y405, z405⟩, st405⟩ := X386.virtualBack hx (y := Y2) (z := Y2) hown (mvT hZ (wd hw 201 rfl)) (mvT hZ (wd hw 202 rfl)) (notFace_of_selects (args := #[]) (mvT hZ (wd hw 204 rfl))) (mvT hZ (wd hw 204 rfl)) (mvT hZ (wd hw 203 rfl)) (by decide) (backOf (W := 0) (rm_eq_i l Z a0 hw [] b353 b369 b367 t367 k367 (own_tN (own_nm p1) (own_nm ((p1.toUInt32 >>> ((5 : Int32) &&& 31).toUInt32).toInt32))) b383 t383 k383 (own_tN (own_nm bb340) (own_nm ((bb340.toUInt32 >>> ((5 : Int32) &&& 31).toUInt32).toInt32))) cs T383.heap n0 Z384 O384 pr1 hcs ((p367_0.ext E369).keep K383) f401 ((p367_2.ext E369).keep K383) f402 f403 f404 (own_tN_ok _ _) p383_0 p383_1 p383_2 p383_3 p383_4 p383_5 (own_tN_ok _ _) (Nat.ne_of_lt (Nat.lt_of_lt_of_le p367_0.lt sz_b369))) hZ (wd hw 205 rfl) (wd hw 56 rfl) (by decide) (by decide)) q405a q405c (g := (mkF m 164 #[vi p1, vi p2, vi p3, vi bb340, vr b341, vr b343, .val .null, vr b347, vr b349, .val .null, vr b353, vr b369, vi se386, vi 0, .unset, .unset, .unset, .unset, .unset] [(.ref b369), (.ref b353)])) rfl (by rw [hml]; rfl) (Steps.refl _) (argsL := [(.ref b369)]) (rest := []) (lenOf pd_30 rfl) rfl (by show 2 * 0 + _ ≤ _; exact Nat.le_of_eq rfl) (dk at_164) (fun _ _ => ⟨rfl, e386, Nat.le_of_ble_eq_true rfl, Nat.le_of_ble_eq_true rfl⟩)
            dsimp only [Pt.U, Pt.locs, Pt.cells, Pt.slots] at X405 l405 y405 z405 st405 hQ405
            subst l405 y405 z405
            obtain ⟨v405, rfl, Nq405, hh405, p405_0⟩ := hQ405
            have N405 := Fr.app N386 Nq405
            have X405 : Stand p l e _ _ m _ below meth c T405 _ 22 120 := X405
            refine gy (St T405 m 167 #[vi p1, vi p2, vi p3, vi bb340, vr b341, vr b343, .val .null, vr b347, vr b349, .val .null, vr b353, vr b369, vi se386, vi 0, .unset, .unset, .unset, .unset, .unset] [(.int v405)]) (fun _ k => st405.trans k) ?_
            rcases p405_0 with ⟨rfl, e406⟩ | ⟨rfl, e406⟩
            · skip
              exact absurd e406 e387
            · skip
              refine gy (St T405 m 173 #[vi p1, vi p2, vi p3, vi bb340, vr b341, vr b343, .val .null, vr b347, vr b349, .val .null, vr b353, vr b369, vi se386, vi 0, vi 0, .unset, .unset, .unset, .unset] [(.ref b353), (.ref b369)]) (fun _ k => XS.istore X405.here hx rfl (dk at_167) rfl (l' := #[vi p1, vi p2, vi p3, vi bb340, vr b341, vr b343, .val .null, vr b347, vr b349, .val .null, vr b353, vr b369, vi se386, vi 0, vi 0, .unset, .unset, .unset, .unset]) rfl (XS.aload X405.here hx rfl (dk at_169) rfl rfl (XS.aload X405.here hx rfl (dk at_171) rfl rfl k))) ?_
              obtain ⟨cq407, kq407, q407a, q407b, q407c⟩ := isOf hZ hh405 p383_0
              obtain ⟨_, _, ⟨T407, L407, k407, n407⟩, -, X407, ⟨Lc407, hQ407, l407, y407, z407⟩, st407⟩ := X405.virtualBack hx (y := Y2) (z := Y2) hown (mvT hZ (wd hw 201 rfl)) (mvT hZ (wd hw 202 rfl)) (notFace_of_selects (args := #[]) (mvT hZ (wd hw 204 rfl))) (mvT hZ (wd hw 204 rfl)) (mvT hZ (wd hw 203 rfl)) (by decide) (backOf (W := 0) (rm_eq_i l Z a0 hw [] b369 b353 b383 t383 k383 (own_tN (own_nm bb340) (own_nm ((bb340.toUInt32 >>> ((5 : Int32) &&& 31).toUInt32).toInt32))) b367 t367 k367 (own_tN (own_nm p1) (own_nm ((p1.toUInt32 >>> ((5 : Int32) &&& 31).toUInt32).toInt32))) cs T383.heap n0 Z384 O384 pr1 hcs p383_0 p383_1 p383_2 p383_3 p383_4 p383_5 (own_tN_ok _ _) ((p367_0.ext E369).keep K383) f401 ((p367_2.ext E369).keep K383) f402 f403 f404 (own_tN_ok _ _) (Ne.symm (Nat.ne_of_lt (Nat.lt_of_lt_of_le p367_0.lt sz_b369)))) hZ (wd hw 205 rfl) (wd hw 56 rfl) (by decide) (by decide)) q407a q407c (g := (mkF m 173 #[vi p1, vi p2, vi p3, vi bb340, vr b341, vr b343, .val .null, vr b347, vr b349, .val .null, vr b353, vr b369, vi se386, vi 0, vi 0, .unset, .unset, .unset, .unset] [(.ref b353), (.ref b369)])) rfl (by rw [hml]; rfl) (Steps.refl _) (argsL := [(.ref b353)]) (rest := []) (lenOf pd_30 rfl) rfl (by show 2 * 0 + _ ≤ _; exact Nat.le_of_eq rfl) (dk at_173) (fun _ _ => ⟨rfl, hh405, Nat.le_of_ble_eq_true rfl, Nat.le_of_ble_eq_true rfl⟩)
              dsimp only [Pt.U, Pt.locs, Pt.cells, Pt.slots] at X407 l407 y407 z407 st407 hQ407
              subst l407 y407 z407
              obtain ⟨v407, rfl, Nq407, hh407, p407_0⟩ := hQ407
              have N407 := Fr.app N405 Nq407
              have X407 : Stand p l e _ _ m _ below meth c T407 _ 22 120 := X407
              refine gy (St T407 m 176 #[vi p1, vi p2, vi p3, vi bb340, vr b341, vr b343, .val .null, vr b347, vr b349, .val .null, vr b353, vr b369, vi se386, vi 0, vi 0, .unset, .unset, .unset, .unset] [(.int v407)]) (fun _ k => st407.trans k) ?_
              rcases p407_0 with ⟨rfl, e408⟩ | ⟨rfl, e408⟩
              · skip
                exact absurd (e408).symm e406
              · skip
                refine gy (St T407 m 182 #[vi p1, vi p2, vi p3, vi bb340, vr b341, vr b343, .val .null, vr b347, vr b349, .val .null, vr b353, vr b369, vi se386, vi 0, vi 0, vi 0, .unset, .unset, .unset] [(.ref b353), (.ref b353)]) (fun _ k => XS.istore X407.here hx rfl (dk at_176) rfl (l' := #[vi p1, vi p2, vi p3, vi bb340, vr b341, vr b343, .val .null, vr b347, vr b349, .val .null, vr b353, vr b369, vi se386, vi 0, vi 0, vi 0, .unset, .unset, .unset]) rfl (XS.aload X407.here hx rfl (dk at_178) rfl rfl (XS.aload X407.here hx rfl (dk at_180) rfl rfl k))) ?_
                obtain ⟨cq409, kq409, q409a, q409b, q409c⟩ := isOf hZ hh407 ((p367_0.ext E369).keep K383)
                obtain ⟨_, _, ⟨T409, L409, k409, n409⟩, -, X409, ⟨Lc409, hQ409, l409, y409, z409⟩, st409⟩ := X407.virtualBack hx (y := Y2) (z := Y2) hown (mvT hZ (wd hw 201 rfl)) (mvT hZ (wd hw 202 rfl)) (notFace_of_selects (args := #[]) (mvT hZ (wd hw 204 rfl))) (mvT hZ (wd hw 204 rfl)) (mvT hZ (wd hw 203 rfl)) (by decide) (backOf (W := 0) (rm_eq_s l Z a0 hw [] b353 T383.heap n0 Z384 ) hZ (wd hw 205 rfl) (wd hw 56 rfl) (by decide) (by decide)) q409a q409c (g := (mkF m 182 #[vi p1, vi p2, vi p3, vi bb340, vr b341, vr b343, .val .null, vr b347, vr b349, .val .null, vr b353, vr b369, vi se386, vi 0, vi 0, vi 0, .unset, .unset, .unset] [(.ref b353), (.ref b353)])) rfl (by rw [hml]; rfl) (Steps.refl _) (argsL := [(.ref b353)]) (rest := []) (lenOf pd_30 rfl) rfl (by show 2 * 0 + _ ≤ _; exact Nat.le_of_eq rfl) (dk at_182) (fun _ _ => ⟨rfl, hh407, Nat.le_of_ble_eq_true rfl, Nat.le_of_ble_eq_true rfl⟩)
                dsimp only [Pt.U, Pt.locs, Pt.cells, Pt.slots] at X409 l409 y409 z409 st409 hQ409
                subst l409 y409 z409
                obtain ⟨rfl, Nq409, hh409⟩ := hQ409
                have N409 := Fr.app N407 Nq409
                have X409 : Stand p l e _ _ m _ below meth c T409 _ 22 120 := X409
                refine gy (St T409 m 185 #[vi p1, vi p2, vi p3, vi bb340, vr b341, vr b343, .val .null, vr b347, vr b349, .val .null, vr b353, vr b369, vi se386, vi 0, vi 0, vi 0, .unset, .unset, .unset] [(.int 1)]) (fun _ k => st409.trans k) ?_
                refine gy (St T409 m 190 #[vi p1, vi p2, vi p3, vi bb340, vr b341, vr b343, .val .null, vr b347, vr b349, .val .null, vr b353, vr b369, vi se386, vi 0, vi 0, vi 0, vi 1, .unset, .unset] [.null, (.ref b353)]) (fun _ k => XS.istore X409.here hx rfl (dk at_185) rfl (l' := #[vi p1, vi p2, vi p3, vi bb340, vr b341, vr b343, .val .null, vr b347, vr b349, .val .null, vr b353, vr b369, vi se386, vi 0, vi 0, vi 0, vi 1, .unset, .unset]) rfl (XS.aload X409.here hx rfl (dk at_187) rfl rfl (XS.aconstNull X409.here hx rfl (dk at_189) k))) ?_
                obtain ⟨cq410, kq410, q410a, q410b, q410c⟩ := isOf hZ hh409 ((p367_0.ext E369).keep K383)
                obtain ⟨_, _, ⟨T410, L410, k410, n410⟩, -, X410, ⟨Lc410, hQ410, l410, y410, z410⟩, st410⟩ := X409.virtualBack hx (y := Y2) (z := Y2) hown (mvT hZ (wd hw 201 rfl)) (mvT hZ (wd hw 202 rfl)) (notFace_of_selects (args := #[]) (mvT hZ (wd hw 204 rfl))) (mvT hZ (wd hw 204 rfl)) (mvT hZ (wd hw 203 rfl)) (by decide) (backOf (W := 0) (rm_eq_n l Z a0 hw [] b353 T383.heap n0 Z384 ) hZ (wd hw 205 rfl) (wd hw 56 rfl) (by decide) (by decide)) q410a q410c (g := (mkF m 190 #[vi p1, vi p2, vi p3, vi bb340, vr b341, vr b343, .val .null, vr b347, vr b349, .val .null, vr b353, vr b369, vi se386, vi 0, vi 0, vi 0, vi 1, .unset, .unset] [.null, (.ref b353)])) rfl (by rw [hml]; rfl) (Steps.refl _) (argsL := [.null]) (rest := []) (lenOf pd_30 rfl) rfl (by show 2 * 0 + _ ≤ _; exact Nat.le_of_eq rfl) (dk at_190) (fun _ _ => ⟨rfl, hh409, Nat.le_of_ble_eq_true rfl, Nat.le_of_ble_eq_true rfl⟩)
                dsimp only [Pt.U, Pt.locs, Pt.cells, Pt.slots] at X410 l410 y410 z410 st410 hQ410
                subst l410 y410 z410
                obtain ⟨rfl, Nq410, hh410⟩ := hQ410
                have N410 := Fr.app N409 Nq410
                have X410 : Stand p l e _ _ m _ below meth c T410 _ 22 120 := X410
                refine gy (St T410 m 193 #[vi p1, vi p2, vi p3, vi bb340, vr b341, vr b343, .val .null, vr b347, vr b349, .val .null, vr b353, vr b369, vi se386, vi 0, vi 0, vi 0, vi 1, .unset, .unset] [(.int 0)]) (fun _ k => st410.trans k) ?_
                refine gy (St T410 m 199 #[vi p1, vi p2, vi p3, vi bb340, vr b341, vr b343, .val .null, vr b347, vr b349, .val .null, vr b353, vr b369, vi se386, vi 0, vi 0, vi 0, vi 1, vi 0, .unset] [(.ref b341), (.ref b353)]) (fun _ k => XS.istore X410.here hx rfl (dk at_193) rfl (l' := #[vi p1, vi p2, vi p3, vi bb340, vr b341, vr b343, .val .null, vr b347, vr b349, .val .null, vr b353, vr b369, vi se386, vi 0, vi 0, vi 0, vi 1, vi 0, .unset]) rfl (XS.aload X410.here hx rfl (dk at_195) rfl rfl (XS.aload X410.here hx rfl (dk at_197) rfl rfl k))) ?_
                have f411 := (((f359.keep K367).ext E369).keep K383)
                obtain ⟨cq412, kq412, q412a, q412b, q412c⟩ := isOf hZ hh410 ((p367_0.ext E369).keep K383)
                obtain ⟨_, _, ⟨T412, L412, k412, n412⟩, -, X412, ⟨Lc412, hQ412, l412, y412, z412⟩, st412⟩ := X410.virtualBack hx (y := Y2) (z := Y2) hown (mvT hZ (wd hw 201 rfl)) (mvT hZ (wd hw 202 rfl)) (notFace_of_selects (args := #[]) (mvT hZ (wd hw 204 rfl))) (mvT hZ (wd hw 204 rfl)) (mvT hZ (wd hw 203 rfl)) (by decide) (backOf (W := 0) (rm_eq_o l Z a0 hw [] b353 b341 T383.heap n0 Z384 ((p367_0.ext E369).keep K383) f411) hZ (wd hw 205 rfl) (wd hw 56 rfl) (by decide) (by decide)) q412a q412c (g := (mkF m 199 #[vi p1, vi p2, vi p3, vi bb340, vr b341, vr b343, .val .null, vr b347, vr b349, .val .null, vr b353, vr b369, vi se386, vi 0, vi 0, vi 0, vi 1, vi 0, .unset] [(.ref b341), (.ref b353)])) rfl (by rw [hml]; rfl) (Steps.refl _) (argsL := [(.ref b341)]) (rest := []) (lenOf pd_30 rfl) rfl (by show 2 * 0 + _ ≤ _; exact Nat.le_of_eq rfl) (dk at_199) (fun _ _ => ⟨rfl, hh410, Nat.le_of_ble_eq_true rfl, Nat.le_of_ble_eq_true rfl⟩)
                dsimp only [Pt.U, Pt.locs, Pt.cells, Pt.slots] at X412 l412 y412 z412 st412 hQ412
                subst l412 y412 z412
                obtain ⟨rfl, Nq412, hh412⟩ := hQ412
                have N412 := Fr.app N410 Nq412
                have X412 : Stand p l e _ _ m _ below meth c T412 _ 22 120 := X412
                refine gy (St T412 m 202 #[vi p1, vi p2, vi p3, vi bb340, vr b341, vr b343, .val .null, vr b347, vr b349, .val .null, vr b353, vr b369, vi se386, vi 0, vi 0, vi 0, vi 1, vi 0, .unset] [(.int 0)]) (fun _ k => st412.trans k) ?_
                refine gy (St T412 m 220 #[vi p1, vi p2, vi p3, vi bb340, vr b341, vr b343, .val .null, vr b347, vr b349, .val .null, vr b353, vr b369, vi se386, vi 0, vi 0, vi 0, vi 1, vi 0, vi 0] [(.int 1)]) (fun _ k => XS.istore X412.here hx rfl (dk at_202) rfl (l' := #[vi p1, vi p2, vi p3, vi bb340, vr b341, vr b343, .val .null, vr b347, vr b349, .val .null, vr b353, vr b369, vi se386, vi 0, vi 0, vi 0, vi 1, vi 0, vi 0]) rfl (XS.iload X412.here hx rfl (dk at_204) rfl (XS.iload X412.here hx rfl (dk at_206) rfl (XS.icmpNo X412.here hx rfl (dk at_208) rfl (teq (by decide : (0 : Int32) = (0 : Int32))).2 (XS.iload X412.here hx rfl (dk at_211) rfl (XS.iload X412.here hx rfl (dk at_213) rfl (XS.icmpNo X412.here hx rfl (dk at_215) rfl (teq (by decide : (0 : Int32) = (0 : Int32))).2 (XS.iload X412.here hx rfl (dk at_218) rfl k)))))))) ?_
                refine gy (St T412 m 238 #[vi p1, vi p2, vi p3, vi bb340, vr b341, vr b343, .val .null, vr b347, vr b349, .val .null, vr b353, vr b369, vi se386, vi 0, vi 0, vi 0, vi 1, vi 0, vi 0] [(.int 1)]) (fun _ k => XS.ifNo X412.here hx rfl (dk at_220) rfl ((if0 _ _).trans (feq (by decide : ¬ ((1 : Int32) = (0 : Int32)))).1) (XS.iload X412.here hx rfl (dk at_223) rfl (XS.ifNo X412.here hx rfl (dk at_225) rfl ((if0 _ _).trans (teq (by decide : (0 : Int32) = (0 : Int32))).2) (XS.iload X412.here hx rfl (dk at_228) rfl (XS.ifNo X412.here hx rfl (dk at_230) rfl ((if0 _ _).trans (teq (by decide : (0 : Int32) = (0 : Int32))).2) (XS.iconst X412.here hx rfl (dk at_233) (XS.goto X412.here hx rfl (pc0 := 234) (pc' := 238) rfl (dk at_234) (by decide) (by decide) k))))))) ?_
                have hkE413 : _ ≤ T412.heap.size := (by rw [hh412]; exact (Nat.le_trans (Nat.le_trans (Nat.le_trans (Nat.le_trans (Nat.le_trans (Nat.le_trans (Nat.le_trans (Nat.le_trans hk K341.1) K343.1) K347.1) K349.1) E353.1) K367.1) E369.1) K383.1))
                have CE413 : CHr Z own_EL s.vm s.heap s.vm T412.heap := (by rw [hh412]; exact C384)
                refine Go.retS X412 hx hlk hS hkE413 hZ hEL CE413 (t := .boolean) hret rfl (Or.inl ⟨rfl, by simp, _, rfl⟩) (dk at_238) (by decide) (by decide) ?_
                exact ⟨rfl, N412⟩
        refine gy (St T383 m 130 #[vi p1, vi p2, vi p3, vi bb340, vr b341, vr b343, .val .null, vr b347, vr b349, .val .null, vr b353, vr b369, vi 1, .unset, .unset, .unset, .unset, .unset, .unset] [(.ref b341)]) (fun _ k => XS.aload X383.here hx rfl (dk at_88) rfl rfl (XS.ifnonnullNo X383.here hx rfl (dk at_90) rfl (XS.aload X383.here hx rfl (dk at_93) rfl rfl (XS.ifnonnullNo X383.here hx rfl (dk at_95) rfl (XS.iconst X383.here hx rfl (dk at_98) (XS.goto X383.here hx rfl (pc0 := 99) (pc' := 126) rfl (dk at_99) (by decide) (by decide) (XS.istore X383.here hx rfl (dk at_126) rfl (l' := #[vi p1, vi p2, vi p3, vi bb340, vr b341, vr b343, .val .null, vr b347, vr b349, .val .null, vr b353, vr b369, vi 1, .unset, .unset, .unset, .unset, .unset, .unset]) rfl (XS.aload X383.here hx rfl (dk at_128) rfl rfl k)))))))) ?_
        refine gy (St T383 m 132 #[vi p1, vi p2, vi p3, vi bb340, vr b341, vr b343, .val .null, vr b347, vr b349, .val .null, vr b353, vr b369, vi 1, .unset, .unset, .unset, .unset, .unset, .unset] [(.ref b347), (.ref b341)]) (fun _ k => XS.aload X383.here hx rfl (dk at_130) rfl rfl k) ?_
        have f415 := (((f359.keep K367).ext E369).keep K383)
        have f416 := (((f360.keep K367 (ninS (Nat.ne_of_lt (Nat.lt_of_lt_of_le (((p341_0.keep K343).keep K347).keep K349).lt sz_b353)) nin0)).ext E369).keep K383 (ninS (Nat.ne_of_lt (Nat.lt_of_lt_of_le (f359.keep K367).lt sz_b369)) nin0))
        have f417 := (((f361.keep K367 (ninS (Nat.ne_of_lt (Nat.lt_of_lt_of_le (((p341_0.keep K343).keep K347).keep K349).lt sz_b353)) nin0)).ext E369).keep K383 (ninS (Nat.ne_of_lt (Nat.lt_of_lt_of_le (f359.keep K367).lt sz_b369)) nin0))
        have f418 := (((f362.keep K367 (ninS (Nat.ne_of_lt (Nat.lt_of_lt_of_le (((p341_3.keep K343 nin0).keep K347 nin0).keep K349 nin0).lt sz_b353)) nin0)).ext E369).keep K383 (ninS (Nat.ne_of_lt (Nat.lt_of_lt_of_le (f362.keep K367 (ninS (Nat.ne_of_lt (Nat.lt_of_lt_of_le (((p341_3.keep K343 nin0).keep K347 nin0).keep K349 nin0).lt sz_b353)) nin0)).lt sz_b369)) nin0))
        have f419 := (f376.keep K383 (ninS (Nat.ne_of_lt (Nat.lt_of_lt_of_le (((p347_0.keep K349).ext E353).keep K367).lt sz_b369)) nin0))
        have f420 := (f377.keep K383 (ninS (Nat.ne_of_lt (Nat.lt_of_lt_of_le (((p347_0.keep K349).ext E353).keep K367).lt sz_b369)) nin0))
        have f421 := (f378.keep K383 (ninS (Nat.ne_of_lt (Nat.lt_of_lt_of_le (((p347_3.keep K349 nin0).ext E353).keep K367 (ninS (Nat.ne_of_lt (Nat.lt_of_lt_of_le (p347_3.keep K349 nin0).lt sz_b353)) nin0)).lt sz_b369)) nin0))
        obtain ⟨cq414, kq414, q414a, q414b, q414c⟩ := isOf hZ e385 f415
        obtain ⟨_, _, ⟨T414, L414, k414, n414⟩, -, X414, ⟨Lc414, hQ414, l414, y414, z414⟩, st414⟩ := X383.virtualBack hx (y := Y23) (z := Y23) hown (mvT hZ (wd hw 193 rfl)) (mvT hZ (wd hw 194 rfl)) (notFace_of_selects (args := #[]) (mvT hZ (wd hw 196 rfl))) (mvT hZ (wd hw 196 rfl)) (mvT hZ (wd hw 195 rfl)) (by decide) (StrChars.Road.eqW (W := 0) hZ (own_heq hw) (kI := 4) (wd hw 17 rfl) f415 f416 f417 f418 (own_cod (own_nm_ok _)) (own_up (own_nm_ok _)) (own_nm_ok _).2 (f375.keep K383) f419 f420 f421 (own_cod (own_nm_ok _)) (own_up (own_nm_ok _)) (own_nm_ok _).2 (pr1.ext O384.2) hcs (by decide) (by decide)) q414a q414c (g := (mkF m 132 #[vi p1, vi p2, vi p3, vi bb340, vr b341, vr b343, .val .null, vr b347, vr b349, .val .null, vr b353, vr b369, vi 1, .unset, .unset, .unset, .unset, .unset, .unset] [(.ref b347), (.ref b341)])) rfl (by rw [hml]; rfl) (Steps.refl _) (argsL := [(.ref b347)]) (rest := []) (lenOf pd_30 rfl) rfl (by show 2 * 0 + _ ≤ _; exact Nat.le_of_eq rfl) (dk at_132) (fun _ _ => ⟨rfl, e385, Nat.le_of_ble_eq_true rfl, Nat.le_of_ble_eq_true rfl⟩)
        dsimp only [Pt.U, Pt.locs, Pt.cells, Pt.slots] at X414 l414 y414 z414 st414 hQ414
        subst l414 y414 z414
        obtain ⟨hv414, hL414, hh414⟩ := hQ414
        subst hL414
        have N414 := Fr.app N383 (Fr.nil n0)
        rcases hv414 with ⟨rfl, e422⟩ | ⟨rfl, e422⟩
        · skip
          refine gy (St T414 m 135 #[vi p1, vi p2, vi p3, vi bb340, vr b341, vr b343, .val .null, vr b347, vr b349, .val .null, vr b353, vr b369, vi 1, .unset, .unset, .unset, .unset, .unset, .unset] [(.int 1)]) (fun _ k => st414.trans k) ?_
          refine gy (St T414 m 142 #[vi p1, vi p2, vi p3, vi bb340, vr b341, vr b343, .val .null, vr b347, vr b349, .val .null, vr b353, vr b369, vi 1, .unset, .unset, .unset, .unset, .unset, .unset] [(.ref b349), (.ref b343)]) (fun _ k => XS.ifNo X414.here hx rfl (dk at_135) rfl ((if0 _ _).trans (feq (by decide : ¬ ((1 : Int32) = (0 : Int32)))).1) (XS.aload X414.here hx rfl (dk at_138) rfl rfl (XS.aload X414.here hx rfl (dk at_140) rfl rfl k))) ?_
          have f424 := (((f363.keep K367).ext E369).keep K383)
          have f425 := (((f364.keep K367 (ninS (Nat.ne_of_lt (Nat.lt_of_lt_of_le ((p343_0.keep K347).keep K349).lt sz_b353)) nin0)).ext E369).keep K383 (ninS (Nat.ne_of_lt (Nat.lt_of_lt_of_le (f363.keep K367).lt sz_b369)) nin0))
          have f426 := (((f365.keep K367 (ninS (Nat.ne_of_lt (Nat.lt_of_lt_of_le ((p343_0.keep K347).keep K349).lt sz_b353)) nin0)).ext E369).keep K383 (ninS (Nat.ne_of_lt (Nat.lt_of_lt_of_le (f363.keep K367).lt sz_b369)) nin0))
          have f427 := (((f366.keep K367 (ninS (Nat.ne_of_lt (Nat.lt_of_lt_of_le ((p343_3.keep K347 nin0).keep K349 nin0).lt sz_b353)) nin0)).ext E369).keep K383 (ninS (Nat.ne_of_lt (Nat.lt_of_lt_of_le (f366.keep K367 (ninS (Nat.ne_of_lt (Nat.lt_of_lt_of_le ((p343_3.keep K347 nin0).keep K349 nin0).lt sz_b353)) nin0)).lt sz_b369)) nin0))
          have f428 := (f380.keep K383 (ninS (Nat.ne_of_lt (Nat.lt_of_lt_of_le ((p349_0.ext E353).keep K367).lt sz_b369)) nin0))
          have f429 := (f381.keep K383 (ninS (Nat.ne_of_lt (Nat.lt_of_lt_of_le ((p349_0.ext E353).keep K367).lt sz_b369)) nin0))
          have f430 := (f382.keep K383 (ninS (Nat.ne_of_lt (Nat.lt_of_lt_of_le ((p349_3.ext E353).keep K367 (ninS (Nat.ne_of_lt (Nat.lt_of_lt_of_le p349_3.lt sz_b353)) nin0)).lt sz_b369)) nin0))
          obtain ⟨cq423, kq423, q423a, q423b, q423c⟩ := isOf hZ hh414 f424
          obtain ⟨_, _, ⟨T423, L423, k423, n423⟩, -, X423, ⟨Lc423, hQ423, l423, y423, z423⟩, st423⟩ := X414.virtualBack hx (y := Y23) (z := Y23) hown (mvT hZ (wd hw 193 rfl)) (mvT hZ (wd hw 194 rfl)) (notFace_of_selects (args := #[]) (mvT hZ (wd hw 196 rfl))) (mvT hZ (wd hw 196 rfl)) (mvT hZ (wd hw 195 rfl)) (by decide) (StrChars.Road.eqW (W := 0) hZ (own_heq hw) (kI := 4) (wd hw 17 rfl) f424 f425 f426 f427 (own_cod (own_nm_ok _)) (own_up (own_nm_ok _)) (own_nm_ok _).2 (f379.keep K383) f428 f429 f430 (own_cod (own_nm_ok _)) (own_up (own_nm_ok _)) (own_nm_ok _).2 (pr1.ext O384.2) hcs (by decide) (by decide)) q423a q423c (g := (mkF m 142 #[vi p1, vi p2, vi p3, vi bb340, vr b341, vr b343, .val .null, vr b347, vr b349, .val .null, vr b353, vr b369, vi 1, .unset, .unset, .unset, .unset, .unset, .unset] [(.ref b349), (.ref b343)])) rfl (by rw [hml]; rfl) (Steps.refl _) (argsL := [(.ref b349)]) (rest := []) (lenOf pd_30 rfl) rfl (by show 2 * 0 + _ ≤ _; exact Nat.le_of_eq rfl) (dk at_142) (fun _ _ => ⟨rfl, hh414, Nat.le_of_ble_eq_true rfl, Nat.le_of_ble_eq_true rfl⟩)
          dsimp only [Pt.U, Pt.locs, Pt.cells, Pt.slots] at X423 l423 y423 z423 st423 hQ423
          subst l423 y423 z423
          obtain ⟨hv423, hL423, hh423⟩ := hQ423
          subst hL423
          have N423 := Fr.app N414 (Fr.nil n0)
          rcases hv423 with ⟨rfl, e431⟩ | ⟨rfl, e431⟩
          · skip
            refine gy (St T423 m 145 #[vi p1, vi p2, vi p3, vi bb340, vr b341, vr b343, .val .null, vr b347, vr b349, .val .null, vr b353, vr b369, vi 1, .unset, .unset, .unset, .unset, .unset, .unset] [(.int 1)]) (fun _ k => st423.trans k) ?_
            refine gy (St T423 m 158 #[vi p1, vi p2, vi p3, vi bb340, vr b341, vr b343, .val .null, vr b347, vr b349, .val .null, vr b353, vr b369, vi 1, .unset, .unset, .unset, .unset, .unset, .unset] [(.int 1)]) (fun _ k => XS.ifNo X423.here hx rfl (dk at_145) rfl ((if0 _ _).trans (feq (by decide : ¬ ((1 : Int32) = (0 : Int32)))).1) (XS.iload X423.here hx rfl (dk at_148) rfl (XS.ifNo X423.here hx rfl (dk at_150) rfl ((if0 _ _).trans (feq (by decide : ¬ ((1 : Int32) = (0 : Int32)))).1) (XS.iconst X423.here hx rfl (dk at_153) (XS.goto X423.here hx rfl (pc0 := 154) (pc' := 158) rfl (dk at_154) (by decide) (by decide) k))))) ?_
            exact J385 T423 _ X423 N423 hh423 (1 : Int32) (1 : Int32) (Or.inl ⟨rfl, (by rw [e422, e431])⟩)
          · skip
            refine gy (St T423 m 145 #[vi p1, vi p2, vi p3, vi bb340, vr b341, vr b343, .val .null, vr b347, vr b349, .val .null, vr b353, vr b369, vi 1, .unset, .unset, .unset, .unset, .unset, .unset] [(.int 0)]) (fun _ k => st423.trans k) ?_
            refine gy (St T423 m 158 #[vi p1, vi p2, vi p3, vi bb340, vr b341, vr b343, .val .null, vr b347, vr b349, .val .null, vr b353, vr b369, vi 1, .unset, .unset, .unset, .unset, .unset, .unset] [(.int 0)]) (fun _ k => XS.ifYes X423.here hx rfl (pc0 := 145) (pc' := 157) rfl (dk at_145) rfl ((if0 _ _).trans (teq (by decide : (0 : Int32) = (0 : Int32))).1) (by decide) (by decide) (XS.iconst X423.here hx rfl (dk at_157) k)) ?_
            exact J385 T423 _ X423 N423 hh423 (0 : Int32) (1 : Int32) (Or.inr ⟨rfl, fun q => e431 (own_NN q).2⟩)
        · skip
          refine gy (St T414 m 135 #[vi p1, vi p2, vi p3, vi bb340, vr b341, vr b343, .val .null, vr b347, vr b349, .val .null, vr b353, vr b369, vi 1, .unset, .unset, .unset, .unset, .unset, .unset] [(.int 0)]) (fun _ k => st414.trans k) ?_
          refine gy (St T414 m 158 #[vi p1, vi p2, vi p3, vi bb340, vr b341, vr b343, .val .null, vr b347, vr b349, .val .null, vr b353, vr b369, vi 1, .unset, .unset, .unset, .unset, .unset, .unset] [(.int 0)]) (fun _ k => XS.ifYes X414.here hx rfl (pc0 := 135) (pc' := 157) rfl (dk at_135) rfl ((if0 _ _).trans (teq (by decide : (0 : Int32) = (0 : Int32))).1) (by decide) (by decide) (XS.iconst X414.here hx rfl (dk at_157) k)) ?_
          exact J385 T414 _ X414 N414 hh414 (0 : Int32) (1 : Int32) (Or.inr ⟨rfl, fun q => e422 (own_NN q).1⟩)
      · skip
        have hkT432 : _ ≤ T349.heap.size := (Nat.le_trans (Nat.le_trans (Nat.le_trans (Nat.le_trans hk K341.1) K343.1) K347.1) K349.1)
        obtain ⟨_, _, ⟨T432, L432, k432, n432⟩, -, X432, hSn432, hgr432, ⟨Lc432, hQ432, l432, y432, z432, CS432⟩, st432⟩ := callSS X349 hx (y := Y4) hown (mvT hZ (wd hw 33 rfl)) (mvT hZ (wd hw 34 rfl)) (mvT hZ (wd hw 2 rfl)) (mvT hZ (wd hw 35 rfl)) (by decide) (backOfSH (W := 0) (rm_endS l Z a0 hw [] ((bb340.toUInt32 >>> ((10 : Int32) &&& 31).toUInt32).toInt32) cs T349.heap n0 Z350 O350 pr1 hcs c351) hZ (wd hw 35 rfl) (wd hw 2 rfl) (by decide) (by decide) hEL C350.1) (g := (mkF m 53 #[vi p1, vi p2, vi p3, vi bb340, vr b341, vr b343, .val .null, vr b347, vr b349, .unset, .unset, .unset, .unset, .unset, .unset, .unset, .unset, .unset, .unset] [(.int ((bb340.toUInt32 >>> ((10 : Int32) &&& 31).toUInt32).toInt32))])) rfl (by rw [hml]; rfl) (argsL := [(.int ((bb340.toUInt32 >>> ((10 : Int32) &&& 31).toUInt32).toInt32))]) (rest := []) (lenOf pd_31 rfl) rfl (by show 2 * 0 + _ ≤ _; exact Nat.le_of_eq rfl) (dk at_53) (fun _ _ => ⟨rfl, rfl, Nat.le_of_ble_eq_true rfl, Nat.le_of_ble_eq_true rfl⟩)
        dsimp only [Pt.U, Pt.locs, Pt.cells, Pt.slots] at X432 l432 y432 z432 st432 hQ432 hSn432 hgr432 CS432
        subst l432 y432 z432
        obtain ⟨X432, hS, hZ, hown⟩ := rebS hS hkT432 X432 hSn432 hgr432 hZ hown
        have hk : T432.heap.size ≤ T432.heap.size := Nat.le_refl _
        obtain ⟨b432, t432, k432, rfl, Nq432, K432, p432_0, p432_1, p432_2, p432_3, p432_4⟩ := hQ432
        have N432 := Fr.app N349 Nq432
        have X432 : Stand p l e _ _ m _ below meth c T432 _ 16 40 := X432
        have C433 := C350.trans CS432
        have O433 := O350.keep K432 all0
        have Z433 : n0 ≤ T432.heap.size := Nat.le_trans Z350 K432.1
        have sz_b432 : T349.heap.size ≤ b432 := p432_4
        refine gy (St T432 m 56 #[vi p1, vi p2, vi p3, vi bb340, vr b341, vr b343, .val .null, vr b347, vr b349, .unset, .unset, .unset, .unset, .unset, .unset, .unset, .unset, .unset, .unset] [(.ref b432)]) (fun _ k => st432.trans k) ?_
        refine gy (St T432 m 58 #[vi p1, vi p2, vi p3, vi bb340, vr b341, vr b343, .val .null, vr b347, vr b349, vr b432, .unset, .unset, .unset, .unset, .unset, .unset, .unset, .unset, .unset] []) (fun _ k => XS.astore X432.here hx rfl (dk at_56) rfl rfl (l' := #[vi p1, vi p2, vi p3, vi bb340, vr b341, vr b343, .val .null, vr b347, vr b349, vr b432, .unset, .unset, .unset, .unset, .unset, .unset, .unset, .unset, .unset]) rfl k) ?_
        obtain ⟨T434, h434, X434, e434, E434, A434, D434, -, st434⟩ := newO X432 hx hZ hown (wd hw 54 rfl) (wd hw 55 rfl) (wd hw 56 rfl) rfl (g := (mkF m 58 #[vi p1, vi p2, vi p3, vi bb340, vr b341, vr b343, .val .null, vr b347, vr b349, vr b432, .unset, .unset, .unset, .unset, .unset, .unset, .unset, .unset, .unset] [])) rfl (dk at_58) (by decide) (by decide)
        obtain ⟨b434, g434⟩ : ∃ z, z = T432.heap.size := ⟨_, rfl⟩
        rw [← g434] at A434 D434 st434
        have sz_b434 : T432.heap.size ≤ b434 := Nat.le_of_eq g434.symm
        have C435 := C433.trans (CHr.ext E434 C433.1)
        have O435 := O433.ext E434
        have Z435 : n0 ≤ h434.size := Nat.le_trans Z433 E434.1
        have F436 : Fld Z h434 b434 "com/example/breakwater/breakwater/engine/Address" "scope" "Ljava/lang/String;" .null := D434 (Or.inr (wd hw 186 rfl)) (ty := (.object "java/lang/String")) (by decide)
        have F437 : Fld Z h434 b434 "com/example/breakwater/breakwater/engine/Address" "service" "Ljava/lang/String;" .null := D434 (Or.inr (wd hw 188 rfl)) (ty := (.object "java/lang/String")) (by decide)
        have F438 : Fld Z h434 b434 "com/example/breakwater/breakwater/engine/Address" "endpoint" "Ljava/lang/String;" .null := D434 (Or.inr (wd hw 190 rfl)) (ty := (.object "java/lang/String")) (by decide)
        have F439 : Fld Z h434 b434 "com/example/breakwater/breakwater/engine/Address" "text" "Ljava/lang/String;" .null := D434 (Or.inr (wd hw 192 rfl)) (ty := (.object "java/lang/String")) (by decide)
        refine gy (St T434 m 61 #[vi p1, vi p2, vi p3, vi bb340, vr b341, vr b343, .val .null, vr b347, vr b349, vr b432, .unset, .unset, .unset, .unset, .unset, .unset, .unset, .unset, .unset] [(.ref b434)]) st434 ?_
        refine gy (St T434 m 68 #[vi p1, vi p2, vi p3, vi bb340, vr b341, vr b343, .val .null, vr b347, vr b349, vr b432, .unset, .unset, .unset, .unset, .unset, .unset, .unset, .unset, .unset] [.null, (.ref b343), (.ref b341), (.ref b434), (.ref b434)]) (fun _ k => XS.dup X434.here hx rfl (dk at_61) rfl rfl (XS.aload X434.here hx rfl (dk at_62) rfl rfl (XS.aload X434.here hx rfl (dk at_64) rfl rfl (XS.aload X434.here hx rfl (dk at_66) rfl rfl k)))) ?_
        have f440 := (((((p341_0.keep K343).keep K347).keep K349).keep K432).ext E434)
        have f441 := (((((p341_1.keep K343 nin0).keep K347 nin0).keep K349 nin0).keep K432 nin0).ext E434)
        have f442 := (((((p341_2.keep K343 nin0).keep K347 nin0).keep K349 nin0).keep K432 nin0).ext E434)
        have f443 := (((((p341_3.keep K343 nin0).keep K347 nin0).keep K349 nin0).keep K432 nin0).ext E434)
        have f444 := ((((p343_0.keep K347).keep K349).keep K432).ext E434)
        have f445 := ((((p343_1.keep K347 nin0).keep K349 nin0).keep K432 nin0).ext E434)
        have f446 := ((((p343_2.keep K347 nin0).keep K349 nin0).keep K432 nin0).ext E434)
        have f447 := ((((p343_3.keep K347 nin0).keep K349 nin0).keep K432 nin0).ext E434)
        obtain ⟨_, _, ⟨T448, L448, k448, n448⟩, -, X448, ⟨Lc448, hQ448, l448, y448, z448⟩, st448⟩ := X434.specialBack hx (y := Y0) rfl hown (mvT hZ (wd hw 57 rfl)) (mvT hZ (wd hw 58 rfl)) (mvT hZ (wd hw 59 rfl)) (by decide) (backOf (W := 1) (rm_ad3n l Z a0 hw [] b434 b341 t341 k341 (own_nm p1) b343 t343 k343 (own_nm ((p1.toUInt32 >>> ((5 : Int32) &&& 31).toUInt32).toInt32)) cs h434 n0 Z435 O435 pr1 hcs A434 F436 F437 F438 F439 (Nat.le_trans Z433 sz_b434) f440 f441 f442 f443 (own_nmL _) f444 f445 f446 f447 (own_nmL _)) hZ (wd hw 59 rfl) (wd hw 56 rfl) (by decide) (by decide)) (g := (mkF m 68 #[vi p1, vi p2, vi p3, vi bb340, vr b341, vr b343, .val .null, vr b347, vr b349, vr b432, .unset, .unset, .unset, .unset, .unset, .unset, .unset, .unset, .unset] [.null, (.ref b343), (.ref b341), (.ref b434), (.ref b434)])) rfl (by rw [hml]; rfl) (Steps.refl _) (a := b434) (argsL := [(.ref b341), (.ref b343), .null]) (rest := [(.ref b434)]) (lenOf pd_32 rfl) rfl (by show 2 * 0 + _ ≤ _; exact Nat.le_of_eq rfl) (dk at_68) (fun _ _ => ⟨rfl, e434, Nat.le_of_ble_eq_true rfl, Nat.le_of_ble_eq_true rfl⟩)
        dsimp only [Pt.U, Pt.locs, Pt.cells, Pt.slots] at X448 l448 y448 z448 st448 hQ448
        subst l448 y448 z448
        obtain ⟨b448, t448, k448, rfl, Nq448, K448, p448_0, p448_1, p448_2, p448_3, p448_4, p448_5⟩ := hQ448
        have N448 := Fr.app N432 Nq448
        have X448 : Stand p l e _ _ m _ below meth c T448 _ 21 84 := X448
        have C449 := C435.trans (CHr.keep K448 (sfS (Safe.exa hZ.alike A434 (by decide) (by decide)) sf0) C435.1)
        have O449 := O435.keep K448 (allS (Nat.le_trans Z433 sz_b434) all0)
        have Z449 : n0 ≤ T448.heap.size := Nat.le_trans Z435 K448.1
        refine gy (St T448 m 71 #[vi p1, vi p2, vi p3, vi bb340, vr b341, vr b343, .val .null, vr b347, vr b349, vr b432, .unset, .unset, .unset, .unset, .unset, .unset, .unset, .unset, .unset] [(.ref b434)]) (fun _ k => st448.trans k) ?_
        refine gy (St T448 m 73 #[vi p1, vi p2, vi p3, vi bb340, vr b341, vr b343, .val .null, vr b347, vr b349, vr b432, vr b434, .unset, .unset, .unset, .unset, .unset, .unset, .unset, .unset] []) (fun _ k => XS.astore X448.here hx rfl (dk at_71) rfl rfl (l' := #[vi p1, vi p2, vi p3, vi bb340, vr b341, vr b343, .val .null, vr b347, vr b349, vr b432, vr b434, .unset, .unset, .unset, .unset, .unset, .unset, .unset, .unset]) rfl k) ?_
        obtain ⟨T450, h450, X450, e450, E450, A450, D450, -, st450⟩ := newO X448 hx hZ hown (wd hw 54 rfl) (wd hw 55 rfl) (wd hw 56 rfl) rfl (g := (mkF m 73 #[vi p1, vi p2, vi p3, vi bb340, vr b341, vr b343, .val .null, vr b347, vr b349, vr b432, vr b434, .unset, .unset, .unset, .unset, .unset, .unset, .unset, .unset] [])) rfl (dk at_73) (by decide) (by decide)
        obtain ⟨b450, g450⟩ : ∃ z, z = T448.heap.size := ⟨_, rfl⟩
        rw [← g450] at A450 D450 st450
        have sz_b450 : T448.heap.size ≤ b450 := Nat.le_of_eq g450.symm
        have C451 := C449.trans (CHr.ext E450 C449.1)
        have O451 := O449.ext E450
        have Z451 : n0 ≤ h450.size := Nat.le_trans Z449 E450.1
        have F452 : Fld Z h450 b450 "com/example/breakwater/breakwater/engine/Address" "scope" "Ljava/lang/String;" .null := D450 (Or.inr (wd hw 186 rfl)) (ty := (.object "java/lang/String")) (by decide)
        have F453 : Fld Z h450 b450 "com/example/breakwater/breakwater/engine/Address" "service" "Ljava/lang/String;" .null := D450 (Or.inr (wd hw 188 rfl)) (ty := (.object "java/lang/String")) (by decide)
        have F454 : Fld Z h450 b450 "com/example/breakwater/breakwater/engine/Address" "endpoint" "Ljava/lang/String;" .null := D450 (Or.inr (wd hw 190 rfl)) (ty := (.object "java/lang/String")) (by decide)
        have F455 : Fld Z h450 b450 "com/example/breakwater/breakwater/engine/Address" "text" "Ljava/lang/String;" .null := D450 (Or.inr (wd hw 192 rfl)) (ty := (.object "java/lang/String")) (by decide)
        refine gy (St T450 m 76 #[vi p1, vi p2, vi p3, vi bb340, vr b341, vr b343, .val .null, vr b347, vr b349, vr b432, vr b434, .unset, .unset, .unset, .unset, .unset, .unset, .unset, .unset] [(.ref b450)]) st450 ?_
        refine gy (St T450 m 83 #[vi p1, vi p2, vi p3, vi bb340, vr b341, vr b343, .val .null, vr b347, vr b349, vr b432, vr b434, .unset, .unset, .unset, .unset, .unset, .unset, .unset, .unset] [(.ref b432), (.ref b349), (.ref b347), (.ref b450), (.ref b450)]) (fun _ k => XS.dup X450.here hx rfl (dk at_76) rfl rfl (XS.aload X450.here hx rfl (dk at_77) rfl rfl (XS.aload X450.here hx rfl (dk at_79) rfl rfl (XS.aload X450.here hx rfl (dk at_81) rfl rfl k)))) ?_
        have f456 := (((((p347_0.keep K349).keep K432).ext E434).keep K448).ext E450)
        have f457 := (((((p347_1.keep K349 nin0).keep K432 nin0).ext E434).keep K448 (ninS (Nat.ne_of_lt (Nat.lt_of_lt_of_le ((p347_0.keep K349).keep K432).lt sz_b434)) nin0)).ext E450)
        have f458 := (((((p347_2.keep K349 nin0).keep K432 nin0).ext E434).keep K448 (ninS (Nat.ne_of_lt (Nat.lt_of_lt_of_le ((p347_0.keep K349).keep K432).lt sz_b434)) nin0)).ext E450)
        have f459 := (((((p347_3.keep K349 nin0).keep K432 nin0).ext E434).keep K448 (ninS (Nat.ne_of_lt (Nat.lt_of_lt_of_le ((p347_3.keep K349 nin0).keep K432 nin0).lt sz_b434)) nin0)).ext E450)
        have f460 := ((((p349_0.keep K432).ext E434).keep K448).ext E450)
        have f461 := ((((p349_1.keep K432 nin0).ext E434).keep K448 (ninS (Nat.ne_of_lt (Nat.lt_of_lt_of_le (p349_0.keep K432).lt sz_b434)) nin0)).ext E450)
        have f462 := ((((p349_2.keep K432 nin0).ext E434).keep K448 (ninS (Nat.ne_of_lt (Nat.lt_of_lt_of_le (p349_0.keep K432).lt sz_b434)) nin0)).ext E450)
        have f463 := ((((p349_3.keep K432 nin0).ext E434).keep K448 (ninS (Nat.ne_of_lt (Nat.lt_of_lt_of_le (p349_3.keep K432 nin0).lt sz_b434)) nin0)).ext E450)
        have f464 := (((p432_0.ext E434).keep K448).ext E450)
        have f465 := (((p432_1.ext E434).keep K448 (ninS (Nat.ne_of_lt (Nat.lt_of_lt_of_le p432_0.lt sz_b434)) nin0)).ext E450)
        have f466 := (((p432_2.ext E434).keep K448 (ninS (Nat.ne_of_lt (Nat.lt_of_lt_of_le p432_0.lt sz_b434)) nin0)).ext E450)
        have f467 := (((p432_3.ext E434).keep K448 (ninS (Nat.ne_of_lt (Nat.lt_of_lt_of_le p432_3.lt sz_b434)) nin0)).ext E450)
        obtain ⟨_, _, ⟨T468, L468, k468, n468⟩, -, X468, ⟨Lc468, hQ468, l468, y468, z468⟩, st468⟩ := X450.specialBack hx (y := Y0) rfl hown (mvT hZ (wd hw 57 rfl)) (mvT hZ (wd hw 58 rfl)) (mvT hZ (wd hw 59 rfl)) (by decide) (backOf (W := 1) (rm_ad3s l Z a0 hw [] b450 b347 t347 k347 (own_nm bb340) b349 t349 k349 (own_nm ((bb340.toUInt32 >>> ((5 : Int32) &&& 31).toUInt32).toInt32)) b432 t432 k432 (own_en ((bb340.toUInt32 >>> ((10 : Int32) &&& 31).toUInt32).toInt32)) cs h450 n0 Z451 O451 pr1 hcs A450 F452 F453 F454 F455 (Nat.le_trans Z449 sz_b450) f456 f457 f458 f459 (own_nmL _) f460 f461 f462 f463 (own_nmL _) f464 f465 f466 f467 (own_enL _)) hZ (wd hw 59 rfl) (wd hw 56 rfl) (by decide) (by decide)) (g := (mkF m 83 #[vi p1, vi p2, vi p3, vi bb340, vr b341, vr b343, .val .null, vr b347, vr b349, vr b432, vr b434, .unset, .unset, .unset, .unset, .unset, .unset, .unset, .unset] [(.ref b432), (.ref b349), (.ref b347), (.ref b450), (.ref b450)])) rfl (by rw [hml]; rfl) (Steps.refl _) (a := b450) (argsL := [(.ref b347), (.ref b349), (.ref b432)]) (rest := [(.ref b450)]) (lenOf pd_32 rfl) rfl (by show 2 * 0 + _ ≤ _; exact Nat.le_of_eq rfl) (dk at_83) (fun _ _ => ⟨rfl, e450, Nat.le_of_ble_eq_true rfl, Nat.le_of_ble_eq_true rfl⟩)
        dsimp only [Pt.U, Pt.locs, Pt.cells, Pt.slots] at X468 l468 y468 z468 st468 hQ468
        subst l468 y468 z468
        obtain ⟨b468, t468, k468, rfl, Nq468, K468, p468_0, p468_1, p468_2, p468_3, p468_4, p468_5⟩ := hQ468
        have N468 := Fr.app N448 Nq468
        have X468 : Stand p l e _ _ m _ below meth c T468 _ 26 128 := X468
        have C469 := C451.trans (CHr.keep K468 (sfS (Safe.exa hZ.alike A450 (by decide) (by decide)) sf0) C451.1)
        have O469 := O451.keep K468 (allS (Nat.le_trans Z449 sz_b450) all0)
        have Z469 : n0 ≤ T468.heap.size := Nat.le_trans Z451 K468.1
        refine gy (St T468 m 86 #[vi p1, vi p2, vi p3, vi bb340, vr b341, vr b343, .val .null, vr b347, vr b349, vr b432, vr b434, .unset, .unset, .unset, .unset, .unset, .unset, .unset, .unset] [(.ref b450)]) (fun _ k => st468.trans k) ?_
        refine gy (St T468 m 88 #[vi p1, vi p2, vi p3, vi bb340, vr b341, vr b343, .val .null, vr b347, vr b349, vr b432, vr b434, vr b450, .unset, .unset, .unset, .unset, .unset, .unset, .unset] []) (fun _ k => XS.astore X468.here hx rfl (dk at_86) rfl rfl (l' := #[vi p1, vi p2, vi p3, vi bb340, vr b341, vr b343, .val .null, vr b347, vr b349, vr b432, vr b434, vr b450, .unset, .unset, .unset, .unset, .unset, .unset, .unset]) rfl k) ?_
        have e470 : T468.heap = T468.heap := rfl
        have J470 : ∀ (T471 : State) (lc471 : List Loc) (X471 : Stand p l e room_1 (s.setVm T432.vm) m #[(.int p1), (.int p2), (.int p3)] below meth c T471 lc471 26 128) (N471 : Fr n0 lc471) (e471 : T471.heap = T468.heap) (rf471 : Int32) (se471 : Int32) (hJ471 : (rf471 = (1 : Int32) ∧ (own_tN (own_nm p1) (own_nm ((p1.toUInt32 >>> ((5 : Int32) &&& 31).toUInt32).toInt32))) = (own_tS (own_nm bb340) (own_nm ((bb340.toUInt32 >>> ((5 : Int32) &&& 31).toUInt32).toInt32)) (own_en ((bb340.toUInt32 >>> ((10 : Int32) &&& 31).toUInt32).toInt32)))) ∨ (rf471 = (0 : Int32) ∧ ¬ (own_tN (own_nm p1) (own_nm ((p1.toUInt32 >>> ((5 : Int32) &&& 31).toUInt32).toInt32))) = (own_tS (own_nm bb340) (own_nm ((bb340.toUInt32 >>> ((5 : Int32) &&& 31).toUInt32).toInt32)) (own_en ((bb340.toUInt32 >>> ((10 : Int32) &&& 31).toUInt32).toInt32))))), Go p e below (PostS Z own_EL s room_1.cells room_1.slots (Q_rm0 Z p1 p2 p3 cs h0 n0)) (T471.setTop (mkF m 158 #[vi p1, vi p2, vi p3, vi bb340, vr b341, vr b343, .val .null, vr b347, vr b349, vr b432, vr b434, vr b450, vi se471, .unset, .unset, .unset, .unset, .unset, .unset] [(.int rf471)])) := by
          intro T471 lc471 X471 N471 e471 rf471 se471 hJ471
          rcases hJ471 with ⟨rfl, e472⟩ | ⟨rfl, e472⟩
          · skip
            refine gy (St T471 m 164 #[vi p1, vi p2, vi p3, vi bb340, vr b341, vr b343, .val .null, vr b347, vr b349, vr b432, vr b434, vr b450, vi se471, vi 1, .unset, .unset, .unset, .unset, .unset] [(.ref b450), (.ref b434)]) (fun _ k => XS.istore X471.here hx rfl (dk at_158) rfl (l' := #[vi p1, vi p2, vi p3, vi bb340, vr b341, vr b343, .val .null, vr b347, vr b349, vr b432, vr b434, vr b450, vi se471, vi 1, .unset, .unset, .unset, .unset, .unset]) rfl (XS.aload X471.here hx rfl (dk at_160) rfl rfl (XS.aload X471.here hx rfl (dk at_162) rfl rfl k))) ?_
            have f473 := ((p448_1.ext E450).keep K468 (ninS (Nat.ne_of_lt (Nat.lt_of_lt_of_le p448_0.lt sz_b450)) nin0))
            have f474 := ((p448_3.ext E450).keep K468 (ninS (Nat.ne_of_lt (Nat.lt_of_lt_of_le p448_2.lt sz_b450)) nin0))
            have f475 := ((p448_4.ext E450).keep K468 (ninS (Nat.ne_of_lt (Nat.lt_of_lt_of_le p448_2.lt sz_b450)) nin0))
            have f476 := ((p448_5.ext E450).keep K468 (ninS (Nat.ne_of_lt (Nat.lt_of_lt_of_le p448_5.lt sz_b450)) nin0))
            obtain ⟨cq477, kq477, q477a, q477b, q477c⟩ := isOf hZ e471 ((p448_0.ext E450).keep K468)
            obtain ⟨_, _, ⟨T477, L477, k477, n477⟩, -, X477, ⟨Lc477, hQ477, l477, y477, z477⟩, st477⟩ := X471.virtualBack hx (y := Y2) (z := Y2) hown (mvT hZ (wd hw 201 rfl)) (mvT hZ (wd hw 202 rfl)) (notFace_of_selects (args := #[]) (mvT hZ (wd hw 204 rfl))) (mvT hZ (wd hw 204 rfl)) (mvT hZ (wd hw 203 rfl)) (by decide) (backOf (W := 0) (rm_eq_i l Z a0 hw [] b434 b450 b448 t448 k448 (own_tN (own_nm p1) (own_nm ((p1.toUInt32 >>> ((5 : Int32) &&& 31).toUInt32).toInt32))) b468 t468 k468 (own_tS (own_nm bb340) (own_nm ((bb340.toUInt32 >>> ((5 : Int32) &&& 31).toUInt32).toInt32)) (own_en ((bb340.toUInt32 >>> ((10 : Int32) &&& 31).toUInt32).toInt32))) cs T468.heap n0 Z469 O469 pr1 hcs ((p448_0.ext E450).keep K468) f473 ((p448_2.ext E450).keep K468) f474 f475 f476 (own_tN_ok _ _) p468_0 p468_1 p468_2 p468_3 p468_4 p468_5 (own_tS_ok _ _ _) (Nat.ne_of_lt (Nat.lt_of_lt_of_le p448_0.lt sz_b450))) hZ (wd hw 205 rfl) (wd hw 56 rfl) (by decide) (by decide)) q477a q477c (g := (mkF m 164 #[vi p1, vi p2, vi p3, vi bb340, vr b341, vr b343, .val .null, vr b347, vr b349, vr b432, vr b434, vr b450, vi se471, vi 1, .unset, .unset, .unset, .unset, .unset] [(.ref b450), (.ref b434)])) rfl (by rw [hml]; rfl) (Steps.refl _) (argsL := [(.ref b450)]) (rest := []) (lenOf pd_30 rfl) rfl (by show 2 * 0 + _ ≤ _; exact Nat.le_of_eq rfl) (dk at_164) (fun _ _ => ⟨rfl, e471, Nat.le_of_ble_eq_true rfl, Nat.le_of_ble_eq_true rfl⟩)
            dsimp only [Pt.U, Pt.locs, Pt.cells, Pt.slots] at X477 l477 y477 z477 st477 hQ477
            subst l477 y477 z477
            obtain ⟨v477, rfl, Nq477, hh477, p477_0⟩ := hQ477
            have N477 := Fr.app N471 Nq477
            have X477 : Stand p l e _ _ m _ below meth c T477 _ 26 128 := X477
            refine gy (St T477 m 167 #[vi p1, vi p2, vi p3, vi bb340, vr b341, vr b343, .val .null, vr b347, vr b349, vr b432, vr b434, vr b450, vi se471, vi 1, .unset, .unset, .unset, .unset, .unset] [(.int v477)]) (fun _ k => st477.trans k) ?_
            rcases p477_0 with ⟨rfl, e478⟩ | ⟨rfl, e478⟩
            · skip
              refine gy (St T477 m 173 #[vi p1, vi p2, vi p3, vi bb340, vr b341, vr b343, .val .null, vr b347, vr b349, vr b432, vr b434, vr b450, vi se471, vi 1, vi 1, .unset, .unset, .unset, .unset] [(.ref b434), (.ref b450)]) (fun _ k => XS.istore X477.here hx rfl (dk at_167) rfl (l' := #[vi p1, vi p2, vi p3, vi bb340, vr b341, vr b343, .val .null, vr b347, vr b349, vr b432, vr b434, vr b450, vi se471, vi 1, vi 1, .unset, .unset, .unset, .unset]) rfl (XS.aload X477.here hx rfl (dk at_169) rfl rfl (XS.aload X477.here hx rfl (dk at_171) rfl rfl k))) ?_
              obtain ⟨cq479, kq479, q479a, q479b, q479c⟩ := isOf hZ hh477 p468_0
              obtain ⟨_, _, ⟨T479, L479, k479, n479⟩, -, X479, ⟨Lc479, hQ479, l479, y479, z479⟩, st479⟩ := X477.virtualBack hx (y := Y2) (z := Y2) hown (mvT hZ (wd hw 201 rfl)) (mvT hZ (wd hw 202 rfl)) (notFace_of_selects (args := #[]) (mvT hZ (wd hw 204 rfl))) (mvT hZ (wd hw 204 rfl)) (mvT hZ (wd hw 203 rfl)) (by decide) (backOf (W := 0) (rm_eq_i l Z a0 hw [] b450 b434 b468 t468 k468 (own_tS (own_nm bb340) (own_nm ((bb340.toUInt32 >>> ((5 : Int32) &&& 31).toUInt32).toInt32)) (own_en ((bb340.toUInt32 >>> ((10 : Int32) &&& 31).toUInt32).toInt32))) b448 t448 k448 (own_tN (own_nm p1) (own_nm ((p1.toUInt32 >>> ((5 : Int32) &&& 31).toUInt32).toInt32))) cs T468.heap n0 Z469 O469 pr1 hcs p468_0 p468_1 p468_2 p468_3 p468_4 p468_5 (own_tS_ok _ _ _) ((p448_0.ext E450).keep K468) f473 ((p448_2.ext E450).keep K468) f474 f475 f476 (own_tN_ok _ _) (Ne.symm (Nat.ne_of_lt (Nat.lt_of_lt_of_le p448_0.lt sz_b450)))) hZ (wd hw 205 rfl) (wd hw 56 rfl) (by decide) (by decide)) q479a q479c (g := (mkF m 173 #[vi p1, vi p2, vi p3, vi bb340, vr b341, vr b343, .val .null, vr b347, vr b349, vr b432, vr b434, vr b450, vi se471, vi 1, vi 1, .unset, .unset, .unset, .unset] [(.ref b434), (.ref b450)])) rfl (by rw [hml]; rfl) (Steps.refl _) (argsL := [(.ref b434)]) (rest := []) (lenOf pd_30 rfl) rfl (by show 2 * 0 + _ ≤ _; exact Nat.le_of_eq rfl) (dk at_173) (fun _ _ => ⟨rfl, hh477, Nat.le_of_ble_eq_true rfl, Nat.le_of_ble_eq_true rfl⟩)
              dsimp only [Pt.U, Pt.locs, Pt.cells, Pt.slots] at X479 l479 y479 z479 st479 hQ479
              subst l479 y479 z479
              obtain ⟨v479, rfl, Nq479, hh479, p479_0⟩ := hQ479
              have N479 := Fr.app N477 Nq479
              have X479 : Stand p l e _ _ m _ below meth c T479 _ 26 128 := X479
              refine gy (St T479 m 176 #[vi p1, vi p2, vi p3, vi bb340, vr b341, vr b343, .val .null, vr b347, vr b349, vr b432, vr b434, vr b450, vi se471, vi 1, vi 1, .unset, .unset, .unset, .unset] [(.int v479)]) (fun _ k => st479.trans k) ?_
              rcases p479_0 with ⟨rfl, e480⟩ | ⟨rfl, e480⟩
              · skip
                refine gy (St T479 m 182 #[vi p1, vi p2, vi p3, vi bb340, vr b341, vr b343, .val .null, vr b347, vr b349, vr b432, vr b434, vr b450, vi se471, vi 1, vi 1, vi 1, .unset, .unset, .unset] [(.ref b434), (.ref b434)]) (fun _ k => XS.istore X479.here hx rfl (dk at_176) rfl (l' := #[vi p1, vi p2, vi p3, vi bb340, vr b341, vr b343, .val .null, vr b347, vr b349, vr b432, vr b434, vr b450, vi se471, vi 1, vi 1, vi 1, .unset, .unset, .unset]) rfl (XS.aload X479.here hx rfl (dk at_178) rfl rfl (XS.aload X479.here hx rfl (dk at_180) rfl rfl k))) ?_
                obtain ⟨cq481, kq481, q481a, q481b, q481c⟩ := isOf hZ hh479 ((p448_0.ext E450).keep K468)
                obtain ⟨_, _, ⟨T481, L481, k481, n481⟩, -, X481, ⟨Lc481, hQ481, l481, y481, z481⟩, st481⟩ := X479.virtualBack hx (y := Y2) (z := Y2) hown (mvT hZ (wd hw 201 rfl)) (mvT hZ (wd hw 202 rfl)) (notFace_of_selects (args := #[]) (mvT hZ (wd hw 204 rfl))) (mvT hZ (wd hw 204 rfl)) (mvT hZ (wd hw 203 rfl)) (by decide) (backOf (W := 0) (rm_eq_s l Z a0 hw [] b434 T468.heap n0 Z469 ) hZ (wd hw 205 rfl) (wd hw 56 rfl) (by decide) (by decide)) q481a q481c (g := (mkF m 182 #[vi p1, vi p2, vi p3, vi bb340, vr b341, vr b343, .val .null, vr b347, vr b349, vr b432, vr b434, vr b450, vi se471, vi 1, vi 1, vi 1, .unset, .unset, .unset] [(.ref b434), (.ref b434)])) rfl (by rw [hml]; rfl) (Steps.refl _) (argsL := [(.ref b434)]) (rest := []) (lenOf pd_30 rfl) rfl (by show 2 * 0 + _ ≤ _; exact Nat.le_of_eq rfl) (dk at_182) (fun _ _ => ⟨rfl, hh479, Nat.le_of_ble_eq_true rfl, Nat.le_of_ble_eq_true rfl⟩)
                dsimp only [Pt.U, Pt.locs, Pt.cells, Pt.slots] at X481 l481 y481 z481 st481 hQ481
                subst l481 y481 z481
                obtain ⟨rfl, Nq481, hh481⟩ := hQ481
                have N481 := Fr.app N479 Nq481
                have X481 : Stand p l e _ _ m _ below meth c T481 _ 26 128 := X481
                refine gy (St T481 m 185 #[vi p1, vi p2, vi p3, vi bb340, vr b341, vr b343, .val .null, vr b347, vr b349, vr b432, vr b434, vr b450, vi se471, vi 1, vi 1, vi 1, .unset, .unset, .unset] [(.int 1)]) (fun _ k => st481.trans k) ?_
                refine gy (St T481 m 190 #[vi p1, vi p2, vi p3, vi bb340, vr b341, vr b343, .val .null, vr b347, vr b349, vr b432, vr b434, vr b450, vi se471, vi 1, vi 1, vi 1, vi 1, .unset, .unset] [.null, (.ref b434)]) (fun _ k => XS.istore X481.here hx rfl (dk at_185) rfl (l' := #[vi p1, vi p2, vi p3, vi bb340, vr b341, vr b343, .val .null, vr b347, vr b349, vr b432, vr b434, vr b450, vi se471, vi 1, vi 1, vi 1, vi 1, .unset, .unset]) rfl (XS.aload X481.here hx rfl (dk at_187) rfl rfl (XS.aconstNull X481.here hx rfl (dk at_189) k))) ?_
                obtain ⟨cq482, kq482, q482a, q482b, q482c⟩ := isOf hZ hh481 ((p448_0.ext E450).keep K468)
                obtain ⟨_, _, ⟨T482, L482, k482, n482⟩, -, X482, ⟨Lc482, hQ482, l482, y482, z482⟩, st482⟩ := X481.virtualBack hx (y := Y2) (z := Y2) hown (mvT hZ (wd hw 201 rfl)) (mvT hZ (wd hw 202 rfl)) (notFace_of_selects (args := #[]) (mvT hZ (wd hw 204 rfl))) (mvT hZ (wd hw 204 rfl)) (mvT hZ (wd hw 203 rfl)) (by decide) (backOf (W := 0) (rm_eq_n l Z a0 hw [] b434 T468.heap n0 Z469 ) hZ (wd hw 205 rfl) (wd hw 56 rfl) (by decide) (by decide)) q482a q482c (g := (mkF m 190 #[vi p1, vi p2, vi p3, vi bb340, vr b341, vr b343, .val .null, vr b347, vr b349, vr b432, vr b434, vr b450, vi se471, vi 1, vi 1, vi 1, vi 1, .unset, .unset] [.null, (.ref b434)])) rfl (by rw [hml]; rfl) (Steps.refl _) (argsL := [.null]) (rest := []) (lenOf pd_30 rfl) rfl (by show 2 * 0 + _ ≤ _; exact Nat.le_of_eq rfl) (dk at_190) (fun _ _ => ⟨rfl, hh481, Nat.le_of_ble_eq_true rfl, Nat.le_of_ble_eq_true rfl⟩)
                dsimp only [Pt.U, Pt.locs, Pt.cells, Pt.slots] at X482 l482 y482 z482 st482 hQ482
                subst l482 y482 z482
                obtain ⟨rfl, Nq482, hh482⟩ := hQ482
                have N482 := Fr.app N481 Nq482
                have X482 : Stand p l e _ _ m _ below meth c T482 _ 26 128 := X482
                refine gy (St T482 m 193 #[vi p1, vi p2, vi p3, vi bb340, vr b341, vr b343, .val .null, vr b347, vr b349, vr b432, vr b434, vr b450, vi se471, vi 1, vi 1, vi 1, vi 1, .unset, .unset] [(.int 0)]) (fun _ k => st482.trans k) ?_
                refine gy (St T482 m 199 #[vi p1, vi p2, vi p3, vi bb340, vr b341, vr b343, .val .null, vr b347, vr b349, vr b432, vr b434, vr b450, vi se471, vi 1, vi 1, vi 1, vi 1, vi 0, .unset] [(.ref b341), (.ref b434)]) (fun _ k => XS.istore X482.here hx rfl (dk at_193) rfl (l' := #[vi p1, vi p2, vi p3, vi bb340, vr b341, vr b343, .val .null, vr b347, vr b349, vr b432, vr b434, vr b450, vi se471, vi 1, vi 1, vi 1, vi 1, vi 0, .unset]) rfl (XS.aload X482.here hx rfl (dk at_195) rfl rfl (XS.aload X482.here hx rfl (dk at_197) rfl rfl k))) ?_
                have f483 := (((f440.keep K448).ext E450).keep K468)
                obtain ⟨cq484, kq484, q484a, q484b, q484c⟩ := isOf hZ hh482 ((p448_0.ext E450).keep K468)
                obtain ⟨_, _, ⟨T484, L484, k484, n484⟩, -, X484, ⟨Lc484, hQ484, l484, y484, z484⟩, st484⟩ := X482.virtualBack hx (y := Y2) (z := Y2) hown (mvT hZ (wd hw 201 rfl)) (mvT hZ (wd hw 202 rfl)) (notFace_of_selects (args := #[]) (mvT hZ (wd hw 204 rfl))) (mvT hZ (wd hw 204 rfl)) (mvT hZ (wd hw 203 rfl)) (by decide) (backOf (W := 0) (rm_eq_o l Z a0 hw [] b434 b341 T468.heap n0 Z469 ((p448_0.ext E450).keep K468) f483) hZ (wd hw 205 rfl) (wd hw 56 rfl) (by decide) (by decide)) q484a q484c (g := (mkF m 199 #[vi p1, vi p2, vi p3, vi bb340, vr b341, vr b343, .val .null, vr b347, vr b349, vr b432, vr b434, vr b450, vi se471, vi 1, vi 1, vi 1, vi 1, vi 0, .unset] [(.ref b341), (.ref b434)])) rfl (by rw [hml]; rfl) (Steps.refl _) (argsL := [(.ref b341)]) (rest := []) (lenOf pd_30 rfl) rfl (by show 2 * 0 + _ ≤ _; exact Nat.le_of_eq rfl) (dk at_199) (fun _ _ => ⟨rfl, hh482, Nat.le_of_ble_eq_true rfl, Nat.le_of_ble_eq_true rfl⟩)
                dsimp only [Pt.U, Pt.locs, Pt.cells, Pt.slots] at X484 l484 y484 z484 st484 hQ484
                subst l484 y484 z484
                obtain ⟨rfl, Nq484, hh484⟩ := hQ484
                have N484 := Fr.app N482 Nq484
                have X484 : Stand p l e _ _ m _ below meth c T484 _ 26 128 := X484
                refine gy (St T484 m 202 #[vi p1, vi p2, vi p3, vi bb340, vr b341, vr b343, .val .null, vr b347, vr b349, vr b432, vr b434, vr b450, vi se471, vi 1, vi 1, vi 1, vi 1, vi 0, .unset] [(.int 0)]) (fun _ k => st484.trans k) ?_
                refine gy (St T484 m 220 #[vi p1, vi p2, vi p3, vi bb340, vr b341, vr b343, .val .null, vr b347, vr b349, vr b432, vr b434, vr b450, vi se471, vi 1, vi 1, vi 1, vi 1, vi 0, vi 0] [(.int 1)]) (fun _ k => XS.istore X484.here hx rfl (dk at_202) rfl (l' := #[vi p1, vi p2, vi p3, vi bb340, vr b341, vr b343, .val .null, vr b347, vr b349, vr b432, vr b434, vr b450, vi se471, vi 1, vi 1, vi 1, vi 1, vi 0, vi 0]) rfl (XS.iload X484.here hx rfl (dk at_204) rfl (XS.iload X484.here hx rfl (dk at_206) rfl (XS.icmpNo X484.here hx rfl (dk at_208) rfl (teq (by decide : (1 : Int32) = (1 : Int32))).2 (XS.iload X484.here hx rfl (dk at_211) rfl (XS.iload X484.here hx rfl (dk at_213) rfl (XS.icmpNo X484.here hx rfl (dk at_215) rfl (teq (by decide : (1 : Int32) = (1 : Int32))).2 (XS.iload X484.here hx rfl (dk at_218) rfl k)))))))) ?_
                refine gy (St T484 m 238 #[vi p1, vi p2, vi p3, vi bb340, vr b341, vr b343, .val .null, vr b347, vr b349, vr b432, vr b434, vr b450, vi se471, vi 1, vi 1, vi 1, vi 1, vi 0, vi 0] [(.int 1)]) (fun _ k => XS.ifNo X484.here hx rfl (dk at_220) rfl ((if0 _ _).trans (feq (by decide : ¬ ((1 : Int32) = (0 : Int32)))).1) (XS.iload X484.here hx rfl (dk at_223) rfl (XS.ifNo X484.here hx rfl (dk at_225) rfl ((if0 _ _).trans (teq (by decide : (0 : Int32) = (0 : Int32))).2) (XS.iload X484.here hx rfl (dk at_228) rfl (XS.ifNo X484.here hx rfl (dk at_230) rfl ((if0 _ _).trans (teq (by decide : (0 : Int32) = (0 : Int32))).2) (XS.iconst X484.here hx rfl (dk at_233) (XS.goto X484.here hx rfl (pc0 := 234) (pc' := 238) rfl (dk at_234) (by decide) (by decide) k))))))) ?_
                have hkE485 : _ ≤ T484.heap.size := (by rw [hh484]; exact (Nat.le_trans (Nat.le_trans (Nat.le_trans (Nat.le_trans hk E434.1) K448.1) E450.1) K468.1))
                have CE485 : CHr Z own_EL s.vm s.heap T432.vm T484.heap := (by rw [hh484]; exact C469)
                refine Go.retS X484 hx hlk hS hkE485 hZ hEL CE485 (t := .boolean) hret rfl (Or.inl ⟨rfl, by simp, _, rfl⟩) (dk at_238) (by decide) (by decide) ?_
                exact ⟨rfl, N484⟩
              · skip
                exact absurd (e478).symm e480
            · skip
              exact absurd e472 e478
          · skip
            refine gy (St T471 m 164 #[vi p1, vi p2, vi p3, vi bb340, vr b341, vr b343, .val .null, vr b347, vr b349, vr b432, vr b434, vr b450, vi se471, vi 0, .unset, .unset, .unset, .unset, .unset] [(.ref b450), (.ref b434)]) (fun _ k => XS.istore X471.here hx rfl (dk at_158) rfl (l' := #[vi p1, vi p2, vi p3, vi bb340, vr b341, vr b343, .val .null, vr b347, vr b349, vr b432, vr b434, vr b450, vi se471, vi 0, .unset, .unset, .unset, .unset, .unset]) rfl (XS.aload X471.here hx rfl (dk at_160) rfl rfl (XS.aload X471.here hx rfl (dk at_162) rfl rfl k))) ?_
            have f486 := ((p448_1.ext E450).keep K468 (ninS (Nat.ne_of_lt (Nat.lt_of_lt_of_le p448_0.lt sz_b450)) nin0))
            have f487 := ((p448_3.ext E450).keep K468 (ninS (Nat.ne_of_lt (Nat.lt_of_lt_of_le p448_2.lt sz_b450)) nin0))
            have f488 := ((p448_4.ext E450).keep K468 (ninS (Nat.ne_of_lt (Nat.lt_of_lt_of_le p448_2.lt sz_b450)) nin0))
            have f489 := ((p448_5.ext E450).keep K468 (ninS (Nat.ne_of_lt (Nat.lt_of_lt_of_le p448_5.lt sz_b450)) nin0))
            obtain ⟨cq490, kq490, q490a, q490b, q490c⟩ := isOf hZ e471 ((p448_0.ext E450).keep K468)
            obtain ⟨_, _, ⟨T490, L490, k490, n490⟩, -, X490, ⟨Lc490, hQ490, l490, y490, z490⟩, st490⟩ := X471.virtualBack hx (y := Y2) (z := Y2) hown (mvT hZ (wd hw 201 rfl)) (mvT hZ (wd hw 202 rfl)) (notFace_of_selects (args := #[]) (mvT hZ (wd hw 204 rfl))) (mvT hZ (wd hw 204 rfl)) (mvT hZ (wd hw 203 rfl)) (by decide) (backOf (W := 0) (rm_eq_i l Z a0 hw [] b434 b450 b448 t448 k448 (own_tN (own_nm p1) (own_nm ((p1.toUInt32 >>> ((5 : Int32) &&& 31).toUInt32).toInt32))) b468 t468 k468 (own_tS (own_nm bb340) (own_nm ((bb340.toUInt32 >>> ((5 : Int32) &&& 31).toUInt32).toInt32)) (own_en ((bb340.toUInt32 >>> ((10 : Int32) &&& 31).toUInt32).toInt32))) cs T468.heap n0 Z469 O469 pr1 hcs ((p448_0.ext E450).keep K468) f486 ((p448_2.ext E450).keep K468) f487 f488 f489 (own_tN_ok _ _) p468_0 p468_1 p468_2 p468_3 p468_4 p468_5 (own_tS_ok _ _ _) (Nat.ne_of_lt (Nat.lt_of_lt_of_le p448_0.lt sz_b450))) hZ (wd hw 205 rfl) (wd hw 56 rfl) (by decide) (by decide)) q490a q490c (g := (mkF m 164 #[vi p1, vi p2, vi p3, vi bb340, vr b341, vr b343, .val .null, vr b347, vr b349, vr b432, vr b434, vr b450, vi se471, vi 0, .unset, .unset, .unset, .unset, .unset] [(.ref b450), (.ref b434)])) rfl (by rw [hml]; rfl) (Steps.refl _) (argsL := [(.ref b450)]) (rest := []) (lenOf pd_30 rfl) rfl (by show 2 * 0 + _ ≤ _; exact Nat.le_of_eq rfl) (dk at_164) (fun _ _ => ⟨rfl, e471, Nat.le_of_ble_eq_true rfl, Nat.le_of_ble_eq_true rfl⟩)
            dsimp only [Pt.U, Pt.locs, Pt.cells, Pt.slots] at X490 l490 y490 z490 st490 hQ490
            subst l490 y490 z490
            obtain ⟨v490, rfl, Nq490, hh490, p490_0⟩ := hQ490
            have N490 := Fr.app N471 Nq490
            have X490 : Stand p l e _ _ m _ below meth c T490 _ 26 128 := X490
            refine gy (St T490 m 167 #[vi p1, vi p2, vi p3, vi bb340, vr b341, vr b343, .val .null, vr b347, vr b349, vr b432, vr b434, vr b450, vi se471, vi 0, .unset, .unset, .unset, .unset, .unset] [(.int v490)]) (fun _ k => st490.trans k) ?_
            rcases p490_0 with ⟨rfl, e491⟩ | ⟨rfl, e491⟩
            · skip
              exact absurd e491 e472
            · skip
              refine gy (St T490 m 173 #[vi p1, vi p2, vi p3, vi bb340, vr b341, vr b343, .val .null, vr b347, vr b349, vr b432, vr b434, vr b450, vi se471, vi 0, vi 0, .unset, .unset, .unset, .unset] [(.ref b434), (.ref b450)]) (fun _ k => XS.istore X490.here hx rfl (dk at_167) rfl (l' := #[vi p1, vi p2, vi p3, vi bb340, vr b341, vr b343, .val .null, vr b347, vr b349, vr b432, vr b434, vr b450, vi se471, vi 0, vi 0, .unset, .unset, .unset, .unset]) rfl (XS.aload X490.here hx rfl (dk at_169) rfl rfl (XS.aload X490.here hx rfl (dk at_171) rfl rfl k))) ?_
              obtain ⟨cq492, kq492, q492a, q492b, q492c⟩ := isOf hZ hh490 p468_0
              obtain ⟨_, _, ⟨T492, L492, k492, n492⟩, -, X492, ⟨Lc492, hQ492, l492, y492, z492⟩, st492⟩ := X490.virtualBack hx (y := Y2) (z := Y2) hown (mvT hZ (wd hw 201 rfl)) (mvT hZ (wd hw 202 rfl)) (notFace_of_selects (args := #[]) (mvT hZ (wd hw 204 rfl))) (mvT hZ (wd hw 204 rfl)) (mvT hZ (wd hw 203 rfl)) (by decide) (backOf (W := 0) (rm_eq_i l Z a0 hw [] b450 b434 b468 t468 k468 (own_tS (own_nm bb340) (own_nm ((bb340.toUInt32 >>> ((5 : Int32) &&& 31).toUInt32).toInt32)) (own_en ((bb340.toUInt32 >>> ((10 : Int32) &&& 31).toUInt32).toInt32))) b448 t448 k448 (own_tN (own_nm p1) (own_nm ((p1.toUInt32 >>> ((5 : Int32) &&& 31).toUInt32).toInt32))) cs T468.heap n0 Z469 O469 pr1 hcs p468_0 p468_1 p468_2 p468_3 p468_4 p468_5 (own_tS_ok _ _ _) ((p448_0.ext E450).keep K468) f486 ((p448_2.ext E450).keep K468) f487 f488 f489 (own_tN_ok _ _) (Ne.symm (Nat.ne_of_lt (Nat.lt_of_lt_of_le p448_0.lt sz_b450)))) hZ (wd hw 205 rfl) (wd hw 56 rfl) (by decide) (by decide)) q492a q492c (g := (mkF m 173 #[vi p1, vi p2, vi p3, vi bb340, vr b341, vr b343, .val .null, vr b347, vr b349, vr b432, vr b434, vr b450, vi se471, vi 0, vi 0, .unset, .unset, .unset, .unset] [(.ref b434), (.ref b450)])) rfl (by rw [hml]; rfl) (Steps.refl _) (argsL := [(.ref b434)]) (rest := []) (lenOf pd_30 rfl) rfl (by show 2 * 0 + _ ≤ _; exact Nat.le_of_eq rfl) (dk at_173) (fun _ _ => ⟨rfl, hh490, Nat.le_of_ble_eq_true rfl, Nat.le_of_ble_eq_true rfl⟩)
              dsimp only [Pt.U, Pt.locs, Pt.cells, Pt.slots] at X492 l492 y492 z492 st492 hQ492
              subst l492 y492 z492
              obtain ⟨v492, rfl, Nq492, hh492, p492_0⟩ := hQ492
              have N492 := Fr.app N490 Nq492
              have X492 : Stand p l e _ _ m _ below meth c T492 _ 26 128 := X492
              refine gy (St T492 m 176 #[vi p1, vi p2, vi p3, vi bb340, vr b341, vr b343, .val .null, vr b347, vr b349, vr b432, vr b434, vr b450, vi se471, vi 0, vi 0, .unset, .unset, .unset, .unset] [(.int v492)]) (fun _ k => st492.trans k) ?_
              rcases p492_0 with ⟨rfl, e493⟩ | ⟨rfl, e493⟩
              · skip
                exact absurd (e493).symm e491
              · skip
                refine gy (St T492 m 182 #[vi p1, vi p2, vi p3, vi bb340, vr b341, vr b343, .val .null, vr b347, vr b349, vr b432, vr b434, vr b450, vi se471, vi 0, vi 0, vi 0, .unset, .unset, .unset] [(.ref b434), (.ref b434)]) (fun _ k => XS.istore X492.here hx rfl (dk at_176) rfl (l' := #[vi p1, vi p2, vi p3, vi bb340, vr b341, vr b343, .val .null, vr b347, vr b349, vr b432, vr b434, vr b450, vi se471, vi 0, vi 0, vi 0, .unset, .unset, .unset]) rfl (XS.aload X492.here hx rfl (dk at_178) rfl rfl (XS.aload X492.here hx rfl (dk at_180) rfl rfl k))) ?_
                obtain ⟨cq494, kq494, q494a, q494b, q494c⟩ := isOf hZ hh492 ((p448_0.ext E450).keep K468)
                obtain ⟨_, _, ⟨T494, L494, k494, n494⟩, -, X494, ⟨Lc494, hQ494, l494, y494, z494⟩, st494⟩ := X492.virtualBack hx (y := Y2) (z := Y2) hown (mvT hZ (wd hw 201 rfl)) (mvT hZ (wd hw 202 rfl)) (notFace_of_selects (args := #[]) (mvT hZ (wd hw 204 rfl))) (mvT hZ (wd hw 204 rfl)) (mvT hZ (wd hw 203 rfl)) (by decide) (backOf (W := 0) (rm_eq_s l Z a0 hw [] b434 T468.heap n0 Z469 ) hZ (wd hw 205 rfl) (wd hw 56 rfl) (by decide) (by decide)) q494a q494c (g := (mkF m 182 #[vi p1, vi p2, vi p3, vi bb340, vr b341, vr b343, .val .null, vr b347, vr b349, vr b432, vr b434, vr b450, vi se471, vi 0, vi 0, vi 0, .unset, .unset, .unset] [(.ref b434), (.ref b434)])) rfl (by rw [hml]; rfl) (Steps.refl _) (argsL := [(.ref b434)]) (rest := []) (lenOf pd_30 rfl) rfl (by show 2 * 0 + _ ≤ _; exact Nat.le_of_eq rfl) (dk at_182) (fun _ _ => ⟨rfl, hh492, Nat.le_of_ble_eq_true rfl, Nat.le_of_ble_eq_true rfl⟩)
                dsimp only [Pt.U, Pt.locs, Pt.cells, Pt.slots] at X494 l494 y494 z494 st494 hQ494
                subst l494 y494 z494
                obtain ⟨rfl, Nq494, hh494⟩ := hQ494
                have N494 := Fr.app N492 Nq494
                have X494 : Stand p l e _ _ m _ below meth c T494 _ 26 128 := X494
                refine gy (St T494 m 185 #[vi p1, vi p2, vi p3, vi bb340, vr b341, vr b343, .val .null, vr b347, vr b349, vr b432, vr b434, vr b450, vi se471, vi 0, vi 0, vi 0, .unset, .unset, .unset] [(.int 1)]) (fun _ k => st494.trans k) ?_
                refine gy (St T494 m 190 #[vi p1, vi p2, vi p3, vi bb340, vr b341, vr b343, .val .null, vr b347, vr b349, vr b432, vr b434, vr b450, vi se471, vi 0, vi 0, vi 0, vi 1, .unset, .unset] [.null, (.ref b434)]) (fun _ k => XS.istore X494.here hx rfl (dk at_185) rfl (l' := #[vi p1, vi p2, vi p3, vi bb340, vr b341, vr b343, .val .null, vr b347, vr b349, vr b432, vr b434, vr b450, vi se471, vi 0, vi 0, vi 0, vi 1, .unset, .unset]) rfl (XS.aload X494.here hx rfl (dk at_187) rfl rfl (XS.aconstNull X494.here hx rfl (dk at_189) k))) ?_
                obtain ⟨cq495, kq495, q495a, q495b, q495c⟩ := isOf hZ hh494 ((p448_0.ext E450).keep K468)
                obtain ⟨_, _, ⟨T495, L495, k495, n495⟩, -, X495, ⟨Lc495, hQ495, l495, y495, z495⟩, st495⟩ := X494.virtualBack hx (y := Y2) (z := Y2) hown (mvT hZ (wd hw 201 rfl)) (mvT hZ (wd hw 202 rfl)) (notFace_of_selects (args := #[]) (mvT hZ (wd hw 204 rfl))) (mvT hZ (wd hw 204 rfl)) (mvT hZ (wd hw 203 rfl)) (by decide) (backOf (W := 0) (rm_eq_n l Z a0 hw [] b434 T468.heap n0 Z469 ) hZ (wd hw 205 rfl) (wd hw 56 rfl) (by decide) (by decide)) q495a q495c (g := (mkF m 190 #[vi p1, vi p2, vi p3, vi bb340, vr b341, vr b343, .val .null, vr b347, vr b349, vr b432, vr b434, vr b450, vi se471, vi 0, vi 0, vi 0, vi 1, .unset, .unset] [.null, (.ref b434)])) rfl (by rw [hml]; rfl) (Steps.refl _) (argsL := [.null]) (rest := []) (lenOf pd_30 rfl) rfl (by show 2 * 0 + _ ≤ _; exact Nat.le_of_eq rfl) (dk at_190) (fun _ _ => ⟨rfl, hh494, Nat.le_of_ble_eq_true rfl, Nat.le_of_ble_eq_true rfl⟩)
                dsimp only [Pt.U, Pt.locs, Pt.cells, Pt.slots] at X495 l495 y495 z495 st495 hQ495
                subst l495 y495 z495
                obtain ⟨rfl, Nq495, hh495⟩ := hQ495
                have N495 := Fr.app N494 Nq495
                have X495 : Stand p l e _ _ m _ below meth c T495 _ 26 128 := X495
                refine gy (St T495 m 193 #[vi p1, vi p2, vi p3, vi bb340, vr b341, vr b343, .val .null, vr b347, vr b349, vr b432, vr b434, vr b450, vi se471, vi 0, vi 0, vi 0, vi 1, .unset, .unset] [(.int 0)]) (fun _ k => st495.trans k) ?_
                refine gy (St T495 m 199 #[vi p1, vi p2, vi p3, vi bb340, vr b341, vr b343, .val .null, vr b347, vr b349, vr b432, vr b434, vr b450, vi se471, vi 0, vi 0, vi 0, vi 1, vi 0, .unset] [(.ref b341), (.ref b434)]) (fun _ k => XS.istore X495.here hx rfl (dk at_193) rfl (l' := #[vi p1, vi p2, vi p3, vi bb340, vr b341, vr b343, .val .null, vr b347, vr b349, vr b432, vr b434, vr b450, vi se471, vi 0, vi 0, vi 0, vi 1, vi 0, .unset]) rfl (XS.aload X495.here hx rfl (dk at_195) rfl rfl (XS.aload X495.here hx rfl (dk at_197) rfl rfl k))) ?_
                have f496 := (((f440.keep K448).ext E450).keep K468)
                obtain ⟨cq497, kq497, q497a, q497b, q497c⟩ := isOf hZ hh495 ((p448_0.ext E450).keep K468)
                obtain ⟨_, _, ⟨T497, L497, k497, n497⟩, -, X497, ⟨Lc497, hQ497, l497, y497, z497⟩, st497⟩ := X495.virtualBack hx (y := Y2) (z := Y2) hown (mvT hZ (wd hw 201 rfl)) (mvT hZ (wd hw 202 rfl)) (notFace_of_selects (args := #[]) (mvT hZ (wd hw 204 rfl))) (mvT hZ (wd hw 204 rfl)) (mvT hZ (wd hw 203 rfl)) (by decide) (backOf (W := 0) (rm_eq_o l Z a0 hw [] b434 b341 T468.heap n0 Z469 ((p448_0.ext E450).keep K468) f496) hZ (wd hw 205 rfl) (wd hw 56 rfl) (by decide) (by decide)) q497a q497c (g := (mkF m 199 #[vi p1, vi p2, vi p3, vi bb340, vr b341, vr b343, .val .null, vr b347, vr b349, vr b432, vr b434, vr b450, vi se471, vi 0, vi 0, vi 0, vi 1, vi 0, .unset] [(.ref b341), (.ref b434)])) rfl (by rw [hml]; rfl) (Steps.refl _) (argsL := [(.ref b341)]) (rest := []) (lenOf pd_30 rfl) rfl (by show 2 * 0 + _ ≤ _; exact Nat.le_of_eq rfl) (dk at_199) (fun _ _ => ⟨rfl, hh495, Nat.le_of_ble_eq_true rfl, Nat.le_of_ble_eq_true rfl⟩)
                dsimp only [Pt.U, Pt.locs, Pt.cells, Pt.slots] at X497 l497 y497 z497 st497 hQ497
                subst l497 y497 z497
                obtain ⟨rfl, Nq497, hh497⟩ := hQ497
                have N497 := Fr.app N495 Nq497
                have X497 : Stand p l e _ _ m _ below meth c T497 _ 26 128 := X497
                refine gy (St T497 m 202 #[vi p1, vi p2, vi p3, vi bb340, vr b341, vr b343, .val .null, vr b347, vr b349, vr b432, vr b434, vr b450, vi se471, vi 0, vi 0, vi 0, vi 1, vi 0, .unset] [(.int 0)]) (fun _ k => st497.trans k) ?_
                refine gy (St T497 m 220 #[vi p1, vi p2, vi p3, vi bb340, vr b341, vr b343, .val .null, vr b347, vr b349, vr b432, vr b434, vr b450, vi se471, vi 0, vi 0, vi 0, vi 1, vi 0, vi 0] [(.int 1)]) (fun _ k => XS.istore X497.here hx rfl (dk at_202) rfl (l' := #[vi p1, vi p2, vi p3, vi bb340, vr b341, vr b343, .val .null, vr b347, vr b349, vr b432, vr b434, vr b450, vi se471, vi 0, vi 0, vi 0, vi 1, vi 0, vi 0]) rfl (XS.iload X497.here hx rfl (dk at_204) rfl (XS.iload X497.here hx rfl (dk at_206) rfl (XS.icmpNo X497.here hx rfl (dk at_208) rfl (teq (by decide : (0 : Int32) = (0 : Int32))).2 (XS.iload X497.here hx rfl (dk at_211) rfl (XS.iload X497.here hx rfl (dk at_213) rfl (XS.icmpNo X497.here hx rfl (dk at_215) rfl (teq (by decide : (0 : Int32) = (0 : Int32))).2 (XS.iload X497.here hx rfl (dk at_218) rfl k)))))))) ?_
                refine gy (St T497 m 238 #[vi p1, vi p2, vi p3, vi bb340, vr b341, vr b343, .val .null, vr b347, vr b349, vr b432, vr b434, vr b450, vi se471, vi 0, vi 0, vi 0, vi 1, vi 0, vi 0] [(.int 1)]) (fun _ k => XS.ifNo X497.here hx rfl (dk at_220) rfl ((if0 _ _).trans (feq (by decide : ¬ ((1 : Int32) = (0 : Int32)))).1) (XS.iload X497.here hx rfl (dk at_223) rfl (XS.ifNo X497.here hx rfl (dk at_225) rfl ((if0 _ _).trans (teq (by decide : (0 : Int32) = (0 : Int32))).2) (XS.iload X497.here hx rfl (dk at_228) rfl (XS.ifNo X497.here hx rfl (dk at_230) rfl ((if0 _ _).trans (teq (by decide : (0 : Int32) = (0 : Int32))).2) (XS.iconst X497.here hx rfl (dk at_233) (XS.goto X497.here hx rfl (pc0 := 234) (pc' := 238) rfl (dk at_234) (by decide) (by decide) k))))))) ?_
                have hkE498 : _ ≤ T497.heap.size := (by rw [hh497]; exact (Nat.le_trans (Nat.le_trans (Nat.le_trans (Nat.le_trans hk E434.1) K448.1) E450.1) K468.1))
                have CE498 : CHr Z own_EL s.vm s.heap T432.vm T497.heap := (by rw [hh497]; exact C469)
                refine Go.retS X497 hx hlk hS hkE498 hZ hEL CE498 (t := .boolean) hret rfl (Or.inl ⟨rfl, by simp, _, rfl⟩) (dk at_238) (by decide) (by decide) ?_
                exact ⟨rfl, N497⟩
        refine gy (St T468 m 130 #[vi p1, vi p2, vi p3, vi bb340, vr b341, vr b343, .val .null, vr b347, vr b349, vr b432, vr b434, vr b450, vi 0, .unset, .unset, .unset, .unset, .unset, .unset] [(.ref b341)]) (fun _ k => XS.aload X468.here hx rfl (dk at_88) rfl rfl (XS.ifnonnullNo X468.here hx rfl (dk at_90) rfl (XS.aload X468.here hx rfl (dk at_93) rfl rfl (XS.ifnonnullYes X468.here hx rfl (pc0 := 95) (pc' := 102) rfl (dk at_95) rfl (by decide) (by decide) (XS.iconst X468.here hx rfl (dk at_102) (XS.goto X468.here hx rfl (pc0 := 103) (pc' := 126) rfl (dk at_103) (by decide) (by decide) (XS.istore X468.here hx rfl (dk at_126) rfl (l' := #[vi p1, vi p2, vi p3, vi bb340, vr b341, vr b343, .val .null, vr b347, vr b349, vr b432, vr b434, vr b450, vi 0, .unset, .unset, .unset, .unset, .unset, .unset]) rfl (XS.aload X468.here hx rfl (dk at_128) rfl rfl k)))))))) ?_
        refine gy (St T468 m 132 #[vi p1, vi p2, vi p3, vi bb340, vr b341, vr b343, .val .null, vr b347, vr b349, vr b432, vr b434, vr b450, vi 0, .unset, .unset, .unset, .unset, .unset, .unset] [(.ref b347), (.ref b341)]) (fun _ k => XS.aload X468.here hx rfl (dk at_130) rfl rfl k) ?_
        have f500 := (((f440.keep K448).ext E450).keep K468)
        have f501 := (((f441.keep K448 (ninS (Nat.ne_of_lt (Nat.lt_of_lt_of_le ((((p341_0.keep K343).keep K347).keep K349).keep K432).lt sz_b434)) nin0)).ext E450).keep K468 (ninS (Nat.ne_of_lt (Nat.lt_of_lt_of_le (f440.keep K448).lt sz_b450)) nin0))
        have f502 := (((f442.keep K448 (ninS (Nat.ne_of_lt (Nat.lt_of_lt_of_le ((((p341_0.keep K343).keep K347).keep K349).keep K432).lt sz_b434)) nin0)).ext E450).keep K468 (ninS (Nat.ne_of_lt (Nat.lt_of_lt_of_le (f440.keep K448).lt sz_b450)) nin0))
        have f503 := (((f443.keep K448 (ninS (Nat.ne_of_lt (Nat.lt_of_lt_of_le ((((p341_3.keep K343 nin0).keep K347 nin0).keep K349 nin0).keep K432 nin0).lt sz_b434)) nin0)).ext E450).keep K468 (ninS (Nat.ne_of_lt (Nat.lt_of_lt_of_le (f443.keep K448 (ninS (Nat.ne_of_lt (Nat.lt_of_lt_of_le ((((p341_3.keep K343 nin0).keep K347 nin0).keep K349 nin0).keep K432 nin0).lt sz_b434)) nin0)).lt sz_b450)) nin0))
        have f504 := (f457.keep K468 (ninS (Nat.ne_of_lt (Nat.lt_of_lt_of_le ((((p347_0.keep K349).keep K432).ext E434).keep K448).lt sz_b450)) nin0))
        have f505 := (f458.keep K468 (ninS (Nat.ne_of_lt (Nat.lt_of_lt_of_le ((((p347_0.keep K349).keep K432).ext E434).keep K448).lt sz_b450)) nin0))
        have f506 := (f459.keep K468 (ninS (Nat.ne_of_lt (Nat.lt_of_lt_of_le ((((p347_3.keep K349 nin0).keep K432 nin0).ext E434).keep K448 (ninS (Nat.ne_of_lt (Nat.lt_of_lt_of_le ((p347_3.keep K349 nin0).keep K432 nin0).lt sz_b434)) nin0)).lt sz_b450)) nin0))
        obtain ⟨cq499, kq499, q499a, q499b, q499c⟩ := isOf hZ e470 f500
        obtain ⟨_, _, ⟨T499, L499, k499, n499⟩, -, X499, ⟨Lc499, hQ499, l499, y499, z499⟩, st499⟩ := X468.virtualBack hx (y := Y23) (z := Y23) hown (mvT hZ (wd hw 193 rfl)) (mvT hZ (wd hw 194 rfl)) (notFace_of_selects (args := #[]) (mvT hZ (wd hw 196 rfl))) (mvT hZ (wd hw 196 rfl)) (mvT hZ (wd hw 195 rfl)) (by decide) (StrChars.Road.eqW (W := 0) hZ (own_heq hw) (kI := 4) (wd hw 17 rfl) f500 f501 f502 f503 (own_cod (own_nm_ok _)) (own_up (own_nm_ok _)) (own_nm_ok _).2 (f456.keep K468) f504 f505 f506 (own_cod (own_nm_ok _)) (own_up (own_nm_ok _)) (own_nm_ok _).2 (pr1.ext O469.2) hcs (by decide) (by decide)) q499a q499c (g := (mkF m 132 #[vi p1, vi p2, vi p3, vi bb340, vr b341, vr b343, .val .null, vr b347, vr b349, vr b432, vr b434, vr b450, vi 0, .unset, .unset, .unset, .unset, .unset, .unset] [(.ref b347), (.ref b341)])) rfl (by rw [hml]; rfl) (Steps.refl _) (argsL := [(.ref b347)]) (rest := []) (lenOf pd_30 rfl) rfl (by show 2 * 0 + _ ≤ _; exact Nat.le_of_eq rfl) (dk at_132) (fun _ _ => ⟨rfl, e470, Nat.le_of_ble_eq_true rfl, Nat.le_of_ble_eq_true rfl⟩)
        dsimp only [Pt.U, Pt.locs, Pt.cells, Pt.slots] at X499 l499 y499 z499 st499 hQ499
        subst l499 y499 z499
        obtain ⟨hv499, hL499, hh499⟩ := hQ499
        subst hL499
        have N499 := Fr.app N468 (Fr.nil n0)
        rcases hv499 with ⟨rfl, e507⟩ | ⟨rfl, e507⟩
        · skip
          refine gy (St T499 m 135 #[vi p1, vi p2, vi p3, vi bb340, vr b341, vr b343, .val .null, vr b347, vr b349, vr b432, vr b434, vr b450, vi 0, .unset, .unset, .unset, .unset, .unset, .unset] [(.int 1)]) (fun _ k => st499.trans k) ?_
          refine gy (St T499 m 142 #[vi p1, vi p2, vi p3, vi bb340, vr b341, vr b343, .val .null, vr b347, vr b349, vr b432, vr b434, vr b450, vi 0, .unset, .unset, .unset, .unset, .unset, .unset] [(.ref b349), (.ref b343)]) (fun _ k => XS.ifNo X499.here hx rfl (dk at_135) rfl ((if0 _ _).trans (feq (by decide : ¬ ((1 : Int32) = (0 : Int32)))).1) (XS.aload X499.here hx rfl (dk at_138) rfl rfl (XS.aload X499.here hx rfl (dk at_140) rfl rfl k))) ?_
          have f509 := (((f444.keep K448).ext E450).keep K468)
          have f510 := (((f445.keep K448 (ninS (Nat.ne_of_lt (Nat.lt_of_lt_of_le (((p343_0.keep K347).keep K349).keep K432).lt sz_b434)) nin0)).ext E450).keep K468 (ninS (Nat.ne_of_lt (Nat.lt_of_lt_of_le (f444.keep K448).lt sz_b450)) nin0))
          have f511 := (((f446.keep K448 (ninS (Nat.ne_of_lt (Nat.lt_of_lt_of_le (((p343_0.keep K347).keep K349).keep K432).lt sz_b434)) nin0)).ext E450).keep K468 (ninS (Nat.ne_of_lt (Nat.lt_of_lt_of_le (f444.keep K448).lt sz_b450)) nin0))
          have f512 := (((f447.keep K448 (ninS (Nat.ne_of_lt (Nat.lt_of_lt_of_le (((p343_3.keep K347 nin0).keep K349 nin0).keep K432 nin0).lt sz_b434)) nin0)).ext E450).keep K468 (ninS (Nat.ne_of_lt (Nat.lt_of_lt_of_le (f447.keep K448 (ninS (Nat.ne_of_lt (Nat.lt_of_lt_of_le (((p343_3.keep K347 nin0).keep K349 nin0).keep K432 nin0).lt sz_b434)) nin0)).lt sz_b450)) nin0))
          have f513 := (f461.keep K468 (ninS (Nat.ne_of_lt (Nat.lt_of_lt_of_le (((p349_0.keep K432).ext E434).keep K448).lt sz_b450)) nin0))
          have f514 := (f462.keep K468 (ninS (Nat.ne_of_lt (Nat.lt_of_lt_of_le (((p349_0.keep K432).ext E434).keep K448).lt sz_b450)) nin0))
          have f515 := (f463.keep K468 (ninS (Nat.ne_of_lt (Nat.lt_of_lt_of_le (((p349_3.keep K432 nin0).ext E434).keep K448 (ninS (Nat.ne_of_lt (Nat.lt_of_lt_of_le (p349_3.keep K432 nin0).lt sz_b434)) nin0)).lt sz_b450)) nin0))
          obtain ⟨cq508, kq508, q508a, q508b, q508c⟩ := isOf hZ hh499 f509
          obtain ⟨_, _, ⟨T508, L508, k508, n508⟩, -, X508, ⟨Lc508, hQ508, l508, y508, z508⟩, st508⟩ := X499.virtualBack hx (y := Y23) (z := Y23) hown (mvT hZ (wd hw 193 rfl)) (mvT hZ (wd hw 194 rfl)) (notFace_of_selects (args := #[]) (mvT hZ (wd hw 196 rfl))) (mvT hZ (wd hw 196 rfl)) (mvT hZ (wd hw 195 rfl)) (by decide) (StrChars.Road.eqW (W := 0) hZ (own_heq hw) (kI := 4) (wd hw 17 rfl) f509 f510 f511 f512 (own_cod (own_nm_ok _)) (own_up (own_nm_ok _)) (own_nm_ok _).2 (f460.keep K468) f513 f514 f515 (own_cod (own_nm_ok _)) (own_up (own_nm_ok _)) (own_nm_ok _).2 (pr1.ext O469.2) hcs (by decide) (by decide)) q508a q508c (g := (mkF m 142 #[vi p1, vi p2, vi p3, vi bb340, vr b341, vr b343, .val .null, vr b347, vr b349, vr b432, vr b434, vr b450, vi 0, .unset, .unset, .unset, .unset, .unset, .unset] [(.ref b349), (.ref b343)])) rfl (by rw [hml]; rfl) (Steps.refl _) (argsL := [(.ref b349)]) (rest := []) (lenOf pd_30 rfl) rfl (by show 2 * 0 + _ ≤ _; exact Nat.le_of_eq rfl) (dk at_142) (fun _ _ => ⟨rfl, hh499, Nat.le_of_ble_eq_true rfl, Nat.le_of_ble_eq_true rfl⟩)
          dsimp only [Pt.U, Pt.locs, Pt.cells, Pt.slots] at X508 l508 y508 z508 st508 hQ508
          subst l508 y508 z508
          obtain ⟨hv508, hL508, hh508⟩ := hQ508
          subst hL508
          have N508 := Fr.app N499 (Fr.nil n0)
          rcases hv508 with ⟨rfl, e516⟩ | ⟨rfl, e516⟩
          · skip
            refine gy (St T508 m 145 #[vi p1, vi p2, vi p3, vi bb340, vr b341, vr b343, .val .null, vr b347, vr b349, vr b432, vr b434, vr b450, vi 0, .unset, .unset, .unset, .unset, .unset, .unset] [(.int 1)]) (fun _ k => st508.trans k) ?_
            refine gy (St T508 m 158 #[vi p1, vi p2, vi p3, vi bb340, vr b341, vr b343, .val .null, vr b347, vr b349, vr b432, vr b434, vr b450, vi 0, .unset, .unset, .unset, .unset, .unset, .unset] [(.int 0)]) (fun _ k => XS.ifNo X508.here hx rfl (dk at_145) rfl ((if0 _ _).trans (feq (by decide : ¬ ((1 : Int32) = (0 : Int32)))).1) (XS.iload X508.here hx rfl (dk at_148) rfl (XS.ifYes X508.here hx rfl (pc0 := 150) (pc' := 157) rfl (dk at_150) rfl ((if0 _ _).trans (teq (by decide : (0 : Int32) = (0 : Int32))).1) (by decide) (by decide) (XS.iconst X508.here hx rfl (dk at_157) k)))) ?_
            exact J470 T508 _ X508 N508 hh508 (0 : Int32) (0 : Int32) (Or.inr ⟨rfl, fun q => own_NS q⟩)
          · skip
            refine gy (St T508 m 145 #[vi p1, vi p2, vi p3, vi bb340, vr b341, vr b343, .val .null, vr b347, vr b349, vr b432, vr b434, vr b450, vi 0, .unset, .unset, .unset, .unset, .unset, .unset] [(.int 0)]) (fun _ k => st508.trans k) ?_
            refine gy (St T508 m 158 #[vi p1, vi p2, vi p3, vi bb340, vr b341, vr b343, .val .null, vr b347, vr b349, vr b432, vr b434, vr b450, vi 0, .unset, .unset, .unset, .unset, .unset, .unset] [(.int 0)]) (fun _ k => XS.ifYes X508.here hx rfl (pc0 := 145) (pc' := 157) rfl (dk at_145) rfl ((if0 _ _).trans (teq (by decide : (0 : Int32) = (0 : Int32))).1) (by decide) (by decide) (XS.iconst X508.here hx rfl (dk at_157) k)) ?_
            exact J470 T508 _ X508 N508 hh508 (0 : Int32) (0 : Int32) (Or.inr ⟨rfl, fun q => own_NS q⟩)
        · skip
          refine gy (St T499 m 135 #[vi p1, vi p2, vi p3, vi bb340, vr b341, vr b343, .val .null, vr b347, vr b349, vr b432, vr b434, vr b450, vi 0, .unset, .unset, .unset, .unset, .unset, .unset] [(.int 0)]) (fun _ k => st499.trans k) ?_
          refine gy (St T499 m 158 #[vi p1, vi p2, vi p3, vi bb340, vr b341, vr b343, .val .null, vr b347, vr b349, vr b432, vr b434, vr b450, vi 0, .unset, .unset, .unset, .unset, .unset, .unset] [(.int 0)]) (fun _ k => XS.ifYes X499.here hx rfl (pc0 := 135) (pc' := 157) rfl (dk at_135) rfl ((if0 _ _).trans (teq (by decide : (0 : Int32) = (0 : Int32))).1) (by decide) (by decide) (XS.iconst X499.here hx rfl (dk at_157) k)) ?_
          exact J470 T499 _ X499 N499 hh499 (0 : Int32) (0 : Int32) (Or.inr ⟨rfl, fun q => own_NS q⟩)
    · skip
      have hkT517 : _ ≤ T343.heap.size := (Nat.le_trans (Nat.le_trans hk K341.1) K343.1)
      obtain ⟨_, _, ⟨T517, L517, k517, n517⟩, -, X517, hSn517, hgr517, ⟨Lc517, hQ517, l517, y517, z517, CS517⟩, st517⟩ := callSS X343 hx (y := Y4) hown (mvT hZ (wd hw 33 rfl)) (mvT hZ (wd hw 34 rfl)) (mvT hZ (wd hw 2 rfl)) (mvT hZ (wd hw 35 rfl)) (by decide) (backOfSH (W := 0) (rm_endS l Z a0 hw [] ((p1.toUInt32 >>> ((10 : Int32) &&& 31).toUInt32).toInt32) cs T343.heap n0 Z344 O344 pr1 hcs c345) hZ (wd hw 35 rfl) (wd hw 2 rfl) (by decide) (by decide) hEL C344.1) (g := (mkF m 30 #[vi p1, vi p2, vi p3, vi bb340, vr b341, vr b343, .unset, .unset, .unset, .unset, .unset, .unset, .unset, .unset, .unset, .unset, .unset, .unset, .unset] [(.int ((p1.toUInt32 >>> ((10 : Int32) &&& 31).toUInt32).toInt32))])) rfl (by rw [hml]; rfl) (argsL := [(.int ((p1.toUInt32 >>> ((10 : Int32) &&& 31).toUInt32).toInt32))]) (rest := []) (lenOf pd_31 rfl) rfl (by show 2 * 0 + _ ≤ _; exact Nat.le_of_eq rfl) (dk at_30) (fun _ _ => ⟨rfl, rfl, Nat.le_of_ble_eq_true rfl, Nat.le_of_ble_eq_true rfl⟩)
      dsimp only [Pt.U, Pt.locs, Pt.cells, Pt.slots] at X517 l517 y517 z517 st517 hQ517 hSn517 hgr517 CS517
      subst l517 y517 z517
      obtain ⟨X517, hS, hZ, hown⟩ := rebS hS hkT517 X517 hSn517 hgr517 hZ hown
      have hk : T517.heap.size ≤ T517.heap.size := Nat.le_refl _
      obtain ⟨b517, t517, k517, rfl, Nq517, K517, p517_0, p517_1, p517_2, p517_3, p517_4⟩ := hQ517
      have N517 := Fr.app N343 Nq517
      have X517 : Stand p l e _ _ m _ below meth c T517 _ 10 24 := X517
      have C518 := C344.trans CS517
      have O518 := O344.keep K517 all0
      have Z518 : n0 ≤ T517.heap.size := Nat.le_trans Z344 K517.1
      have sz_b517 : T343.heap.size ≤ b517 := p517_4
      refine gy (St T517 m 33 #[vi p1, vi p2, vi p3, vi bb340, vr b341, vr b343, .unset, .unset, .unset, .unset, .unset, .unset, .unset, .unset, .unset, .unset, .unset, .unset, .unset] [(.ref b517)]) (fun _ k => st517.trans k) ?_
      refine gy (St T517 m 36 #[vi p1, vi p2, vi p3, vi bb340, vr b341, vr b343, vr b517, .unset, .unset, .unset, .unset, .unset, .unset, .unset, .unset, .unset, .unset, .unset, .unset] [(.int bb340)]) (fun _ k => XS.astore X517.here hx rfl (dk at_33) rfl rfl (l' := #[vi p1, vi p2, vi p3, vi bb340, vr b341, vr b343, vr b517, .unset, .unset, .unset, .unset, .unset, .unset, .unset, .unset, .unset, .unset, .unset, .unset]) rfl (XS.iloadN X517.here hx rfl (dk at_35) rfl k)) ?_
      obtain ⟨_, _, ⟨T519, L519, k519, n519⟩, -, X519, ⟨Lc519, hQ519, l519, y519, z519⟩, st519⟩ := Jvm.LawKit.callS X517 hx (y := Y5) hown (mvT hZ (wd hw 0 rfl)) (mvT hZ (wd hw 1 rfl)) (mvT hZ (wd hw 2 rfl)) (mvT hZ (wd hw 3 rfl)) (by decide) (backOf (W := 0) (rm_name l Z a0 hw [] bb340 cs T517.heap n0 Z518 O518 pr1 hcs) hZ (wd hw 3 rfl) (wd hw 2 rfl) (by decide) (by decide)) (g := (mkF m 36 #[vi p1, vi p2, vi p3, vi bb340, vr b341, vr b343, vr b517, .unset, .unset, .unset, .unset, .unset, .unset, .unset, .unset, .unset, .unset, .unset, .unset] [(.int bb340)])) rfl (by rw [hml]; rfl) (argsL := [(.int bb340)]) (rest := []) (lenOf pd_31 rfl) rfl (by show 2 * 0 + _ ≤ _; exact Nat.le_of_eq rfl) (dk at_36) (fun _ _ => ⟨rfl, rfl, Nat.le_of_ble_eq_true rfl, Nat.le_of_ble_eq_true rfl⟩)
      dsimp only [Pt.U, Pt.locs, Pt.cells, Pt.slots] at X519 l519 y519 z519 st519 hQ519
      subst l519 y519 z519
      obtain ⟨b519, t519, k519, rfl, Nq519, K519, p519_0, p519_1, p519_2, p519_3, p519_4⟩ := hQ519
      have N519 := Fr.app N517 Nq519
      have X519 : Stand p l e _ _ m _ below meth c T519 _ 13 32 := X519
      have C520 := C518.trans (CHr.keep K519 sf0 C518.1)
      have O520 := O518.keep K519 all0
      have Z520 : n0 ≤ T519.heap.size := Nat.le_trans Z518 K519.1
      have sz_b519 : T517.heap.size ≤ b519 := p519_4
      refine gy (St T519 m 39 #[vi p1, vi p2, vi p3, vi bb340, vr b341, vr b343, vr b517, .unset, .unset, .unset, .unset, .unset, .unset, .unset, .unset, .unset, .unset, .unset, .unset] [(.ref b519)]) (fun _ k => st519 _ k) ?_
      refine gy (St T519 m 44 #[vi p1, vi p2, vi p3, vi bb340, vr b341, vr b343, vr b517, vr b519, .unset, .unset, .unset, .unset, .unset, .unset, .unset, .unset, .unset, .unset, .unset] [(.int ((bb340.toUInt32 >>> ((5 : Int32) &&& 31).toUInt32).toInt32))]) (fun _ k => XS.astore X519.here hx rfl (dk at_39) rfl rfl (l' := #[vi p1, vi p2, vi p3, vi bb340, vr b341, vr b343, vr b517, vr b519, .unset, .unset, .unset, .unset, .unset, .unset, .unset, .unset, .unset, .unset, .unset]) rfl (XS.iloadN X519.here hx rfl (dk at_41) rfl (XS.iconst X519.here hx rfl (dk at_42) (XS.iushr X519.here hx rfl (dk at_43) rfl k)))) ?_
      obtain ⟨_, _, ⟨T521, L521, k521, n521⟩, -, X521, ⟨Lc521, hQ521, l521, y521, z521⟩, st521⟩ := Jvm.LawKit.callS X519 hx (y := Y5) hown (mvT hZ (wd hw 0 rfl)) (mvT hZ (wd hw 1 rfl)) (mvT hZ (wd hw 2 rfl)) (mvT hZ (wd hw 3 rfl)) (by decide) (backOf (W := 0) (rm_name l Z a0 hw [] ((bb340.toUInt32 >>> ((5 : Int32) &&& 31).toUInt32).toInt32) cs T519.heap n0 Z520 O520 pr1 hcs) hZ (wd hw 3 rfl) (wd hw 2 rfl) (by decide) (by decide)) (g := (mkF m 44 #[vi p1, vi p2, vi p3, vi bb340, vr b341, vr b343, vr b517, vr b519, .unset, .unset, .unset, .unset, .unset, .unset, .unset, .unset, .unset, .unset, .unset] [(.int ((bb340.toUInt32 >>> ((5 : Int32) &&& 31).toUInt32).toInt32))])) rfl (by rw [hml]; rfl) (argsL := [(.int ((bb340.toUInt32 >>> ((5 : Int32) &&& 31).toUInt32).toInt32))]) (rest := []) (lenOf pd_31 rfl) rfl (by show 2 * 0 + _ ≤ _; exact Nat.le_of_eq rfl) (dk at_44) (fun _ _ => ⟨rfl, rfl, Nat.le_of_ble_eq_true rfl, Nat.le_of_ble_eq_true rfl⟩)
      dsimp only [Pt.U, Pt.locs, Pt.cells, Pt.slots] at X521 l521 y521 z521 st521 hQ521
      subst l521 y521 z521
      obtain ⟨b521, t521, k521, rfl, Nq521, K521, p521_0, p521_1, p521_2, p521_3, p521_4⟩ := hQ521
      have N521 := Fr.app N519 Nq521
      have X521 : Stand p l e _ _ m _ below meth c T521 _ 16 40 := X521
      have C522 := C520.trans (CHr.keep K521 sf0 C520.1)
      have O522 := O520.keep K521 all0
      have Z522 : n0 ≤ T521.heap.size := Nat.le_trans Z520 K521.1
      have sz_b521 : T519.heap.size ≤ b521 := p521_4
      refine gy (St T521 m 47 #[vi p1, vi p2, vi p3, vi bb340, vr b341, vr b343, vr b517, vr b519, .unset, .unset, .unset, .unset, .unset, .unset, .unset, .unset, .unset, .unset, .unset] [(.ref b521)]) (fun _ k => st521 _ k) ?_
      refine gy (St T521 m 53 #[vi p1, vi p2, vi p3, vi bb340, vr b341, vr b343, vr b517, vr b519, vr b521, .unset, .unset, .unset, .unset, .unset, .unset, .unset, .unset, .unset, .unset] [(.int ((bb340.toUInt32 >>> ((10 : Int32) &&& 31).toUInt32).toInt32))]) (fun _ k => XS.astore X521.here hx rfl (dk at_47) rfl rfl (l' := #[vi p1, vi p2, vi p3, vi bb340, vr b341, vr b343, vr b517, vr b519, vr b521, .unset, .unset, .unset, .unset, .unset, .unset, .unset, .unset, .unset, .unset]) rfl (XS.iloadN X521.here hx rfl (dk at_49) rfl (XS.bipush X521.here hx rfl (dk at_50) (XS.iushr X521.here hx rfl (dk at_52) rfl k)))) ?_
      rcases Classical.em ((((bb340.toUInt32 >>> ((10 : Int32) &&& 31).toUInt32).toInt32) &&& (1 : Int32)) = (0 : Int32)) with c523 | c523
      · skip
        obtain ⟨_, _, ⟨T524, L524, k524, n524⟩, -, X524, ⟨Lc524, hQ524, l524, y524, z524⟩, st524⟩ := Jvm.LawKit.callS X521 hx (y := Y4) hown (mvT hZ (wd hw 33 rfl)) (mvT hZ (wd hw 34 rfl)) (mvT hZ (wd hw 2 rfl)) (mvT hZ (wd hw 35 rfl)) (by decide) (backOf (W := 0) (rm_endN l Z a0 hw [] ((bb340.toUInt32 >>> ((10 : Int32) &&& 31).toUInt32).toInt32) T521.heap n0 Z522 c523) hZ (wd hw 35 rfl) (wd hw 2 rfl) (by decide) (by decide)) (g := (mkF m 53 #[vi p1, vi p2, vi p3, vi bb340, vr b341, vr b343, vr b517, vr b519, vr b521, .unset, .unset, .unset, .unset, .unset, .unset, .unset, .unset, .unset, .unset] [(.int ((bb340.toUInt32 >>> ((10 : Int32) &&& 31).toUInt32).toInt32))])) rfl (by rw [hml]; rfl) (argsL := [(.int ((bb340.toUInt32 >>> ((10 : Int32) &&& 31).toUInt32).toInt32))]) (rest := []) (lenOf pd_31 rfl) rfl (by show 2 * 0 + _ ≤ _; exact Nat.le_of_eq rfl) (dk at_53) (fun _ _ => ⟨rfl, rfl, Nat.le_of_ble_eq_true rfl, Nat.le_of_ble_eq_true rfl⟩)
        dsimp only [Pt.U, Pt.locs, Pt.cells, Pt.slots] at X524 l524 y524 z524 st524 hQ524
        subst l524 y524 z524
        obtain ⟨rfl, Nq524, hh524⟩ := hQ524
        have N524 := Fr.app N521 Nq524
        have X524 : Stand p l e _ _ m _ below meth c T524 _ 16 40 := X524
        refine gy (St T524 m 56 #[vi p1, vi p2, vi p3, vi bb340, vr b341, vr b343, vr b517, vr b519, vr b521, .unset, .unset, .unset, .unset, .unset, .unset, .unset, .unset, .unset, .unset] [.null]) (fun _ k => st524 _ k) ?_
        refine gy (St T524 m 58 #[vi p1, vi p2, vi p3, vi bb340, vr b341, vr b343, vr b517, vr b519, vr b521, .val .null, .unset, .unset, .unset, .unset, .unset, .unset, .unset, .unset, .unset] []) (fun _ k => XS.astore X524.here hx rfl (dk at_56) rfl rfl (l' := #[vi p1, vi p2, vi p3, vi bb340, vr b341, vr b343, vr b517, vr b519, vr b521, .val .null, .unset, .unset, .unset, .unset, .unset, .unset, .unset, .unset, .unset]) rfl k) ?_
        obtain ⟨T525, h525, X525, e525, E525, A525, D525, -, st525⟩ := newO X524 hx hZ hown (wd hw 54 rfl) (wd hw 55 rfl) (wd hw 56 rfl) hh524 (g := (mkF m 58 #[vi p1, vi p2, vi p3, vi bb340, vr b341, vr b343, vr b517, vr b519, vr b521, .val .null, .unset, .unset, .unset, .unset, .unset, .unset, .unset, .unset, .unset] [])) rfl (dk at_58) (by decide) (by decide)
        obtain ⟨b525, g525⟩ : ∃ z, z = T521.heap.size := ⟨_, rfl⟩
        rw [← g525] at A525 D525 st525
        have sz_b525 : T521.heap.size ≤ b525 := Nat.le_of_eq g525.symm
        have C526 := C522.trans (CHr.ext E525 C522.1)
        have O526 := O522.ext E525
        have Z526 : n0 ≤ h525.size := Nat.le_trans Z522 E525.1
        have F527 : Fld Z h525 b525 "com/example/breakwater/breakwater/engine/Address" "scope" "Ljava/lang/String;" .null := D525 (Or.inr (wd hw 186 rfl)) (ty := (.object "java/lang/String")) (by decide)
        have F528 : Fld Z h525 b525 "com/example/breakwater/breakwater/engine/Address" "service" "Ljava/lang/String;" .null := D525 (Or.inr (wd hw 188 rfl)) (ty := (.object "java/lang/String")) (by decide)
        have F529 : Fld Z h525 b525 "com/example/breakwater/breakwater/engine/Address" "endpoint" "Ljava/lang/String;" .null := D525 (Or.inr (wd hw 190 rfl)) (ty := (.object "java/lang/String")) (by decide)
        have F530 : Fld Z h525 b525 "com/example/breakwater/breakwater/engine/Address" "text" "Ljava/lang/String;" .null := D525 (Or.inr (wd hw 192 rfl)) (ty := (.object "java/lang/String")) (by decide)
        refine gy (St T525 m 61 #[vi p1, vi p2, vi p3, vi bb340, vr b341, vr b343, vr b517, vr b519, vr b521, .val .null, .unset, .unset, .unset, .unset, .unset, .unset, .unset, .unset, .unset] [(.ref b525)]) st525 ?_
        refine gy (St T525 m 68 #[vi p1, vi p2, vi p3, vi bb340, vr b341, vr b343, vr b517, vr b519, vr b521, .val .null, .unset, .unset, .unset, .unset, .unset, .unset, .unset, .unset, .unset] [(.ref b517), (.ref b343), (.ref b341), (.ref b525), (.ref b525)]) (fun _ k => XS.dup X525.here hx rfl (dk at_61) rfl rfl (XS.aload X525.here hx rfl (dk at_62) rfl rfl (XS.aload X525.here hx rfl (dk at_64) rfl rfl (XS.aload X525.here hx rfl (dk at_66) rfl rfl k)))) ?_
        have f531 := (((((p341_0.keep K343).keep K517).keep K519).keep K521).ext E525)
        have f532 := (((((p341_1.keep K343 nin0).keep K517 nin0).keep K519 nin0).keep K521 nin0).ext E525)
        have f533 := (((((p341_2.keep K343 nin0).keep K517 nin0).keep K519 nin0).keep K521 nin0).ext E525)
        have f534 := (((((p341_3.keep K343 nin0).keep K517 nin0).keep K519 nin0).keep K521 nin0).ext E525)
        have f535 := ((((p343_0.keep K517).keep K519).keep K521).ext E525)
        have f536 := ((((p343_1.keep K517 nin0).keep K519 nin0).keep K521 nin0).ext E525)
        have f537 := ((((p343_2.keep K517 nin0).keep K519 nin0).keep K521 nin0).ext E525)
        have f538 := ((((p343_3.keep K517 nin0).keep K519 nin0).keep K521 nin0).ext E525)
        have f539 := (((p517_0.keep K519).keep K521).ext E525)
        have f540 := (((p517_1.keep K519 nin0).keep K521 nin0).ext E525)
        have f541 := (((p517_2.keep K519 nin0).keep K521 nin0).ext E525)
        have f542 := (((p517_3.keep K519 nin0).keep K521 nin0).ext E525)
        obtain ⟨_, _, ⟨T543, L543, k543, n543⟩, -, X543, ⟨Lc543, hQ543, l543, y543, z543⟩, st543⟩ := X525.specialBack hx (y := Y0) rfl hown (mvT hZ (wd hw 57 rfl)) (mvT hZ (wd hw 58 rfl)) (mvT hZ (wd hw 59 rfl)) (by decide) (backOf (W := 1) (rm_ad3s l Z a0 hw [] b525 b341 t341 k341 (own_nm p1) b343 t343 k343 (own_nm ((p1.toUInt32 >>> ((5 : Int32) &&& 31).toUInt32).toInt32)) b517 t517 k517 (own_en ((p1.toUInt32 >>> ((10 : Int32) &&& 31).toUInt32).toInt32)) cs h525 n0 Z526 O526 pr1 hcs A525 F527 F528 F529 F530 (Nat.le_trans Z522 sz_b525) f531 f532 f533 f534 (own_nmL _) f535 f536 f537 f538 (own_nmL _) f539 f540 f541 f542 (own_enL _)) hZ (wd hw 59 rfl) (wd hw 56 rfl) (by decide) (by decide)) (g := (mkF m 68 #[vi p1, vi p2, vi p3, vi bb340, vr b341, vr b343, vr b517, vr b519, vr b521, .val .null, .unset, .unset, .unset, .unset, .unset, .unset, .unset, .unset, .unset] [(.ref b517), (.ref b343), (.ref b341), (.ref b525), (.ref b525)])) rfl (by rw [hml]; rfl) (Steps.refl _) (a := b525) (argsL := [(.ref b341), (.ref b343), (.ref b517)]) (rest := [(.ref b525)]) (lenOf pd_32 rfl) rfl (by show 2 * 0 + _ ≤ _; exact Nat.le_of_eq rfl) (dk at_68) (fun _ _ => ⟨rfl, e525, Nat.le_of_ble_eq_true rfl, Nat.le_of_ble_eq_true rfl⟩)
        dsimp only [Pt.U, Pt.locs, Pt.cells, Pt.slots] at X543 l543 y543 z543 st543 hQ543
        subst l543 y543 z543
        obtain ⟨b543, t543, k543, rfl, Nq543, K543, p543_0, p543_1, p543_2, p543_3, p543_4, p543_5⟩ := hQ543
        have N543 := Fr.app N524 Nq543
        have X543 : Stand p l e _ _ m _ below meth c T543 _ 21 84 := X543
        have C544 := C526.trans (CHr.keep K543 (sfS (Safe.exa hZ.alike A525 (by decide) (by decide)) sf0) C526.1)
        have O544 := O526.keep K543 (allS (Nat.le_trans Z522 sz_b525) all0)
        have Z544 : n0 ≤ T543.heap.size := Nat.le_trans Z526 K543.1
        refine gy (St T543 m 71 #[vi p1, vi p2, vi p3, vi bb340, vr b341, vr b343, vr b517, vr b519, vr b521, .val .null, .unset, .unset, .unset, .unset, .unset, .unset, .unset, .unset, .unset] [(.ref b525)]) (fun _ k => st543.trans k) ?_
        refine gy (St T543 m 73 #[vi p1, vi p2, vi p3, vi bb340, vr b341, vr b343, vr b517, vr b519, vr b521, .val .null, vr b525, .unset, .unset, .unset, .unset, .unset, .unset, .unset, .unset] []) (fun _ k => XS.astore X543.here hx rfl (dk at_71) rfl rfl (l' := #[vi p1, vi p2, vi p3, vi bb340, vr b341, vr b343, vr b517, vr b519, vr b521, .val .null, vr b525, .unset, .unset, .unset, .unset, .unset, .unset, .unset, .unset]) rfl k) ?_
        obtain ⟨T545, h545, X545, e545, E545, A545, D545, -, st545⟩ := newO X543 hx hZ hown (wd hw 54 rfl) (wd hw 55 rfl) (wd hw 56 rfl) rfl (g := (mkF m 73 #[vi p1, vi p2, vi p3, vi bb340, vr b341, vr b343, vr b517, vr b519, vr b521, .val .null, vr b525, .unset, .unset, .unset, .unset, .unset, .unset, .unset, .unset] [])) rfl (dk at_73) (by decide) (by decide)
        obtain ⟨b545, g545⟩ : ∃ z, z = T543.heap.size := ⟨_, rfl⟩
        rw [← g545] at A545 D545 st545
        have sz_b545 : T543.heap.size ≤ b545 := Nat.le_of_eq g545.symm
        have C546 := C544.trans (CHr.ext E545 C544.1)
        have O546 := O544.ext E545
        have Z546 : n0 ≤ h545.size := Nat.le_trans Z544 E545.1
        have F547 : Fld Z h545 b545 "com/example/breakwater/breakwater/engine/Address" "scope" "Ljava/lang/String;" .null := D545 (Or.inr (wd hw 186 rfl)) (ty := (.object "java/lang/String")) (by decide)
        have F548 : Fld Z h545 b545 "com/example/breakwater/breakwater/engine/Address" "service" "Ljava/lang/String;" .null := D545 (Or.inr (wd hw 188 rfl)) (ty := (.object "java/lang/String")) (by decide)
        have F549 : Fld Z h545 b545 "com/example/breakwater/breakwater/engine/Address" "endpoint" "Ljava/lang/String;" .null := D545 (Or.inr (wd hw 190 rfl)) (ty := (.object "java/lang/String")) (by decide)
        have F550 : Fld Z h545 b545 "com/example/breakwater/breakwater/engine/Address" "text" "Ljava/lang/String;" .null := D545 (Or.inr (wd hw 192 rfl)) (ty := (.object "java/lang/String")) (by decide)
        refine gy (St T545 m 76 #[vi p1, vi p2, vi p3, vi bb340, vr b341, vr b343, vr b517, vr b519, vr b521, .val .null, vr b525, .unset, .unset, .unset, .unset, .unset, .unset, .unset, .unset] [(.ref b545)]) st545 ?_
        refine gy (St T545 m 83 #[vi p1, vi p2, vi p3, vi bb340, vr b341, vr b343, vr b517, vr b519, vr b521, .val .null, vr b525, .unset, .unset, .unset, .unset, .unset, .unset, .unset, .unset] [.null, (.ref b521), (.ref b519), (.ref b545), (.ref b545)]) (fun _ k => XS.dup X545.here hx rfl (dk at_76) rfl rfl (XS.aload X545.here hx rfl (dk at_77) rfl rfl (XS.aload X545.here hx rfl (dk at_79) rfl rfl (XS.aload X545.here hx rfl (dk at_81) rfl rfl k)))) ?_
        have f551 := ((((p519_0.keep K521).ext E525).keep K543).ext E545)
        have f552 := ((((p519_1.keep K521 nin0).ext E525).keep K543 (ninS (Nat.ne_of_lt (Nat.lt_of_lt_of_le (p519_0.keep K521).lt sz_b525)) nin0)).ext E545)
        have f553 := ((((p519_2.keep K521 nin0).ext E525).keep K543 (ninS (Nat.ne_of_lt (Nat.lt_of_lt_of_le (p519_0.keep K521).lt sz_b525)) nin0)).ext E545)
        have f554 := ((((p519_3.keep K521 nin0).ext E525).keep K543 (ninS (Nat.ne_of_lt (Nat.lt_of_lt_of_le (p519_3.keep K521 nin0).lt sz_b525)) nin0)).ext E545)
        have f555 := (((p521_0.ext E525).keep K543).ext E545)
        have f556 := (((p521_1.ext E525).keep K543 (ninS (Nat.ne_of_lt (Nat.lt_of_lt_of_le p521_0.lt sz_b525)) nin0)).ext E545)
        have f557 := (((p521_2.ext E525).keep K543 (ninS (Nat.ne_of_lt (Nat.lt_of_lt_of_le p521_0.lt sz_b525)) nin0)).ext E545)
        have f558 := (((p521_3.ext E525).keep K543 (ninS (Nat.ne_of_lt (Nat.lt_of_lt_of_le p521_3.lt sz_b525)) nin0)).ext E545)
        obtain ⟨_, _, ⟨T559, L559, k559, n559⟩, -, X559, ⟨Lc559, hQ559, l559, y559, z559⟩, st559⟩ := X545.specialBack hx (y := Y0) rfl hown (mvT hZ (wd hw 57 rfl)) (mvT hZ (wd hw 58 rfl)) (mvT hZ (wd hw 59 rfl)) (by decide) (backOf (W := 1) (rm_ad3n l Z a0 hw [] b545 b519 t519 k519 (own_nm bb340) b521 t521 k521 (own_nm ((bb340.toUInt32 >>> ((5 : Int32) &&& 31).toUInt32).toInt32)) cs h545 n0 Z546 O546 pr1 hcs A545 F547 F548 F549 F550 (Nat.le_trans Z544 sz_b545) f551 f552 f553 f554 (own_nmL _) f555 f556 f557 f558 (own_nmL _)) hZ (wd hw 59 rfl) (wd hw 56 rfl) (by decide) (by decide)) (g := (mkF m 83 #[vi p1, vi p2, vi p3, vi bb340, vr b341, vr b343, vr b517, vr b519, vr b521, .val .null, vr b525, .unset, .unset, .unset, .unset, .unset, .unset, .unset, .unset] [.null, (.ref b521), (.ref b519), (.ref b545), (.ref b545)])) rfl (by rw [hml]; rfl) (Steps.refl _) (a := b545) (argsL := [(.ref b519), (.ref b521), .null]) (rest := [(.ref b545)]) (lenOf pd_32 rfl) rfl (by show 2 * 0 + _ ≤ _; exact Nat.le_of_eq rfl) (dk at_83) (fun _ _ => ⟨rfl, e545, Nat.le_of_ble_eq_true rfl, Nat.le_of_ble_eq_true rfl⟩)
        dsimp only [Pt.U, Pt.locs, Pt.cells, Pt.slots] at X559 l559 y559 z559 st559 hQ559
        subst l559 y559 z559
        obtain ⟨b559, t559, k559, rfl, Nq559, K559, p559_0, p559_1, p559_2, p559_3, p559_4, p559_5⟩ := hQ559
        have N559 := Fr.app N543 Nq559
        have X559 : Stand p l e _ _ m _ below meth c T559 _ 26 128 := X559
        have C560 := C546.trans (CHr.keep K559 (sfS (Safe.exa hZ.alike A545 (by decide) (by decide)) sf0) C546.1)
        have O560 := O546.keep K559 (allS (Nat.le_trans Z544 sz_b545) all0)
        have Z560 : n0 ≤ T559.heap.size := Nat.le_trans Z546 K559.1
        refine gy (St T559 m 86 #[vi p1, vi p2, vi p3, vi bb340, vr b341, vr b343, vr b517, vr b519, vr b521, .val .null, vr b525, .unset, .unset, .unset, .unset, .unset, .unset, .unset, .unset] [(.ref b545)]) (fun _ k => st559.trans k) ?_
        refine gy (St T559 m 88 #[vi p1, vi p2, vi p3, vi bb340, vr b341, vr b343, vr b517, vr b519, vr b521, .val .null, vr b525, vr b545, .unset, .unset, .unset, .unset, .unset, .unset, .unset] []) (fun _ k => XS.astore X559.here hx rfl (dk at_86) rfl rfl (l' := #[vi p1, vi p2, vi p3, vi bb340, vr b341, vr b343, vr b517, vr b519, vr b521, .val .null, vr b525, vr b545, .unset, .unset, .unset, .unset, .unset, .unset, .unset]) rfl k) ?_
        have e561 : T559.heap = T559.heap := rfl
        have J561 : ∀ (T562 : State) (lc562 : List Loc) (X562 : Stand p l e room_1 (s.setVm T517.vm) m #[(.int p1), (.int p2), (.int p3)] below meth c T562 lc562 26 128) (N562 : Fr n0 lc562) (e562 : T562.heap = T559.heap) (rf562 : Int32) (se562 : Int32) (hJ562 : (rf562 = (1 : Int32) ∧ (own_tS (own_nm p1) (own_nm ((p1.toUInt32 >>> ((5 : Int32) &&& 31).toUInt32).toInt32)) (own_en ((p1.toUInt32 >>> ((10 : Int32) &&& 31).toUInt32).toInt32))) = (own_tN (own_nm bb340) (own_nm ((bb340.toUInt32 >>> ((5 : Int32) &&& 31).toUInt32).toInt32)))) ∨ (rf562 = (0 : Int32) ∧ ¬ (own_tS (own_nm p1) (own_nm ((p1.toUInt32 >>> ((5 : Int32) &&& 31).toUInt32).toInt32)) (own_en ((p1.toUInt32 >>> ((10 : Int32) &&& 31).toUInt32).toInt32))) = (own_tN (own_nm bb340) (own_nm ((bb340.toUInt32 >>> ((5 : Int32) &&& 31).toUInt32).toInt32))))), Go p e below (PostS Z own_EL s room_1.cells room_1.slots (Q_rm0 Z p1 p2 p3 cs h0 n0)) (T562.setTop (mkF m 158 #[vi p1, vi p2, vi p3, vi bb340, vr b341, vr b343, vr b517, vr b519, vr b521, .val .null, vr b525, vr b545, vi se562, .unset, .unset, .unset, .unset, .unset, .unset] [(.int rf562)])) := by
          intro T562 lc562 X562 N562 e562 rf562 se562 hJ562
          rcases hJ562 with ⟨rfl, e563⟩ | ⟨rfl, e563⟩
          · skip
            refine gy (St T562 m 164 #[vi p1, vi p2, vi p3, vi bb340, vr b341, vr b343, vr b517, vr b519, vr b521, .val .null, vr b525, vr b545, vi se562, vi 1, .unset, .unset, .unset, .unset, .unset] [(.ref b545), (.ref b525)]) (fun _ k => XS.istore X562.here hx rfl (dk at_158) rfl (l' := #[vi p1, vi p2, vi p3, vi bb340, vr b341, vr b343, vr b517, vr b519, vr b521, .val .null, vr b525, vr b545, vi se562, vi 1, .unset, .unset, .unset, .unset, .unset]) rfl (XS.aload X562.here hx rfl (dk at_160) rfl rfl (XS.aload X562.here hx rfl (dk at_162) rfl rfl k))) ?_
            have f564 := ((p543_1.ext E545).keep K559 (ninS (Nat.ne_of_lt (Nat.lt_of_lt_of_le p543_0.lt sz_b545)) nin0))
            have f565 := ((p543_3.ext E545).keep K559 (ninS (Nat.ne_of_lt (Nat.lt_of_lt_of_le p543_2.lt sz_b545)) nin0))
            have f566 := ((p543_4.ext E545).keep K559 (ninS (Nat.ne_of_lt (Nat.lt_of_lt_of_le p543_2.lt sz_b545)) nin0))
            have f567 := ((p543_5.ext E545).keep K559 (ninS (Nat.ne_of_lt (Nat.lt_of_lt_of_le p543_5.lt sz_b545)) nin0))
            obtain ⟨cq568, kq568, q568a, q568b, q568c⟩ := isOf hZ e562 ((p543_0.ext E545).keep K559)
            obtain ⟨_, _, ⟨T568, L568, k568, n568⟩, -, X568, ⟨Lc568, hQ568, l568, y568, z568⟩, st568⟩ := X562.virtualBack hx (y := Y2) (z := Y2) hown (mvT hZ (wd hw 201 rfl)) (mvT hZ (wd hw 202 rfl)) (notFace_of_selects (args := #[]) (mvT hZ (wd hw 204 rfl))) (mvT hZ (wd hw 204 rfl)) (mvT hZ (wd hw 203 rfl)) (by decide) (backOf (W := 0) (rm_eq_i l Z a0 hw [] b525 b545 b543 t543 k543 (own_tS (own_nm p1) (own_nm ((p1.toUInt32 >>> ((5 : Int32) &&& 31).toUInt32).toInt32)) (own_en ((p1.toUInt32 >>> ((10 : Int32) &&& 31).toUInt32).toInt32))) b559 t559 k559 (own_tN (own_nm bb340) (own_nm ((bb340.toUInt32 >>> ((5 : Int32) &&& 31).toUInt32).toInt32))) cs T559.heap n0 Z560 O560 pr1 hcs ((p543_0.ext E545).keep K559) f564 ((p543_2.ext E545).keep K559) f565 f566 f567 (own_tS_ok _ _ _) p559_0 p559_1 p559_2 p559_3 p559_4 p559_5 (own_tN_ok _ _) (Nat.ne_of_lt (Nat.lt_of_lt_of_le p543_0.lt sz_b545))) hZ (wd hw 205 rfl) (wd hw 56 rfl) (by decide) (by decide)) q568a q568c (g := (mkF m 164 #[vi p1, vi p2, vi p3, vi bb340, vr b341, vr b343, vr b517, vr b519, vr b521, .val .null, vr b525, vr b545, vi se562, vi 1, .unset, .unset, .unset, .unset, .unset] [(.ref b545), (.ref b525)])) rfl (by rw [hml]; rfl) (Steps.refl _) (argsL := [(.ref b545)]) (rest := []) (lenOf pd_30 rfl) rfl (by show 2 * 0 + _ ≤ _; exact Nat.le_of_eq rfl) (dk at_164) (fun _ _ => ⟨rfl, e562, Nat.le_of_ble_eq_true rfl, Nat.le_of_ble_eq_true rfl⟩)
            dsimp only [Pt.U, Pt.locs, Pt.cells, Pt.slots] at X568 l568 y568 z568 st568 hQ568
            subst l568 y568 z568
            obtain ⟨v568, rfl, Nq568, hh568, p568_0⟩ := hQ568
            have N568 := Fr.app N562 Nq568
            have X568 : Stand p l e _ _ m _ below meth c T568 _ 26 128 := X568
            refine gy (St T568 m 167 #[vi p1, vi p2, vi p3, vi bb340, vr b341, vr b343, vr b517, vr b519, vr b521, .val .null, vr b525, vr b545, vi se562, vi 1, .unset, .unset, .unset, .unset, .unset] [(.int v568)]) (fun _ k => st568.trans k) ?_
            rcases p568_0 with ⟨rfl, e569⟩ | ⟨rfl, e569⟩
            · skip
              refine gy (St T568 m 173 #[vi p1, vi p2, vi p3, vi bb340, vr b341, vr b343, vr b517, vr b519, vr b521, .val .null, vr b525, vr b545, vi se562, vi 1, vi 1, .unset, .unset, .unset, .unset] [(.ref b525), (.ref b545)]) (fun _ k => XS.istore X568.here hx rfl (dk at_167) rfl (l' := #[vi p1, vi p2, vi p3, vi bb340, vr b341, vr b343, vr b517, vr b519, vr b521, .val .null, vr b525, vr b545, vi se562, vi 1, vi 1, .unset, .unset, .unset, .unset]) rfl (XS.aload X568.here hx rfl (dk at_169) rfl rfl (XS.aload X568.here hx rfl (dk at_171) rfl rfl k))) ?_
              obtain ⟨cq570, kq570, q570a, q570b, q570c⟩ := isOf hZ hh568 p559_0
              obtain ⟨_, _, ⟨T570, L570, k570, n570⟩, -, X570, ⟨Lc570, hQ570, l570, y570, z570⟩, st570⟩ := X568.virtualBack hx (y := Y2) (z := Y2) hown (mvT hZ (wd hw 201 rfl)) (mvT hZ (wd hw 202 rfl)) (notFace_of_selects (args := #[]) (mvT hZ (wd hw 204 rfl))) (mvT hZ (wd hw 204 rfl)) (mvT hZ (wd hw 203 rfl)) (by decide) (backOf (W := 0) (rm_eq_i l Z a0 hw [] b545 b525 b559 t559 k559 (own_tN (own_nm bb340) (own_nm ((bb340.toUInt32 >>> ((5 : Int32) &&& 31).toUInt32).toInt32))) b543 t543 k543 (own_tS (own_nm p1) (own_nm ((p1.toUInt32 >>> ((5 : Int32) &&& 31).toUInt32).toInt32)) (own_en ((p1.toUInt32 >>> ((10 : Int32) &&& 31).toUInt32).toInt32))) cs T559.heap n0 Z560 O560 pr1 hcs p559_0 p559_1 p559_2 p559_3 p559_4 p559_5 (own_tN_ok _ _) ((p543_0.ext E545).keep K559) f564 ((p543_2.ext E545).keep K559) f565 f566 f567 (own_tS_ok _ _ _) (Ne.symm (Nat.ne_of_lt (Nat.lt_of_lt_of_le p543_0.lt sz_b545)))) hZ (wd hw 205 rfl) (wd hw 56 rfl) (by decide) (by decide)) q570a q570c (g := (mkF m 173 #[vi p1, vi p2, vi p3, vi bb340, vr b341, vr b343, vr b517, vr b519, vr b521, .val .null, vr b525, vr b545, vi se562, vi 1, vi 1, .unset, .unset, .unset, .unset] [(.ref b525), (.ref b545)])) rfl (by rw [hml]; rfl) (Steps.refl _) (argsL := [(.ref b525)]) (rest := []) (lenOf pd_30 rfl) rfl (by show 2 * 0 + _ ≤ _; exact Nat.le_of_eq rfl) (dk at_173) (fun _ _ => ⟨rfl, hh568, Nat.le_of_ble_eq_true rfl, Nat.le_of_ble_eq_true rfl⟩)
              dsimp only [Pt.U, Pt.locs, Pt.cells, Pt.slots] at X570 l570 y570 z570 st570 hQ570
              subst l570 y570 z570
              obtain ⟨v570, rfl, Nq570, hh570, p570_0⟩ := hQ570
              have N570 := Fr.app N568 Nq570
              have X570 : Stand p l e _ _ m _ below meth c T570 _ 26 128 := X570
              refine gy (St T570 m 176 #[vi p1, vi p2, vi p3, vi bb340, vr b341, vr b343, vr b517, vr b519, vr b521, .val .null, vr b525, vr b545, vi se562, vi 1, vi 1, .unset, .unset, .unset, .unset] [(.int v570)]) (fun _ k => st570.trans k) ?_
              rcases p570_0 with ⟨rfl, e571⟩ | ⟨rfl, e571⟩
              · skip
                refine gy (St T570 m 182 #[vi p1, vi p2, vi p3, vi bb340, vr b341, vr b343, vr b517, vr b519, vr b521, .val .null, vr b525, vr b545, vi se562, vi 1, vi 1, vi 1, .unset, .unset, .unset] [(.ref b525), (.ref b525)]) (fun _ k => XS.istore X570.here hx rfl (dk at_176) rfl (l' := #[vi p1, vi p2, vi p3, vi bb340, vr b341, vr b343, vr b517, vr b519, vr b521, .val .null, vr b525, vr b545, vi se562, vi 1, vi 1, vi 1, .unset, .unset, .unset]) rfl (XS.aload X570.here hx rfl (dk at_178) rfl rfl (XS.aload X570.here hx rfl (dk at_180) rfl rfl k))) ?_
                obtain ⟨cq572, kq572, q572a, q572b, q572c⟩ := isOf hZ hh570 ((p543_0.ext E545).keep K559)
                obtain ⟨_, _, ⟨T572, L572, k572, n572⟩, -, X572, ⟨Lc572, hQ572, l572, y572, z572⟩, st572⟩ := X570.virtualBack hx (y := Y2) (z := Y2) hown (mvT hZ (wd hw 201 rfl)) (mvT hZ (wd hw 202 rfl)) (notFace_of_selects (args := #[]) (mvT hZ (wd hw 204 rfl))) (mvT hZ (wd hw 204 rfl)) (mvT hZ (wd hw 203 rfl)) (by decide) (backOf (W := 0) (rm_eq_s l Z a0 hw [] b525 T559.heap n0 Z560 ) hZ (wd hw 205 rfl) (wd hw 56 rfl) (by decide) (by decide)) q572a q572c (g := (mkF m 182 #[vi p1, vi p2, vi p3, vi bb340, vr b341, vr b343, vr b517, vr b519, vr b521, .val .null, vr b525, vr b545, vi se562, vi 1, vi 1, vi 1, .unset, .unset, .unset] [(.ref b525), (.ref b525)])) rfl (by rw [hml]; rfl) (Steps.refl _) (argsL := [(.ref b525)]) (rest := []) (lenOf pd_30 rfl) rfl (by show 2 * 0 + _ ≤ _; exact Nat.le_of_eq rfl) (dk at_182) (fun _ _ => ⟨rfl, hh570, Nat.le_of_ble_eq_true rfl, Nat.le_of_ble_eq_true rfl⟩)
                dsimp only [Pt.U, Pt.locs, Pt.cells, Pt.slots] at X572 l572 y572 z572 st572 hQ572
                subst l572 y572 z572
                obtain ⟨rfl, Nq572, hh572⟩ := hQ572
                have N572 := Fr.app N570 Nq572
                have X572 : Stand p l e _ _ m _ below meth c T572 _ 26 128 := X572
                refine gy (St T572 m 185 #[vi p1, vi p2, vi p3, vi bb340, vr b341, vr b343, vr b517, vr b519, vr b521, .val .null, vr b525, vr b545, vi se562, vi 1, vi 1, vi 1, .unset, .unset, .unset] [(.int 1)]) (fun _ k => st572.trans k) ?_
                refine gy (St T572 m 190 #[vi p1, vi p2, vi p3, vi bb340, vr b341, vr b343, vr b517, vr b519, vr b521, .val .null, vr b525, vr b545, vi se562, vi 1, vi 1, vi 1, vi 1, .unset, .unset] [.null, (.ref b525)]) (fun _ k => XS.istore X572.here hx rfl (dk at_185) rfl (l' := #[vi p1, vi p2, vi p3, vi bb340, vr b341, vr b343, vr b517, vr b519, vr b521, .val .null, vr b525, vr b545, vi se562, vi 1, vi 1, vi 1, vi 1, .unset, .unset]) rfl (XS.aload X572.here hx rfl (dk at_187) rfl rfl (XS.aconstNull X572.here hx rfl (dk at_189) k))) ?_
                obtain ⟨cq573, kq573, q573a, q573b, q573c⟩ := isOf hZ hh572 ((p543_0.ext E545).keep K559)
                obtain ⟨_, _, ⟨T573, L573, k573, n573⟩, -, X573, ⟨Lc573, hQ573, l573, y573, z573⟩, st573⟩ := X572.virtualBack hx (y := Y2) (z := Y2) hown (mvT hZ (wd hw 201 rfl)) (mvT hZ (wd hw 202 rfl)) (notFace_of_selects (args := #[]) (mvT hZ (wd hw 204 rfl))) (mvT hZ (wd hw 204 rfl)) (mvT hZ (wd hw 203 rfl)) (by decide) (backOf (W := 0) (rm_eq_n l Z a0 hw [] b525 T559.heap n0 Z560 ) hZ (wd hw 205 rfl) (wd hw 56 rfl) (by decide) (by decide)) q573a q573c (g := (mkF m 190 #[vi p1, vi p2, vi p3, vi bb340, vr b341, vr b343, vr b517, vr b519, vr b521, .val .null, vr b525, vr b545, vi se562, vi 1, vi 1, vi 1, vi 1, .unset, .unset] [.null, (.ref b525)])) rfl (by rw [hml]; rfl) (Steps.refl _) (argsL := [.null]) (rest := []) (lenOf pd_30 rfl) rfl (by show 2 * 0 + _ ≤ _; exact Nat.le_of_eq rfl) (dk at_190) (fun _ _ => ⟨rfl, hh572, Nat.le_of_ble_eq_true rfl, Nat.le_of_ble_eq_true rfl⟩)
                dsimp only [Pt.U, Pt.locs, Pt.cells, Pt.slots] at X573 l573 y573 z573 st573 hQ573
                subst l573 y573 z573
                obtain ⟨rfl, Nq573, hh573⟩ := hQ573
                have N573 := Fr.app N572 Nq573
                have X573 : Stand p l e _ _ m _ below meth c T573 _ 26 128 := X573
                refine gy (St T573 m 193 #[vi p1, vi p2, vi p3, vi bb340, vr b341, vr b343, vr b517, vr b519, vr b521, .val .null, vr b525, vr b545, vi se562, vi 1, vi 1, vi 1, vi 1, .unset, .unset] [(.int 0)]) (fun _ k => st573.trans k) ?_
                refine gy (St T573 m 199 #[vi p1, vi p2, vi p3, vi bb340, vr b341, vr b343, vr b517, vr b519, vr b521, .val .null, vr b525, vr b545, vi se562, vi 1, vi 1, vi 1, vi 1, vi 0, .unset] [(.ref b341), (.ref b525)]) (fun _ k => XS.istore X573.here hx rfl (dk at_193) rfl (l' := #[vi p1, vi p2, vi p3, vi bb340, vr b341, vr b343, vr b517, vr b519, vr b521, .val .null, vr b525, vr b545, vi se562, vi 1, vi 1, vi 1, vi 1, vi 0, .unset]) rfl (XS.aload X573.here hx rfl (dk at_195) rfl rfl (XS.aload X573.here hx rfl (dk at_197) rfl rfl k))) ?_
                have f574 := (((f531.keep K543).ext E545).keep K559)
                obtain ⟨cq575, kq575, q575a, q575b, q575c⟩ := isOf hZ hh573 ((p543_0.ext E545).keep K559)
                obtain ⟨_, _, ⟨T575, L575, k575, n575⟩, -, X575, ⟨Lc575, hQ575, l575, y575, z575⟩, st575⟩ := X573.virtualBack hx (y := Y2) (z := Y2) hown (mvT hZ (wd hw 201 rfl)) (mvT hZ (wd hw 202 rfl)) (notFace_of_selects (args := #[]) (mvT hZ (wd hw 204 rfl))) (mvT hZ (wd hw 204 rfl)) (mvT hZ (wd hw 203 rfl)) (by decide) (backOf (W := 0) (rm_eq_o l Z a0 hw [] b525 b341 T559.heap n0 Z560 ((p543_0.ext E545).keep K559) f574) hZ (wd hw 205 rfl) (wd hw 56 rfl) (by decide) (by decide)) q575a q575c (g := (mkF m 199 #[vi p1, vi p2, vi p3, vi bb340, vr b341, vr b343, vr b517, vr b519, vr b521, .val .null, vr b525, vr b545, vi se562, vi 1, vi 1, vi 1, vi 1, vi 0, .unset] [(.ref b341), (.ref b525)])) rfl (by rw [hml]; rfl) (Steps.refl _) (argsL := [(.ref b341)]) (rest := []) (lenOf pd_30 rfl) rfl (by show 2 * 0 + _ ≤ _; exact Nat.le_of_eq rfl) (dk at_199) (fun _ _ => ⟨rfl, hh573, Nat.le_of_ble_eq_true rfl, Nat.le_of_ble_eq_true rfl⟩)
                dsimp only [Pt.U, Pt.locs, Pt.cells, Pt.slots] at X575 l575 y575 z575 st575 hQ575
                subst l575 y575 z575
                obtain ⟨rfl, Nq575, hh575⟩ := hQ575
                have N575 := Fr.app N573 Nq575
                have X575 : Stand p l e _ _ m _ below meth c T575 _ 26 128 := X575
                refine gy (St T575 m 202 #[vi p1, vi p2, vi p3, vi bb340, vr b341, vr b343, vr b517, vr b519, vr b521, .val .null, vr b525, vr b545, vi se562, vi 1, vi 1, vi 1, vi 1, vi 0, .unset] [(.int 0)]) (fun _ k => st575.trans k) ?_
                refine gy (St T575 m 220 #[vi p1, vi p2, vi p3, vi bb340, vr b341, vr b343, vr b517, vr b519, vr b521, .val .null, vr b525, vr b545, vi se562, vi 1, vi 1, vi 1, vi 1, vi 0, vi 0] [(.int 1)]) (fun _ k => XS.istore X575.here hx rfl (dk at_202) rfl (l' := #[vi p1, vi p2, vi p3, vi bb340, vr b341, vr b343, vr b517, vr b519, vr b521, .val .null, vr b525, vr b545, vi se562, vi 1, vi 1, vi 1, vi 1, vi 0, vi 0]) rfl (XS.iload X575.here hx rfl (dk at_204) rfl (XS.iload X575.here hx rfl (dk at_206) rfl (XS.icmpNo X575.here hx rfl (dk at_208) rfl (teq (by decide : (1 : Int32) = (1 : Int32))).2 (XS.iload X575.here hx rfl (dk at_211) rfl (XS.iload X575.here hx rfl (dk at_213) rfl (XS.icmpNo X575.here hx rfl (dk at_215) rfl (teq (by decide : (1 : Int32) = (1 : Int32))).2 (XS.iload X575.here hx rfl (dk at_218) rfl k)))))))) ?_
                refine gy (St T575 m 238 #[vi p1, vi p2, vi p3, vi bb340, vr b341, vr b343, vr b517, vr b519, vr b521, .val .null, vr b525, vr b545, vi se562, vi 1, vi 1, vi 1, vi 1, vi 0, vi 0] [(.int 1)]) (fun _ k => XS.ifNo X575.here hx rfl (dk at_220) rfl ((if0 _ _).trans (feq (by decide : ¬ ((1 : Int32) = (0 : Int32)))).1) (XS.iload X575.here hx rfl (dk at_223) rfl (XS.ifNo X575.here hx rfl (dk at_225) rfl ((if0 _ _).trans (teq (by decide : (0 : Int32) = (0 : Int32))).2) (XS.iload X575.here hx rfl (dk at_228) rfl (XS.ifNo X575.here hx rfl (dk at_230) rfl ((if0 _ _).trans (teq (by decide : (0 : Int32) = (0 : Int32))).2) (XS.iconst X575.here hx rfl (dk at_233) (XS.goto X575.here hx rfl (pc0 := 234) (pc' := 238) rfl (dk at_234) (by decide) (by decide) k))))))) ?_
                have hkE576 : _ ≤ T575.heap.size := (by rw [hh575]; exact (Nat.le_trans (Nat.le_trans (Nat.le_trans (Nat.le_trans (Nat.le_trans (Nat.le_trans hk K519.1) K521.1) E525.1) K543.1) E545.1) K559.1))
                have CE576 : CHr Z own_EL s.vm s.heap T517.vm T575.heap := (by rw [hh575]; exact C560)
                refine Go.retS X575 hx hlk hS hkE576 hZ hEL CE576 (t := .boolean) hret rfl (Or.inl ⟨rfl, by simp, _, rfl⟩) (dk at_238) (by decide) (by decide) ?_
                exact ⟨rfl, N575⟩
              · skip
                exact absurd (e569).symm e571
            · skip
              exact absurd e563 e569
          · skip
            refine gy (St T562 m 164 #[vi p1, vi p2, vi p3, vi bb340, vr b341, vr b343, vr b517, vr b519, vr b521, .val .null, vr b525, vr b545, vi se562, vi 0, .unset, .unset, .unset, .unset, .unset] [(.ref b545), (.ref b525)]) (fun _ k => XS.istore X562.here hx rfl (dk at_158) rfl (l' := #[vi p1, vi p2, vi p3, vi bb340, vr b341, vr b343, vr b517, vr b519, vr b521, .val .null, vr b525, vr b545, vi se562, vi 0, .unset, .unset, .unset, .unset, .unset]) rfl (XS.aload X562.here hx rfl (dk at_160) rfl rfl (XS.aload X562.here hx rfl (dk at_162) rfl rfl k))) ?_
            have f577 := ((p543_1.ext E545).keep K559 (ninS (Nat.ne_of_lt (Nat.lt_of_lt_of_le p543_0.lt sz_b545)) nin0))
            have f578 := ((p543_3.ext E545).keep K559 (ninS (Nat.ne_of_lt (Nat.lt_of_lt_of_le p543_2.lt sz_b545)) nin0))
            have f579 := ((p543_4.ext E545).keep K559 (ninS (Nat.ne_of_lt (Nat.lt_of_lt_of_le p543_2.lt sz_b545)) nin0))
            have f580 := ((p543_5.ext E545).keep K559 (ninS (Nat.ne_of_lt (Nat.lt_of_lt_of_le p543_5.lt sz_b545)) nin0))
            obtain ⟨cq581, kq581, q581a, q581b, q581c⟩ := isOf hZ e562 ((p543_0.ext E545).keep K559)
            obtain ⟨_, _, ⟨T581, L581, k581, n581⟩, -, X581, ⟨Lc581, hQ581, l581, y581, z581⟩, st581⟩ := X562.virtualBack hx (y := Y2) (z := Y2) hown (mvT hZ (wd hw 201 rfl)) (mvT hZ (wd hw 202 rfl)) (notFace_of_selects (args := #[]) (mvT hZ (wd hw 204 rfl))) (mvT hZ (wd hw 204 rfl)) (mvT hZ (wd hw 203 rfl)) (by decide) (backOf (W := 0) (rm_eq_i l Z a0 hw [] b525 b545 b543 t543 k543 (own_tS (own_nm p1) (own_nm ((p1.toUInt32 >>> ((5 : Int32) &&& 31).toUInt32).toInt32)) (own_en ((p1.toUInt32 >>> ((10 : Int32) &&& 31).toUInt32).toInt32))) b559 t559 k559 (own_tN (own_nm bb340) (own_nm ((bb340.toUInt32 >>> ((5 : Int32) &&& 31).toUInt32).toInt32))) cs T559.heap n0 Z560 O560 pr1 hcs ((p543_0.ext E545).keep K559) f577 ((p543_2.ext E545).keep K559) f578 f579 f580 (own_tS_ok _ _ _) p559_0 p559_1 p559_2 p559_3 p559_4 p559_5 (own_tN_ok _ _) (Nat.ne_of_lt (Nat.lt_of_lt_of_le p543_0.lt sz_b545))) hZ (wd hw 205 rfl) (wd hw 56 rfl) (by decide) (by decide)) q581a q581c (g := (mkF m 164 #[vi p1, vi p2, vi p3, vi bb340, vr b341, vr b343, vr b517, vr b519, vr b521, .val .null, vr b525, vr b545, vi se562, vi 0, .unset, .unset, .unset, .unset, .unset] [(.ref b545), (.ref b525)])) rfl (by rw [hml]; rfl) (Steps.refl _) (argsL := [(.ref b545)]) (rest := []) (lenOf pd_30 rfl) rfl (by show 2 * 0 + _ ≤ _; exact Nat.le_of_eq rfl) (dk at_164) (fun _ _ => ⟨rfl, e562, Nat.le_of_ble_eq_true rfl, Nat.le_of_ble_eq_true rfl⟩)
            dsimp only [Pt.U, Pt.locs, Pt.cells, Pt.slots] at X581 l581 y581 z581 st581 hQ581
            subst l581 y581 z581
            obtain ⟨v581, rfl, Nq581, hh581, p581_0⟩ := hQ581
            have N581 := Fr.app N562 Nq581
            have X581 : Stand p l e _ _ m _ below meth c T581 _ 26 128 := X581
            refine gy (St T581 m 167 #[vi p1, vi p2, vi p3, vi bb340, vr b341, vr b343, vr b517, vr b519, vr b521, .val .null, vr b525, vr b545, vi se562, vi 0, .unset, .unset, .unset, .unset, .unset] [(.int v581)]) (fun _ k => st581.trans k) ?_
            rcases p581_0 with ⟨rfl, e582⟩ | ⟨rfl, e582⟩
            · skip
              exact absurd e582 e563
            · skip
              refine gy (St T581 m 173 #[vi p1, vi p2, vi p3, vi bb340, vr b341, vr b343, vr b517, vr b519, vr b521, .val .null, vr b525, vr b545, vi se562, vi 0, vi 0, .unset, .unset, .unset, .unset] [(.ref b525), (.ref b545)]) (fun _ k => XS.istore X581.here hx rfl (dk at_167) rfl (l' := #[vi p1, vi p2, vi p3, vi bb340, vr b341, vr b343, vr b517, vr b519, vr b521, .val .null, vr b525, vr b545, vi se562, vi 0, vi 0, .unset, .unset, .unset, .unset]) rfl (XS.aload X581.here hx rfl (dk at_169) rfl rfl (XS.aload X581.here hx rfl (dk at_171) rfl rfl k))) ?_
              obtain ⟨cq583, kq583, q583a, q583b, q583c⟩ := isOf hZ hh581 p559_0
              obtain ⟨_, _, ⟨T583, L583, k583, n583⟩, -, X583, ⟨Lc583, hQ583, l583, y583, z583⟩, st583⟩ := X581.virtualBack hx (y := Y2) (z := Y2) hown (mvT hZ (wd hw 201 rfl)) (mvT hZ (wd hw 202 rfl)) (notFace_of_selects (args := #[]) (mvT hZ (wd hw 204 rfl))) (mvT hZ (wd hw 204 rfl)) (mvT hZ (wd hw 203 rfl)) (by decide) (backOf (W := 0) (rm_eq_i l Z a0 hw [] b545 b525 b559 t559 k559 (own_tN (own_nm bb340) (own_nm ((bb340.toUInt32 >>> ((5 : Int32) &&& 31).toUInt32).toInt32))) b543 t543 k543 (own_tS (own_nm p1) (own_nm ((p1.toUInt32 >>> ((5 : Int32) &&& 31).toUInt32).toInt32)) (own_en ((p1.toUInt32 >>> ((10 : Int32) &&& 31).toUInt32).toInt32))) cs T559.heap n0 Z560 O560 pr1 hcs p559_0 p559_1 p559_2 p559_3 p559_4 p559_5 (own_tN_ok _ _) ((p543_0.ext E545).keep K559) f577 ((p543_2.ext E545).keep K559) f578 f579 f580 (own_tS_ok _ _ _) (Ne.symm (Nat.ne_of_lt (Nat.lt_of_lt_of_le p543_0.lt sz_b545)))) hZ (wd hw 205 rfl) (wd hw 56 rfl) (by decide) (by decide)) q583a q583c (g := (mkF m 173 #[vi p1, vi p2, vi p3, vi bb340, vr b341, vr b343, vr b517, vr b519, vr b521, .val .null, vr b525, vr b545, vi se562, vi 0, vi 0, .unset, .unset, .unset, .unset] [(.ref b525), (.ref b545)])) rfl (by rw [hml]; rfl) (Steps.refl _) (argsL := [(.ref b525)]) (rest := []) (lenOf pd_30 rfl) rfl (by show 2 * 0 + _ ≤ _; exact Nat.le_of_eq rfl) (dk at_173) (fun _ _ => ⟨rfl, hh581, Nat.le_of_ble_eq_true rfl, Nat.le_of_ble_eq_true rfl⟩)
              dsimp only [Pt.U, Pt.locs, Pt.cells, Pt.slots] at X583 l583 y583 z583 st583 hQ583
              subst l583 y583 z583
              obtain ⟨v583, rfl, Nq583, hh583, p583_0⟩ := hQ583
              have N583 := Fr.app N581 Nq583
              have X583 : Stand p l e _ _ m _ below meth c T583 _ 26 128 := X583
              refine gy (St T583 m 176 #[vi p1, vi p2, vi p3, vi bb340, vr b341, vr b343, vr b517, vr b519, vr b521, .val .null, vr b525, vr b545, vi se562, vi 0, vi 0, .unset, .unset, .unset, .unset] [(.int v583)]) (fun _ k => st583.trans k) ?_
              rcases p583_0 with ⟨rfl, e584⟩ | ⟨rfl, e584⟩
              · skip
                exact absurd (e584).symm e582
              · skip
                refine gy (St T583 m 182 #[vi p1, vi p2, vi p3, vi bb340, vr b341, vr b343, vr b517, vr b519, vr b521, .val .null, vr b525, vr b545, vi se562, vi 0, vi 0, vi 0, .unset, .unset, .unset] [(.ref b525), (.ref b525)]) (fun _ k => XS.istore X583.here hx rfl (dk at_176) rfl (l' := #[vi p1, vi p2, vi p3, vi bb340, vr b341, vr b343, vr b517, vr b519, vr b521, .val .null, vr b525, vr b545, vi se562, vi 0, vi 0, vi 0, .unset, .unset, .unset]) rfl (XS.aload X583.here hx rfl (dk at_178) rfl rfl (XS.aload X583.here hx rfl (dk at_180) rfl rfl k))) ?_
                obtain ⟨cq585, kq585, q585a, q585b, q585c⟩ := isOf hZ hh583 ((p543_0.ext E545).keep K559)
                obtain ⟨_, _, ⟨T585, L585, k585, n585⟩, -, X585, ⟨Lc585, hQ585, l585, y585, z585⟩, st585⟩ := X583.virtualBack hx (y := Y2) (z := Y2) hown (mvT hZ (wd hw 201 rfl)) (mvT hZ (wd hw 202 rfl)) (notFace_of_selects (args := #[]) (mvT hZ (wd hw 204 rfl))) (mvT hZ (wd hw 204 rfl)) (mvT hZ (wd hw 203 rfl)) (by decide) (backOf (W := 0) (rm_eq_s l Z a0 hw [] b525 T559.heap n0 Z560 ) hZ (wd hw 205 rfl) (wd hw 56 rfl) (by decide) (by decide)) q585a q585c (g := (mkF m 182 #[vi p1, vi p2, vi p3, vi bb340, vr b341, vr b343, vr b517, vr b519, vr b521, .val .null, vr b525, vr b545, vi se562, vi 0, vi 0, vi 0, .unset, .unset, .unset] [(.ref b525), (.ref b525)])) rfl (by rw [hml]; rfl) (Steps.refl _) (argsL := [(.ref b525)]) (rest := []) (lenOf pd_30 rfl) rfl (by show 2 * 0 + _ ≤ _; exact Nat.le_of_eq rfl) (dk at_182) (fun _ _ => ⟨rfl, hh583, Nat.le_of_ble_eq_true rfl, Nat.le_of_ble_eq_true rfl⟩)
                dsimp only [Pt.U, Pt.locs, Pt.cells, Pt.slots] at X585 l585 y585 z585 st585 hQ585
                subst l585 y585 z585
                obtain ⟨rfl, Nq585, hh585⟩ := hQ585
                have N585 := Fr.app N583 Nq585
                have X585 : Stand p l e _ _ m _ below meth c T585 _ 26 128 := X585
                refine gy (St T585 m 185 #[vi p1, vi p2, vi p3, vi bb340, vr b341, vr b343, vr b517, vr b519, vr b521, .val .null, vr b525, vr b545, vi se562, vi 0, vi 0, vi 0, .unset, .unset, .unset] [(.int 1)]) (fun _ k => st585.trans k) ?_
                refine gy (St T585 m 190 #[vi p1, vi p2, vi p3, vi bb340, vr b341, vr b343, vr b517, vr b519, vr b521, .val .null, vr b525, vr b545, vi se562, vi 0, vi 0, vi 0, vi 1, .unset, .unset] [.null, (.ref b525)]) (fun _ k => XS.istore X585.here hx rfl (dk at_185) rfl (l' := #[vi p1, vi p2, vi p3, vi bb340, vr b341, vr b343, vr b517, vr b519, vr b521, .val .null, vr b525, vr b545, vi se562, vi 0, vi 0, vi 0, vi 1, .unset, .unset]) rfl (XS.aload X585.here hx rfl (dk at_187) rfl rfl (XS.aconstNull X585.here hx rfl (dk at_189) k))) ?_
                obtain ⟨cq586, kq586, q586a, q586b, q586c⟩ := isOf hZ hh585 ((p543_0.ext E545).keep K559)
                obtain ⟨_, _, ⟨T586, L586, k586, n586⟩, -, X586, ⟨Lc586, hQ586, l586, y586, z586⟩, st586⟩ := X585.virtualBack hx (y := Y2) (z := Y2) hown (mvT hZ (wd hw 201 rfl)) (mvT hZ (wd hw 202 rfl)) (notFace_of_selects (args := #[]) (mvT hZ (wd hw 204 rfl))) (mvT hZ (wd hw 204 rfl)) (mvT hZ (wd hw 203 rfl)) (by decide) (backOf (W := 0) (rm_eq_n l Z a0 hw [] b525 T559.heap n0 Z560 ) hZ (wd hw 205 rfl) (wd hw 56 rfl) (by decide) (by decide)) q586a q586c (g := (mkF m 190 #[vi p1, vi p2, vi p3, vi bb340, vr b341, vr b343, vr b517, vr b519, vr b521, .val .null, vr b525, vr b545, vi se562, vi 0, vi 0, vi 0, vi 1, .unset, .unset] [.null, (.ref b525)])) rfl (by rw [hml]; rfl) (Steps.refl _) (argsL := [.null]) (rest := []) (lenOf pd_30 rfl) rfl (by show 2 * 0 + _ ≤ _; exact Nat.le_of_eq rfl) (dk at_190) (fun _ _ => ⟨rfl, hh585, Nat.le_of_ble_eq_true rfl, Nat.le_of_ble_eq_true rfl⟩)
                dsimp only [Pt.U, Pt.locs, Pt.cells, Pt.slots] at X586 l586 y586 z586 st586 hQ586
                subst l586 y586 z586
                obtain ⟨rfl, Nq586, hh586⟩ := hQ586
                have N586 := Fr.app N585 Nq586
                have X586 : Stand p l e _ _ m _ below meth c T586 _ 26 128 := X586
                refine gy (St T586 m 193 #[vi p1, vi p2, vi p3, vi bb340, vr b341, vr b343, vr b517, vr b519, vr b521, .val .null, vr b525, vr b545, vi se562, vi 0, vi 0, vi 0, vi 1, .unset, .unset] [(.int 0)]) (fun _ k => st586.trans k) ?_
                refine gy (St T586 m 199 #[vi p1, vi p2, vi p3, vi bb340, vr b341, vr b343, vr b517, vr b519, vr b521, .val .null, vr b525, vr b545, vi se562, vi 0, vi 0, vi 0, vi 1, vi 0, .unset] [(.ref b341), (.ref b525)]) (fun _ k => XS.istore X586.here hx rfl (dk at_193) rfl (l' := #[vi p1, vi p2, vi p3, vi bb340, vr b341, vr b343, vr b517, vr b519, vr b521, .val .null, vr b525, vr b545, vi se562, vi 0, vi 0, vi 0, vi 1, vi 0, .unset]) rfl (XS.aload X586.here hx rfl (dk at_195) rfl rfl (XS.aload X586.here hx rfl (dk at_197) rfl rfl k))) ?_
                have f587 := (((f531.keep K543).ext E545).keep K559)
                obtain ⟨cq588, kq588, q588a, q588b, q588c⟩ := isOf hZ hh586 ((p543_0.ext E545).keep K559)
                obtain ⟨_, _, ⟨T588, L588, k588, n588⟩, -, X588, ⟨Lc588, hQ588, l588, y588, z588⟩, st588⟩ := X586.virtualBack hx (y := Y2) (z := Y2) hown (mvT hZ (wd hw 201 rfl)) (mvT hZ (wd hw 202 rfl)) (notFace_of_selects (args := #[]) (mvT hZ (wd hw 204 rfl))) (mvT hZ (wd hw 204 rfl)) (mvT hZ (wd hw 203 rfl)) (by decide) (backOf (W := 0) (rm_eq_o l Z a0 hw [] b525 b341 T559.heap n0 Z560 ((p543_0.ext E545).keep K559) f587) hZ (wd hw 205 rfl) (wd hw 56 rfl) (by decide) (by decide)) q588a q588c (g := (mkF m 199 #[vi p1, vi p2, vi p3, vi bb340, vr b341, vr b343, vr b517, vr b519, vr b521, .val .null, vr b525, vr b545, vi se562, vi 0, vi 0, vi 0, vi 1, vi 0, .unset] [(.ref b341), (.ref b525)])) rfl (by rw [hml]; rfl) (Steps.refl _) (argsL := [(.ref b341)]) (rest := []) (lenOf pd_30 rfl) rfl (by show 2 * 0 + _ ≤ _; exact Nat.le_of_eq rfl) (dk at_199) (fun _ _ => ⟨rfl, hh586, Nat.le_of_ble_eq_true rfl, Nat.le_of_ble_eq_true rfl⟩)
                dsimp only [Pt.U, Pt.locs, Pt.cells, Pt.slots] at X588 l588 y588 z588 st588 hQ588
                subst l588 y588 z588
                obtain ⟨rfl, Nq588, hh588⟩ := hQ588
                have N588 := Fr.app N586 Nq588
                have X588 : Stand p l e _ _ m _ below meth c T588 _ 26 128 := X588
                refine gy (St T588 m 202 #[vi p1, vi p2, vi p3, vi bb340, vr b341, vr b343, vr b517, vr b519, vr b521, .val .null, vr b525, vr b545, vi se562, vi 0, vi 0, vi 0, vi 1, vi 0, .unset] [(.int 0)]) (fun _ k => st588.trans k) ?_
                refine gy (St T588 m 220 #[vi p1, vi p2, vi p3, vi bb340, vr b341, vr b343, vr b517, vr b519, vr b521, .val .null, vr b525, vr b545, vi se562, vi 0, vi 0, vi 0, vi 1, vi 0, vi 0] [(.int 1)]) (fun _ k => XS.istore X588.here hx rfl (dk at_202) rfl (l' := #[vi p1, vi p2, vi p3, vi bb340, vr b341, vr b343, vr b517, vr b519, vr b521, .val .null, vr b525, vr b545, vi se562, vi 0, vi 0, vi 0, vi 1, vi 0, vi 0]) rfl (XS.iload X588.here hx rfl (dk at_204) rfl (XS.iload X588.here hx rfl (dk at_206) rfl (XS.icmpNo X588.here hx rfl (dk at_208) rfl (teq (by decide : (0 : Int32) = (0 : Int32))).2 (XS.iload X588.here hx rfl (dk at_211) rfl (XS.iload X588.here hx rfl (dk at_213) rfl (XS.icmpNo X588.here hx rfl (dk at_215) rfl (teq (by decide : (0 : Int32) = (0 : Int32))).2 (XS.iload X588.here hx rfl (dk at_218) rfl k)))))))) ?_
                refine gy (St T588 m 238 #[vi p1, vi p2, vi p3, vi bb340, vr b341, vr b343, vr b517, vr b519, vr b521, .val .null, vr b525, vr b545, vi se562, vi 0, vi 0, vi 0, vi 1, vi 0, vi 0] [(.int 1)]) (fun _ k => XS.ifNo X588.here hx rfl (dk at_220) rfl ((if0 _ _).trans (feq (by decide : ¬ ((1 : Int32) = (0 : Int32)))).1) (XS.iload X588.here hx rfl (dk at_223) rfl (XS.ifNo X588.here hx rfl (dk at_225) rfl ((if0 _ _).trans (teq (by decide : (0 : Int32) = (0 : Int32))).2) (XS.iload X588.here hx rfl (dk at_228) rfl (XS.ifNo X588.here hx rfl (dk at_230) rfl ((if0 _ _).trans (teq (by decide : (0 : Int32) = (0 : Int32))).2) (XS.iconst X588.here hx rfl (dk at_233) (XS.goto X588.here hx rfl (pc0 := 234) (pc' := 238) rfl (dk at_234) (by decide) (by decide) k))))))) ?_
                have hkE589 : _ ≤ T588.heap.size := (by rw [hh588]; exact (Nat.le_trans (Nat.le_trans (Nat.le_trans (Nat.le_trans (Nat.le_trans (Nat.le_trans hk K519.1) K521.1) E525.1) K543.1) E545.1) K559.1))
                have CE589 : CHr Z own_EL s.vm s.heap T517.vm T588.heap := (by rw [hh588]; exact C560)
                refine Go.retS X588 hx hlk hS hkE589 hZ hEL CE589 (t := .boolean) hret rfl (Or.inl ⟨rfl, by simp, _, rfl⟩) (dk at_238) (by decide) (by decide) ?_
                exact ⟨rfl, N588⟩
        refine gy (St T559 m 132 #[vi p1, vi p2, vi p3, vi bb340, vr b341, vr b343, vr b517, vr b519, vr b521, .val .null, vr b525, vr b545, vi 0, .unset, .unset, .unset, .unset, .unset, .unset] [(.ref b519), (.ref b341)]) (fun _ k => XS.aload X559.here hx rfl (dk at_88) rfl rfl (XS.ifnonnullYes X559.here hx rfl (pc0 := 90) (pc' := 106) rfl (dk at_90) rfl (by decide) (by decide) (XS.aload X559.here hx rfl (dk at_106) rfl rfl (XS.ifnullYes X559.here hx rfl (pc0 := 108) (pc' := 125) rfl (dk at_108) rfl (by decide) (by decide) (XS.iconst X559.here hx rfl (dk at_125) (XS.istore X559.here hx rfl (dk at_126) rfl (l' := #[vi p1, vi p2, vi p3, vi bb340, vr b341, vr b343, vr b517, vr b519, vr b521, .val .null, vr b525, vr b545, vi 0, .unset, .unset, .unset, .unset, .unset, .unset]) rfl (XS.aload X559.here hx rfl (dk at_128) rfl rfl (XS.aload X559.here hx rfl (dk at_130) rfl rfl k)))))))) ?_
        have f591 := (((f531.keep K543).ext E545).keep K559)
        have f592 := (((f532.keep K543 (ninS (Nat.ne_of_lt (Nat.lt_of_lt_of_le ((((p341_0.keep K343).keep K517).keep K519).keep K521).lt sz_b525)) nin0)).ext E545).keep K559 (ninS (Nat.ne_of_lt (Nat.lt_of_lt_of_le (f531.keep K543).lt sz_b545)) nin0))
        have f593 := (((f533.keep K543 (ninS (Nat.ne_of_lt (Nat.lt_of_lt_of_le ((((p341_0.keep K343).keep K517).keep K519).keep K521).lt sz_b525)) nin0)).ext E545).keep K559 (ninS (Nat.ne_of_lt (Nat.lt_of_lt_of_le (f531.keep K543).lt sz_b545)) nin0))
        have f594 := (((f534.keep K543 (ninS (Nat.ne_of_lt (Nat.lt_of_lt_of_le ((((p341_3.keep K343 nin0).keep K517 nin0).keep K519 nin0).keep K521 nin0).lt sz_b525)) nin0)).ext E545).keep K559 (ninS (Nat.ne_of_lt (Nat.lt_of_lt_of_le (f534.keep K543 (ninS (Nat.ne_of_lt (Nat.lt_of_lt_of_le ((((p341_3.keep K343 nin0).keep K517 nin0).keep K519 nin0).keep K521 nin0).lt sz_b525)) nin0)).lt sz_b545)) nin0))
        have f595 := (f552.keep K559 (ninS (Nat.ne_of_lt (Nat.lt_of_lt_of_le (((p519_0.keep K521).ext E525).keep K543).lt sz_b545)) nin0))
        have f596 := (f553.keep K559 (ninS (Nat.ne_of_lt (Nat.lt_of_lt_of_le (((p519_0.keep K521).ext E525).keep K543).lt sz_b545)) nin0))
        have f597 := (f554.keep K559 (ninS (Nat.ne_of_lt (Nat.lt_of_lt_of_le (((p519_3.keep K521 nin0).ext E525).keep K543 (ninS (Nat.ne_of_lt (Nat.lt_of_lt_of_le (p519_3.keep K521 nin0).lt sz_b525)) nin0)).lt sz_b545)) nin0))
        obtain ⟨cq590, kq590, q590a, q590b, q590c⟩ := isOf hZ e561 f591
        obtain ⟨_, _, ⟨T590, L590, k590, n590⟩, -, X590, ⟨Lc590, hQ590, l590, y590, z590⟩, st590⟩ := X559.virtualBack hx (y := Y23) (z := Y23) hown (mvT hZ (wd hw 193 rfl)) (mvT hZ (wd hw 194 rfl)) (notFace_of_selects (args := #[]) (mvT hZ (wd hw 196 rfl))) (mvT hZ (wd hw 196 rfl)) (mvT hZ (wd hw 195 rfl)) (by decide) (StrChars.Road.eqW (W := 0) hZ (own_heq hw) (kI := 4) (wd hw 17 rfl) f591 f592 f593 f594 (own_cod (own_nm_ok _)) (own_up (own_nm_ok _)) (own_nm_ok _).2 (f551.keep K559) f595 f596 f597 (own_cod (own_nm_ok _)) (own_up (own_nm_ok _)) (own_nm_ok _).2 (pr1.ext O560.2) hcs (by decide) (by decide)) q590a q590c (g := (mkF m 132 #[vi p1, vi p2, vi p3, vi bb340, vr b341, vr b343, vr b517, vr b519, vr b521, .val .null, vr b525, vr b545, vi 0, .unset, .unset, .unset, .unset, .unset, .unset] [(.ref b519), (.ref b341)])) rfl (by rw [hml]; rfl) (Steps.refl _) (argsL := [(.ref b519)]) (rest := []) (lenOf pd_30 rfl) rfl (by show 2 * 0 + _ ≤ _; exact Nat.le_of_eq rfl) (dk at_132) (fun _ _ => ⟨rfl, e561, Nat.le_of_ble_eq_true rfl, Nat.le_of_ble_eq_true rfl⟩)
        dsimp only [Pt.U, Pt.locs, Pt.cells, Pt.slots] at X590 l590 y590 z590 st590 hQ590
        subst l590 y590 z590
        obtain ⟨hv590, hL590, hh590⟩ := hQ590
        subst hL590
        have N590 := Fr.app N559 (Fr.nil n0)
        rcases hv590 with ⟨rfl, e598⟩ | ⟨rfl, e598⟩
        · skip
          refine gy (St T590 m 135 #[vi p1, vi p2, vi p3, vi bb340, vr b341, vr b343, vr b517, vr b519, vr b521, .val .null, vr b525, vr b545, vi 0, .unset, .unset, .unset, .unset, .unset, .unset] [(.int 1)]) (fun _ k => st590.trans k) ?_
          refine gy (St T590 m 142 #[vi p1, vi p2, vi p3, vi bb340, vr b341, vr b343, vr b517, vr b519, vr b521, .val .null, vr b525, vr b545, vi 0, .unset, .unset, .unset, .unset, .unset, .unset] [(.ref b521), (.ref b343)]) (fun _ k => XS.ifNo X590.here hx rfl (dk at_135) rfl ((if0 _ _).trans (feq (by decide : ¬ ((1 : Int32) = (0 : Int32)))).1) (XS.aload X590.here hx rfl (dk at_138) rfl rfl (XS.aload X590.here hx rfl (dk at_140) rfl rfl k))) ?_
          have f600 := (((f535.keep K543).ext E545).keep K559)
          have f601 := (((f536.keep K543 (ninS (Nat.ne_of_lt (Nat.lt_of_lt_of_le (((p343_0.keep K517).keep K519).keep K521).lt sz_b525)) nin0)).ext E545).keep K559 (ninS (Nat.ne_of_lt (Nat.lt_of_lt_of_le (f535.keep K543).lt sz_b545)) nin0))
          have f602 := (((f537.keep K543 (ninS (Nat.ne_of_lt (Nat.lt_of_lt_of_le (((p343_0.keep K517).keep K519).keep K521).lt sz_b525)) nin0)).ext E545).keep K559 (ninS (Nat.ne_of_lt (Nat.lt_of_lt_of_le (f535.keep K543).lt sz_b545)) nin0))
          have f603 := (((f538.keep K543 (ninS (Nat.ne_of_lt (Nat.lt_of_lt_of_le (((p343_3.keep K517 nin0).keep K519 nin0).keep K521 nin0).lt sz_b525)) nin0)).ext E545).keep K559 (ninS (Nat.ne_of_lt (Nat.lt_of_lt_of_le (f538.keep K543 (ninS (Nat.ne_of_lt (Nat.lt_of_lt_of_le (((p343_3.keep K517 nin0).keep K519 nin0).keep K521 nin0).lt sz_b525)) nin0)).lt sz_b545)) nin0))
          have f604 := (f556.keep K559 (ninS (Nat.ne_of_lt (Nat.lt_of_lt_of_le ((p521_0.ext E525).keep K543).lt sz_b545)) nin0))
          have f605 := (f557.keep K559 (ninS (Nat.ne_of_lt (Nat.lt_of_lt_of_le ((p521_0.ext E525).keep K543).lt sz_b545)) nin0))
          have f606 := (f558.keep K559 (ninS (Nat.ne_of_lt (Nat.lt_of_lt_of_le ((p521_3.ext E525).keep K543 (ninS (Nat.ne_of_lt (Nat.lt_of_lt_of_le p521_3.lt sz_b525)) nin0)).lt sz_b545)) nin0))
          obtain ⟨cq599, kq599, q599a, q599b, q599c⟩ := isOf hZ hh590 f600
          obtain ⟨_, _, ⟨T599, L599, k599, n599⟩, -, X599, ⟨Lc599, hQ599, l599, y599, z599⟩, st599⟩ := X590.virtualBack hx (y := Y23) (z := Y23) hown (mvT hZ (wd hw 193 rfl)) (mvT hZ (wd hw 194 rfl)) (notFace_of_selects (args := #[]) (mvT hZ (wd hw 196 rfl))) (mvT hZ (wd hw 196 rfl)) (mvT hZ (wd hw 195 rfl)) (by decide) (StrChars.Road.eqW (W := 0) hZ (own_heq hw) (kI := 4) (wd hw 17 rfl) f600 f601 f602 f603 (own_cod (own_nm_ok _)) (own_up (own_nm_ok _)) (own_nm_ok _).2 (f555.keep K559) f604 f605 f606 (own_cod (own_nm_ok _)) (own_up (own_nm_ok _)) (own_nm_ok _).2 (pr1.ext O560.2) hcs (by decide) (by decide)) q599a q599c (g := (mkF m 142 #[vi p1, vi p2, vi p3, vi bb340, vr b341, vr b343, vr b517, vr b519, vr b521, .val .null, vr b525, vr b545, vi 0, .unset, .unset, .unset, .unset, .unset, .unset] [(.ref b521), (.ref b343)])) rfl (by rw [hml]; rfl) (Steps.refl _) (argsL := [(.ref b521)]) (rest := []) (lenOf pd_30 rfl) rfl (by show 2 * 0 + _ ≤ _; exact Nat.le_of_eq rfl) (dk at_142) (fun _ _ => ⟨rfl, hh590, Nat.le_of_ble_eq_true rfl, Nat.le_of_ble_eq_true rfl⟩)
          dsimp only [Pt.U, Pt.locs, Pt.cells, Pt.slots] at X599 l599 y599 z599 st599 hQ599
          subst l599 y599 z599
          obtain ⟨hv599, hL599, hh599⟩ := hQ599
          subst hL599
          have N599 := Fr.app N590 (Fr.nil n0)
          rcases hv599 with ⟨rfl, e607⟩ | ⟨rfl, e607⟩
          · skip
            refine gy (St T599 m 145 #[vi p1, vi p2, vi p3, vi bb340, vr b341, vr b343, vr b517, vr b519, vr b521, .val .null, vr b525, vr b545, vi 0, .unset, .unset, .unset, .unset, .unset, .unset] [(.int 1)]) (fun _ k => st599.trans k) ?_
            refine gy (St T599 m 158 #[vi p1, vi p2, vi p3, vi bb340, vr b341, vr b343, vr b517, vr b519, vr b521, .val .null, vr b525, vr b545, vi 0, .unset, .unset, .unset, .unset, .unset, .unset] [(.int 0)]) (fun _ k => XS.ifNo X599.here hx rfl (dk at_145) rfl ((if0 _ _).trans (feq (by decide : ¬ ((1 : Int32) = (0 : Int32)))).1) (XS.iload X599.here hx rfl (dk at_148) rfl (XS.ifYes X599.here hx rfl (pc0 := 150) (pc' := 157) rfl (dk at_150) rfl ((if0 _ _).trans (teq (by decide : (0 : Int32) = (0 : Int32))).1) (by decide) (by decide) (XS.iconst X599.here hx rfl (dk at_157) k)))) ?_
            exact J561 T599 _ X599 N599 hh599 (0 : Int32) (0 : Int32) (Or.inr ⟨rfl, fun q => own_NS q.symm⟩)
          · skip
            refine gy (St T599 m 145 #[vi p1, vi p2, vi p3, vi bb340, vr b341, vr b343, vr b517, vr b519, vr b521, .val .null, vr b525, vr b545, vi 0, .unset, .unset, .unset, .unset, .unset, .unset] [(.int 0)]) (fun _ k => st599.trans k) ?_
            refine gy (St T599 m 158 #[vi p1, vi p2, vi p3, vi bb340, vr b341, vr b343, vr b517, vr b519, vr b521, .val .null, vr b525, vr b545, vi 0, .unset, .unset, .unset, .unset, .unset, .unset] [(.int 0)]) (fun _ k => XS.ifYes X599.here hx rfl (pc0 := 145) (pc' := 157) rfl (dk at_145) rfl ((if0 _ _).trans (teq (by decide : (0 : Int32) = (0 : Int32))).1) (by decide) (by decide) (XS.iconst X599.here hx rfl (dk at_157) k)) ?_
            exact J561 T599 _ X599 N599 hh599 (0 : Int32) (0 : Int32) (Or.inr ⟨rfl, fun q => own_NS q.symm⟩)
        · skip
          refine gy (St T590 m 135 #[vi p1, vi p2, vi p3, vi bb340, vr b341, vr b343, vr b517, vr b519, vr b521, .val .null, vr b525, vr b545, vi 0, .unset, .unset, .unset, .unset, .unset, .unset] [(.int 0)]) (fun _ k => st590.trans k) ?_
          refine gy (St T590 m 158 #[vi p1, vi p2, vi p3, vi bb340, vr b341, vr b343, vr b517, vr b519, vr b521, .val .null, vr b525, vr b545, vi 0, .unset, .unset, .unset, .unset, .unset, .unset] [(.int 0)]) (fun _ k => XS.ifYes X590.here hx rfl (pc0 := 135) (pc' := 157) rfl (dk at_135) rfl ((if0 _ _).trans (teq (by decide : (0 : Int32) = (0 : Int32))).1) (by decide) (by decide) (XS.iconst X590.here hx rfl (dk at_157) k)) ?_
          exact J561 T590 _ X590 N590 hh590 (0 : Int32) (0 : Int32) (Or.inr ⟨rfl, fun q => own_NS q.symm⟩)
      · skip
        have hkT608 : _ ≤ T521.heap.size := (Nat.le_trans (Nat.le_trans hk K519.1) K521.1)
        obtain ⟨_, _, ⟨T608, L608, k608, n608⟩, -, X608, hSn608, hgr608, ⟨Lc608, hQ608, l608, y608, z608, CS608⟩, st608⟩ := callSS X521 hx (y := Y4) hown (mvT hZ (wd hw 33 rfl)) (mvT hZ (wd hw 34 rfl)) (mvT hZ (wd hw 2 rfl)) (mvT hZ (wd hw 35 rfl)) (by decide) (backOfSH (W := 0) (rm_endS l Z a0 hw [] ((bb340.toUInt32 >>> ((10 : Int32) &&& 31).toUInt32).toInt32) cs T521.heap n0 Z522 O522 pr1 hcs c523) hZ (wd hw 35 rfl) (wd hw 2 rfl) (by decide) (by decide) hEL C522.1) (g := (mkF m 53 #[vi p1, vi p2, vi p3, vi bb340, vr b341, vr b343, vr b517, vr b519, vr b521, .unset, .unset, .unset, .unset, .unset, .unset, .unset, .unset, .unset, .unset] [(.int ((bb340.toUInt32 >>> ((10 : Int32) &&& 31).toUInt32).toInt32))])) rfl (by rw [hml]; rfl) (argsL := [(.int ((bb340.toUInt32 >>> ((10 : Int32) &&& 31).toUInt32).toInt32))]) (rest := []) (lenOf pd_31 rfl) rfl (by show 2 * 0 + _ ≤ _; exact Nat.le_of_eq rfl) (dk at_53) (fun _ _ => ⟨rfl, rfl, Nat.le_of_ble_eq_true rfl, Nat.le_of_ble_eq_true rfl⟩)
        dsimp only [Pt.U, Pt.locs, Pt.cells, Pt.slots] at X608 l608 y608 z608 st608 hQ608 hSn608 hgr608 CS608
        subst l608 y608 z608
        obtain ⟨X608, hS, hZ, hown⟩ := rebS hS hkT608 X608 hSn608 hgr608 hZ hown
        have hk : T608.heap.size ≤ T608.heap.size := Nat.le_refl _
        obtain ⟨b608, t608, k608, rfl, Nq608, K608, p608_0, p608_1, p608_2, p608_3, p608_4⟩ := hQ608
        have N608 := Fr.app N521 Nq608
        have X608 : Stand p l e _ _ m _ below meth c T608 _ 20 48 := X608
        have C609 := C522.trans CS608
        have O609 := O522.keep K608 all0
        have Z609 : n0 ≤ T608.heap.size := Nat.le_trans Z522 K608.1
        have sz_b608 : T521.heap.size ≤ b608 := p608_4
        refine gy (St T608 m 56 #[vi p1, vi p2, vi p3, vi bb340, vr b341, vr b343, vr b517, vr b519, vr b521, .unset, .unset, .unset, .unset, .unset, .unset, .unset, .unset, .unset, .unset] [(.ref b608)]) (fun _ k => st608.trans k) ?_
        refine gy (St T608 m 58 #[vi p1, vi p2, vi p3, vi bb340, vr b341, vr b343, vr b517, vr b519, vr b521, vr b608, .unset, .unset, .unset, .unset, .unset, .unset, .unset, .unset, .unset] []) (fun _ k => XS.astore X608.here hx rfl (dk at_56) rfl rfl (l' := #[vi p1, vi p2, vi p3, vi bb340, vr b341, vr b343, vr b517, vr b519, vr b521, vr b608, .unset, .unset, .unset, .unset, .unset, .unset, .unset, .unset, .unset]) rfl k) ?_
        obtain ⟨T610, h610, X610, e610, E610, A610, D610, -, st610⟩ := newO X608 hx hZ hown (wd hw 54 rfl) (wd hw 55 rfl) (wd hw 56 rfl) rfl (g := (mkF m 58 #[vi p1, vi p2, vi p3, vi bb340, vr b341, vr b343, vr b517, vr b519, vr b521, vr b608, .unset, .unset, .unset, .unset, .unset, .unset, .unset, .unset, .unset] [])) rfl (dk at_58) (by decide) (by decide)
        obtain ⟨b610, g610⟩ : ∃ z, z = T608.heap.size := ⟨_, rfl⟩
        rw [← g610] at A610 D610 st610
        have sz_b610 : T608.heap.size ≤ b610 := Nat.le_of_eq g610.symm
        have C611 := C609.trans (CHr.ext E610 C609.1)
        have O611 := O609.ext E610
        have Z611 : n0 ≤ h610.size := Nat.le_trans Z609 E610.1
        have F612 : Fld Z h610 b610 "com/example/breakwater/breakwater/engine/Address" "scope" "Ljava/lang/String;" .null := D610 (Or.inr (wd hw 186 rfl)) (ty := (.object "java/lang/String")) (by decide)
        have F613 : Fld Z h610 b610 "com/example/breakwater/breakwater/engine/Address" "service" "Ljava/lang/String;" .null := D610 (Or.inr (wd hw 188 rfl)) (ty := (.object "java/lang/String")) (by decide)
        have F614 : Fld Z h610 b610 "com/example/breakwater/breakwater/engine/Address" "endpoint" "Ljava/lang/String;" .null := D610 (Or.inr (wd hw 190 rfl)) (ty := (.object "java/lang/String")) (by decide)
        have F615 : Fld Z h610 b610 "com/example/breakwater/breakwater/engine/Address" "text" "Ljava/lang/String;" .null := D610 (Or.inr (wd hw 192 rfl)) (ty := (.object "java/lang/String")) (by decide)
        refine gy (St T610 m 61 #[vi p1, vi p2, vi p3, vi bb340, vr b341, vr b343, vr b517, vr b519, vr b521, vr b608, .unset, .unset, .unset, .unset, .unset, .unset, .unset, .unset, .unset] [(.ref b610)]) st610 ?_
        refine gy (St T610 m 68 #[vi p1, vi p2, vi p3, vi bb340, vr b341, vr b343, vr b517, vr b519, vr b521, vr b608, .unset, .unset, .unset, .unset, .unset, .unset, .unset, .unset, .unset] [(.ref b517), (.ref b343), (.ref b341), (.ref b610), (.ref b610)]) (fun _ k => XS.dup X610.here hx rfl (dk at_61) rfl rfl (XS.aload X610.here hx rfl (dk at_62) rfl rfl (XS.aload X610.here hx rfl (dk at_64) rfl rfl (XS.aload X610.here hx rfl (dk at_66) rfl rfl k)))) ?_
        have f616 := ((((((p341_0.keep K343).keep K517).keep K519).keep K521).keep K608).ext E610)
        have f617 := ((((((p341_1.keep K343 nin0).keep K517 nin0).keep K519 nin0).keep K521 nin0).keep K608 nin0).ext E610)
        have f618 := ((((((p341_2.keep K343 nin0).keep K517 nin0).keep K519 nin0).keep K521 nin0).keep K608 nin0).ext E610)
        have f619 := ((((((p341_3.keep K343 nin0).keep K517 nin0).keep K519 nin0).keep K521 nin0).keep K608 nin0).ext E610)
        have f620 := (((((p343_0.keep K517).keep K519).keep K521).keep K608).ext E610)
        have f621 := (((((p343_1.keep K517 nin0).keep K519 nin0).keep K521 nin0).keep K608 nin0).ext E610)
        have f622 := (((((p343_2.keep K517 nin0).keep K519 nin0).keep K521 nin0).keep K608 nin0).ext E610)
        have f623 := (((((p343_3.keep K517 nin0).keep K519 nin0).keep K521 nin0).keep K608 nin0).ext E610)
        have f624 := ((((p517_0.keep K519).keep K521).keep K608).ext E610)
        have f625 := ((((p517_1.keep K519 nin0).keep K521 nin0).keep K608 nin0).ext E610)
        have f626 := ((((p517_2.keep K519 nin0).keep K521 nin0).keep K608 nin0).ext E610)
        have f627 := ((((p517_3.keep K519 nin0).keep K521 nin0).keep K608 nin0).ext E610)
        obtain ⟨_, _, ⟨T628, L628, k628, n628⟩, -, X628, ⟨Lc628, hQ628, l628, y628, z628⟩, st628⟩ := X610.specialBack hx (y := Y0) rfl hown (mvT hZ (wd hw 57 rfl)) (mvT hZ (wd hw 58 rfl)) (mvT hZ (wd hw 59 rfl)) (by decide) (backOf (W := 1) (rm_ad3s l Z a0 hw [] b610 b341 t341 k341 (own_nm p1) b343 t343 k343 (own_nm ((p1.toUInt32 >>> ((5 : Int32) &&& 31).toUInt32).toInt32)) b517 t517 k517 (own_en ((p1.toUInt32 >>> ((10 : Int32) &&& 31).toUInt32).toInt32)) cs h610 n0 Z611 O611 pr1 hcs A610 F612 F613 F614 F615 (Nat.le_trans Z609 sz_b610) f616 f617 f618 f619 (own_nmL _) f620 f621 f622 f623 (own_nmL _) f624 f625 f626 f627 (own_enL _)) hZ (wd hw 59 rfl) (wd hw 56 rfl) (by decide) (by decide)) (g := (mkF m 68 #[vi p1, vi p2, vi p3, vi bb340, vr b341, vr b343, vr b517, vr b519, vr b521, vr b608, .unset, .unset, .unset, .unset, .unset, .unset, .unset, .unset, .unset] [(.ref b517), (.ref b343), (.ref b341), (.ref b610), (.ref b610)])) rfl (by rw [hml]; rfl) (Steps.refl _) (a := b610) (argsL := [(.ref b341), (.ref b343), (.ref b517)]) (rest := [(.ref b610)]) (lenOf pd_32 rfl) rfl (by show 2 * 0 + _ ≤ _; exact Nat.le_of_eq rfl) (dk at_68) (fun _ _ => ⟨rfl, e610, Nat.le_of_ble_eq_true rfl, Nat.le_of_ble_eq_true rfl⟩)
        dsimp only [Pt.U, Pt.locs, Pt.cells, Pt.slots] at X628 l628 y628 z628 st628 hQ628
        subst l628 y628 z628
        obtain ⟨b628, t628, k628, rfl, Nq628, K628, p628_0, p628_1, p628_2, p628_3, p628_4, p628_5⟩ := hQ628
        have N628 := Fr.app N608 Nq628
        have X628 : Stand p l e _ _ m _ below meth c T628 _ 25 92 := X628
        have C629 := C611.trans (CHr.keep K628 (sfS (Safe.exa hZ.alike A610 (by decide) (by decide)) sf0) C611.1)
        have O629 := O611.keep K628 (allS (Nat.le_trans Z609 sz_b610) all0)
        have Z629 : n0 ≤ T628.heap.size := Nat.le_trans Z611 K628.1
        refine gy (St T628 m 71 #[vi p1, vi p2, vi p3, vi bb340, vr b341, vr b343, vr b517, vr b519, vr b521, vr b608, .unset, .unset, .unset, .unset, .unset, .unset, .unset, .unset, .unset] [(.ref b610)]) (fun _ k => st628.trans k) ?_
        refine gy (St T628 m 73 #[vi p1, vi p2, vi p3, vi bb340, vr b341, vr b343, vr b517, vr b519, vr b521, vr b608, vr b610, .unset, .unset, .unset, .unset, .unset, .unset, .unset, .unset] []) (fun _ k => XS.astore X628.here hx rfl (dk at_71) rfl rfl (l' := #[vi p1, vi p2, vi p3, vi bb340, vr b341, vr b343, vr b517, vr b519, vr b521, vr b608, vr b610, .unset, .unset, .unset, .unset, .unset, .unset, .unset, .unset]) rfl k) ?_
        obtain ⟨T630, h630, X630, e630, E630, A630, D630, -, st630⟩ := newO X628 hx hZ hown (wd hw 54 rfl) (wd hw 55 rfl) (wd hw 56 rfl) rfl (g := (mkF m 73 #[vi p1, vi p2, vi p3, vi bb340, vr b341, vr b343, vr b517, vr b519, vr b521, vr b608, vr b610, .unset, .unset, .unset, .unset, .unset, .unset, .unset, .unset] [])) rfl (dk at_73) (by decide) (by decide)
        obtain ⟨b630, g630⟩ : ∃ z, z = T628.heap.size := ⟨_, rfl⟩
        rw [← g630] at A630 D630 st630
        have sz_b630 : T628.heap.size ≤ b630 := Nat.le_of_eq g630.symm
        have C631 := C629.trans (CHr.ext E630 C629.1)
        have O631 := O629.ext E630
        have Z631 : n0 ≤ h630.size := Nat.le_trans Z629 E630.1
        have F632 : Fld Z h630 b630 "com/example/breakwater/breakwater/engine/Address" "scope" "Ljava/lang/String;" .null := D630 (Or.inr (wd hw 186 rfl)) (ty := (.object "java/lang/String")) (by decide)
        have F633 : Fld Z h630 b630 "com/example/breakwater/breakwater/engine/Address" "service" "Ljava/lang/String;" .null := D630 (Or.inr (wd hw 188 rfl)) (ty := (.object "java/lang/String")) (by decide)
        have F634 : Fld Z h630 b630 "com/example/breakwater/breakwater/engine/Address" "endpoint" "Ljava/lang/String;" .null := D630 (Or.inr (wd hw 190 rfl)) (ty := (.object "java/lang/String")) (by decide)
        have F635 : Fld Z h630 b630 "com/example/breakwater/breakwater/engine/Address" "text" "Ljava/lang/String;" .null := D630 (Or.inr (wd hw 192 rfl)) (ty := (.object "java/lang/String")) (by decide)
        refine gy (St T630 m 76 #[vi p1, vi p2, vi p3, vi bb340, vr b341, vr b343, vr b517, vr b519, vr b521, vr b608, vr b610, .unset, .unset, .unset, .unset, .unset, .unset, .unset, .unset] [(.ref b630)]) st630 ?_
        refine gy (St T630 m 83 #[vi p1, vi p2, vi p3, vi bb340, vr b341, vr b343, vr b517, vr b519, vr b521, vr b608, vr b610, .unset, .unset, .unset, .unset, .unset, .unset, .unset, .unset] [(.ref b608), (.ref b521), (.ref b519), (.ref b630), (.ref b630)]) (fun _ k => XS.dup X630.here hx rfl (dk at_76) rfl rfl (XS.aload X630.here hx rfl (dk at_77) rfl rfl (XS.aload X630.here hx rfl (dk at_79) rfl rfl (XS.aload X630.here hx rfl (dk at_81) rfl rfl k)))) ?_
        have f636 := (((((p519_0.keep K521).keep K608).ext E610).keep K628).ext E630)
        have f637 := (((((p519_1.keep K521 nin0).keep K608 nin0).ext E610).keep K628 (ninS (Nat.ne_of_lt (Nat.lt_of_lt_of_le ((p519_0.keep K521).keep K608).lt sz_b610)) nin0)).ext E630)
        have f638 := (((((p519_2.keep K521 nin0).keep K608 nin0).ext E610).keep K628 (ninS (Nat.ne_of_lt (Nat.lt_of_lt_of_le ((p519_0.keep K521).keep K608).lt sz_b610)) nin0)).ext E630)
        have f639 := (((((p519_3.keep K521 nin0).keep K608 nin0).ext E610).keep K628 (ninS (Nat.ne_of_lt (Nat.lt_of_lt_of_le ((p519_3.keep K521 nin0).keep K608 nin0).lt sz_b610)) nin0)).ext E630)
        have f640 := ((((p521_0.keep K608).ext E610).keep K628).ext E630)
        have f641 := ((((p521_1.keep K608 nin0).ext E610).keep K628 (ninS (Nat.ne_of_lt (Nat.lt_of_lt_of_le (p521_0.keep K608).lt sz_b610)) nin0)).ext E630)
        have f642 := ((((p521_2.keep K608 nin0).ext E610).keep K628 (ninS (Nat.ne_of_lt (Nat.lt_of_lt_of_le (p521_0.keep K608).lt sz_b610)) nin0)).ext E630)
        have f643 := ((((p521_3.keep K608 nin0).ext E610).keep K628 (ninS (Nat.ne_of_lt (Nat.lt_of_lt_of_le (p521_3.keep K608 nin0).lt sz_b610)) nin0)).ext E630)
        have f644 := (((p608_0.ext E610).keep K628).ext E630)
        have f645 := (((p608_1.ext E610).keep K628 (ninS (Nat.ne_of_lt (Nat.lt_of_lt_of_le p608_0.lt sz_b610)) nin0)).ext E630)
        have f646 := (((p608_2.ext E610).keep K628 (ninS (Nat.ne_of_lt (Nat.lt_of_lt_of_le p608_0.lt sz_b610)) nin0)).ext E630)
        have f647 := (((p608_3.ext E610).keep K628 (ninS (Nat.ne_of_lt (Nat.lt_of_lt_of_le p608_3.lt sz_b610)) nin0)).ext E630)
        obtain ⟨_, _, ⟨T648, L648, k648, n648⟩, -, X648, ⟨Lc648, hQ648, l648, y648, z648⟩, st648⟩ := X630.specialBack hx (y := Y0) rfl hown (mvT hZ (wd hw 57 rfl)) (mvT hZ (wd hw 58 rfl)) (mvT hZ (wd hw 59 rfl)) (by decide) (backOf (W := 1) (rm_ad3s l Z a0 hw [] b630 b519 t519 k519 (own_nm bb340) b521 t521 k521 (own_nm ((bb340.toUInt32 >>> ((5 : Int32) &&& 31).toUInt32).toInt32)) b608 t608 k608 (own_en ((bb340.toUInt32 >>> ((10 : Int32) &&& 31).toUInt32).toInt32)) cs h630 n0 Z631 O631 pr1 hcs A630 F632 F633 F634 F635 (Nat.le_trans Z629 sz_b630) f636 f637 f638 f639 (own_nmL _) f640 f641 f642 f643 (own_nmL _) f644 f645 f646 f647 (own_enL _)) hZ (wd hw 59 rfl) (wd hw 56 rfl) (by decide) (by decide)) (g := (mkF m 83 #[vi p1, vi p2, vi p3, vi bb340, vr b341, vr b343, vr b517, vr b519, vr b521, vr b608, vr b610, .unset, .unset, .unset, .unset, .unset, .unset, .unset, .unset] [(.ref b608), (.ref b521), (.ref b519), (.ref b630), (.ref b630)])) rfl (by rw [hml]; rfl) (Steps.refl _) (a := b630) (argsL := [(.ref b519), (.ref b521), (.ref b608)]) (rest := [(.ref b630)]) (lenOf pd_32 rfl) rfl (by show 2 * 0 + _ ≤ _; exact Nat.le_of_eq rfl) (dk at_83) (fun _ _ => ⟨rfl, e630, Nat.le_of_ble_eq_true rfl, Nat.le_of_ble_eq_true rfl⟩)
        dsimp only [Pt.U, Pt.locs, Pt.cells, Pt.slots] at X648 l648 y648 z648 st648 hQ648
        subst l648 y648 z648
        obtain ⟨b648, t648, k648, rfl, Nq648, K648, p648_0, p648_1, p648_2, p648_3, p648_4, p648_5⟩ := hQ648
        have N648 := Fr.app N628 Nq648
        have X648 : Stand p l e _ _ m _ below meth c T648 _ 30 136 := X648
        have C649 := C631.trans (CHr.keep K648 (sfS (Safe.exa hZ.alike A630 (by decide) (by decide)) sf0) C631.1)
        have O649 := O631.keep K648 (allS (Nat.le_trans Z629 sz_b630) all0)
        have Z649 : n0 ≤ T648.heap.size := Nat.le_trans Z631 K648.1
        refine gy (St T648 m 86 #[vi p1, vi p2, vi p3, vi bb340, vr b341, vr b343, vr b517, vr b519, vr b521, vr b608, vr b610, .unset, .unset, .unset, .unset, .unset, .unset, .unset, .unset] [(.ref b630)]) (fun _ k => st648.trans k) ?_
        refine gy (St T648 m 88 #[vi p1, vi p2, vi p3, vi bb340, vr b341, vr b343, vr b517, vr b519, vr b521, vr b608, vr b610, vr b630, .unset, .unset, .unset, .unset, .unset, .unset, .unset] []) (fun _ k => XS.astore X648.here hx rfl (dk at_86) rfl rfl (l' := #[vi p1, vi p2, vi p3, vi bb340, vr b341, vr b343, vr b517, vr b519, vr b521, vr b608, vr b610, vr b630, .unset, .unset, .unset, .unset, .unset, .unset, .unset]) rfl k) ?_
        have e650 : T648.heap = T648.heap := rfl
        have J650 : ∀ (T651 : State) (lc651 : List Loc) (X651 : Stand p l e room_1 (s.setVm T608.vm) m #[(.int p1), (.int p2), (.int p3)] below meth c T651 lc651 30 136) (N651 : Fr n0 lc651) (e651 : T651.heap = T648.heap) (rf651 : Int32) (se651 : Int32) (hJ651 : (rf651 = (1 : Int32) ∧ (own_tS (own_nm p1) (own_nm ((p1.toUInt32 >>> ((5 : Int32) &&& 31).toUInt32).toInt32)) (own_en ((p1.toUInt32 >>> ((10 : Int32) &&& 31).toUInt32).toInt32))) = (own_tS (own_nm bb340) (own_nm ((bb340.toUInt32 >>> ((5 : Int32) &&& 31).toUInt32).toInt32)) (own_en ((bb340.toUInt32 >>> ((10 : Int32) &&& 31).toUInt32).toInt32)))) ∨ (rf651 = (0 : Int32) ∧ ¬ (own_tS (own_nm p1) (own_nm ((p1.toUInt32 >>> ((5 : Int32) &&& 31).toUInt32).toInt32)) (own_en ((p1.toUInt32 >>> ((10 : Int32) &&& 31).toUInt32).toInt32))) = (own_tS (own_nm bb340) (own_nm ((bb340.toUInt32 >>> ((5 : Int32) &&& 31).toUInt32).toInt32)) (own_en ((bb340.toUInt32 >>> ((10 : Int32) &&& 31).toUInt32).toInt32))))), Go p e below (PostS Z own_EL s room_1.cells room_1.slots (Q_rm0 Z p1 p2 p3 cs h0 n0)) (T651.setTop (mkF m 158 #[vi p1, vi p2, vi p3, vi bb340, vr b341, vr b343, vr b517, vr b519, vr b521, vr b608, vr b610, vr b630, vi se651, .unset, .unset, .unset, .unset, .unset, .unset] [(.int rf651)])) := by
          intro T651 lc651 X651 N651 e651 rf651 se651 hJ651
          rcases hJ651 with ⟨rfl, e652⟩ | ⟨rfl, e652⟩
          · skip
            refine gy (St T651 m 164 #[vi p1, vi p2, vi p3, vi bb340, vr b341, vr b343, vr b517, vr b519, vr b521, vr b608, vr b610, vr b630, vi se651, vi 1, .unset, .unset, .unset, .unset, .unset] [(.ref b630), (.ref b610)]) (fun _ k => XS.istore X651.here hx rfl (dk at_158) rfl (l' := #[vi p1, vi p2, vi p3, vi bb340, vr b341, vr b343, vr b517, vr b519, vr b521, vr b608, vr b610, vr b630, vi se651, vi 1, .unset, .unset, .unset, .unset, .unset]) rfl (XS.aload X651.here hx rfl (dk at_160) rfl rfl (XS.aload X651.here hx rfl (dk at_162) rfl rfl k))) ?_
            have f653 := ((p628_1.ext E630).keep K648 (ninS (Nat.ne_of_lt (Nat.lt_of_lt_of_le p628_0.lt sz_b630)) nin0))
            have f654 := ((p628_3.ext E630).keep K648 (ninS (Nat.ne_of_lt (Nat.lt_of_lt_of_le p628_2.lt sz_b630)) nin0))
            have f655 := ((p628_4.ext E630).keep K648 (ninS (Nat.ne_of_lt (Nat.lt_of_lt_of_le p628_2.lt sz_b630)) nin0))
            have f656 := ((p628_5.ext E630).keep K648 (ninS (Nat.ne_of_lt (Nat.lt_of_lt_of_le p628_5.lt sz_b630)) nin0))
            obtain ⟨cq657, kq657, q657a, q657b, q657c⟩ := isOf hZ e651 ((p628_0.ext E630).keep K648)
            obtain ⟨_, _, ⟨T657, L657, k657, n657⟩, -, X657, ⟨Lc657, hQ657, l657, y657, z657⟩, st657⟩ := X651.virtualBack hx (y := Y2) (z := Y2) hown (mvT hZ (wd hw 201 rfl)) (mvT hZ (wd hw 202 rfl)) (notFace_of_selects (args := #[]) (mvT hZ (wd hw 204 rfl))) (mvT hZ (wd hw 204 rfl)) (mvT hZ (wd hw 203 rfl)) (by decide) (backOf (W := 0) (rm_eq_i l Z a0 hw [] b610 b630 b628 t628 k628 (own_tS (own_nm p1) (own_nm ((p1.toUInt32 >>> ((5 : Int32) &&& 31).toUInt32).toInt32)) (own_en ((p1.toUInt32 >>> ((10 : Int32) &&& 31).toUInt32).toInt32))) b648 t648 k648 (own_tS (own_nm bb340) (own_nm ((bb340.toUInt32 >>> ((5 : Int32) &&& 31).toUInt32).toInt32)) (own_en ((bb340.toUInt32 >>> ((10 : Int32) &&& 31).toUInt32).toInt32))) cs T648.heap n0 Z649 O649 pr1 hcs ((p628_0.ext E630).keep K648) f653 ((p628_2.ext E630).keep K648) f654 f655 f656 (own_tS_ok _ _ _) p648_0 p648_1 p648_2 p648_3 p648_4 p648_5 (own_tS_ok _ _ _) (Nat.ne_of_lt (Nat.lt_of_lt_of_le p628_0.lt sz_b630))) hZ (wd hw 205 rfl) (wd hw 56 rfl) (by decide) (by decide)) q657a q657c (g := (mkF m 164 #[vi p1, vi p2, vi p3, vi bb340, vr b341, vr b343, vr b517, vr b519, vr b521, vr b608, vr b610, vr b630, vi se651, vi 1, .unset, .unset, .unset, .unset, .unset] [(.ref b630), (.ref b610)])) rfl (by rw [hml]; rfl) (Steps.refl _) (argsL := [(.ref b630)]) (rest := []) (lenOf pd_30 rfl) rfl (by show 2 * 0 + _ ≤ _; exact Nat.le_of_eq rfl) (dk at_164) (fun _ _ => ⟨rfl, e651, Nat.le_of_ble_eq_true rfl, Nat.le_of_ble_eq_true rfl⟩)
            dsimp only [Pt.U, Pt.locs, Pt.cells, Pt.slots] at X657 l657 y657 z657 st657 hQ657
            subst l657 y657 z657
            obtain ⟨v657, rfl, Nq657, hh657, p657_0⟩ := hQ657
            have N657 := Fr.app N651 Nq657
            have X657 : Stand p l e _ _ m _ below meth c T657 _ 30 136 := X657
            refine gy (St T657 m 167 #[vi p1, vi p2, vi p3, vi bb340, vr b341, vr b343, vr b517, vr b519, vr b521, vr b608, vr b610, vr b630, vi se651, vi 1, .unset, .unset, .unset, .unset, .unset] [(.int v657)]) (fun _ k => st657.trans k) ?_
            rcases p657_0 with ⟨rfl, e658⟩ | ⟨rfl, e658⟩
            · skip
              refine gy (St T657 m 173 #[vi p1, vi p2, vi p3, vi bb340, vr b341, vr b343, vr b517, vr b519, vr b521, vr b608, vr b610, vr b630, vi se651, vi 1, vi 1, .unset, .unset, .unset, .unset] [(.ref b610), (.ref b630)]) (fun _ k => XS.istore X657.here hx rfl (dk at_167) rfl (l' := #[vi p1, vi p2, vi p3, vi bb340, vr b341, vr b343, vr b517, vr b519, vr b521, vr b608, vr b610, vr b630, vi se651, vi 1, vi 1, .unset, .unset, .unset, .unset]) rfl (XS.aload X657.here hx rfl (dk at_169) rfl rfl (XS.aload X657.here hx rfl (dk at_171) rfl rfl k))) ?_
              obtain ⟨cq659, kq659, q659a, q659b, q659c⟩ := isOf hZ hh657 p648_0
              obtain ⟨_, _, ⟨T659, L659, k659, n659⟩, -, X659, ⟨Lc659, hQ659, l659, y659, z659⟩, st659⟩ := X657.virtualBack hx (y := Y2) (z := Y2) hown (mvT hZ (wd hw 201 rfl)) (mvT hZ (wd hw 202 rfl)) (notFace_of_selects (args := #[]) (mvT hZ (wd hw 204 rfl))) (mvT hZ (wd hw 204 rfl)) (mvT hZ (wd hw 203 rfl)) (by decide) (backOf (W := 0) (rm_eq_i l Z a0 hw [] b630 b610 b648 t648 k648 (own_tS (own_nm bb340) (own_nm ((bb340.toUInt32 >>> ((5 : Int32) &&& 31).toUInt32).toInt32)) (own_en ((bb340.toUInt32 >>> ((10 : Int32) &&& 31).toUInt32).toInt32))) b628 t628 k628 (own_tS (own_nm p1) (own_nm ((p1.toUInt32 >>> ((5 : Int32) &&& 31).toUInt32).toInt32)) (own_en ((p1.toUInt32 >>> ((10 : Int32) &&& 31).toUInt32).toInt32))) cs T648.heap n0 Z649 O649 pr1 hcs p648_0 p648_1 p648_2 p648_3 p648_4 p648_5 (own_tS_ok _ _ _) ((p628_0.ext E630).keep K648) f653 ((p628_2.ext E630).keep K648) f654 f655 f656 (own_tS_ok _ _ _) (Ne.symm (Nat.ne_of_lt (Nat.lt_of_lt_of_le p628_0.lt sz_b630)))) hZ (wd hw 205 rfl) (wd hw 56 rfl) (by decide) (by decide)) q659a q659c (g := (mkF m 173 #[vi p1, vi p2, vi p3, vi bb340, vr b341, vr b343, vr b517, vr b519, vr b521, vr b608, vr b610, vr b630, vi se651, vi 1, vi 1, .unset, .unset, .unset, .unset] [(.ref b610), (.ref b630)])) rfl (by rw [hml]; rfl) (Steps.refl _) (argsL := [(.ref b610)]) (rest := []) (lenOf pd_30 rfl) rfl (by show 2 * 0 + _ ≤ _; exact Nat.le_of_eq rfl) (dk at_173) (fun _ _ => ⟨rfl, hh657, Nat.le_of_ble_eq_true rfl, Nat.le_of_ble_eq_true rfl⟩)
              dsimp only [Pt.U, Pt.locs, Pt.cells, Pt.slots] at X659 l659 y659 z659 st659 hQ659
              subst l659 y659 z659
              obtain ⟨v659, rfl, Nq659, hh659, p659_0⟩ := hQ659
              have N659 := Fr.app N657 Nq659
              have X659 : Stand p l e _ _ m _ below meth c T659 _ 30 136 := X659
              refine gy (St T659 m 176 #[vi p1, vi p2, vi p3, vi bb340, vr b341, vr b343, vr b517, vr b519, vr b521, vr b608, vr b610, vr b630, vi se651, vi 1, vi 1, .unset, .unset, .unset, .unset] [(.int v659)]) (fun _ k => st659.trans k) ?_
              rcases p659_0 with ⟨rfl, e660⟩ | ⟨rfl, e660⟩
              · skip
                refine gy (St T659 m 182 #[vi p1, vi p2, vi p3, vi bb340, vr b341, vr b343, vr b517, vr b519, vr b521, vr b608, vr b610, vr b630, vi se651, vi 1, vi 1, vi 1, .unset, .unset, .unset] [(.ref b610), (.ref b610)]) (fun _ k => XS.istore X659.here hx rfl (dk at_176) rfl (l' := #[vi p1, vi p2, vi p3, vi bb340, vr b341, vr b343, vr b517, vr b519, vr b521, vr b608, vr b610, vr b630, vi se651, vi 1, vi 1, vi 1, .unset, .unset, .unset]) rfl (XS.aload X659.here hx rfl (dk at_178) rfl rfl (XS.aload X659.here hx rfl (dk at_180) rfl rfl k))) ?_
                obtain ⟨cq661, kq661, q661a, q661b, q661c⟩ := isOf hZ hh659 ((p628_0.ext E630).keep K648)
                obtain ⟨_, _, ⟨T661, L661, k661, n661⟩, -, X661, ⟨Lc661, hQ661, l661, y661, z661⟩, st661⟩ := X659.virtualBack hx (y := Y2) (z := Y2) hown (mvT hZ (wd hw 201 rfl)) (mvT hZ (wd hw 202 rfl)) (notFace_of_selects (args := #[]) (mvT hZ (wd hw 204 rfl))) (mvT hZ (wd hw 204 rfl)) (mvT hZ (wd hw 203 rfl)) (by decide) (backOf (W := 0) (rm_eq_s l Z a0 hw [] b610 T648.heap n0 Z649 ) hZ (wd hw 205 rfl) (wd hw 56 rfl) (by decide) (by decide)) q661a q661c (g := (mkF m 182 #[vi p1, vi p2, vi p3, vi bb340, vr b341, vr b343, vr b517, vr b519, vr b521, vr b608, vr b610, vr b630, vi se651, vi 1, vi 1, vi 1, .unset, .unset, .unset] [(.ref b610), (.ref b610)])) rfl (by rw [hml]; rfl) (Steps.refl _) (argsL := [(.ref b610)]) (rest := []) (lenOf pd_30 rfl) rfl (by show 2 * 0 + _ ≤ _; exact Nat.le_of_eq rfl) (dk at_182) (fun _ _ => ⟨rfl, hh659, Nat.le_of_ble_eq_true rfl, Nat.le_of_ble_eq_true rfl⟩)
                dsimp only [Pt.U, Pt.locs, Pt.cells, Pt.slots] at X661 l661 y661 z661 st661 hQ661
                subst l661 y661 z661
                obtain ⟨rfl, Nq661, hh661⟩ := hQ661
                have N661 := Fr.app N659 Nq661
                have X661 : Stand p l e _ _ m _ below meth c T661 _ 30 136 := X661
                refine gy (St T661 m 185 #[vi p1, vi p2, vi p3, vi bb340, vr b341, vr b343, vr b517, vr b519, vr b521, vr b608, vr b610, vr b630, vi se651, vi 1, vi 1, vi 1, .unset, .unset, .unset] [(.int 1)]) (fun _ k => st661.trans k) ?_
                refine gy (St T661 m 190 #[vi p1, vi p2, vi p3, vi bb340, vr b341, vr b343, vr b517, vr b519, vr b521, vr b608, vr b610, vr b630, vi se651, vi 1, vi 1, vi 1, vi 1, .unset, .unset] [.null, (.ref b610)]) (fun _ k => XS.istore X661.here hx rfl (dk at_185) rfl (l' := #[vi p1, vi p2, vi p3, vi bb340, vr b341, vr b343, vr b517, vr b519, vr b521, vr b608, vr b610, vr b630, vi se651, vi 1, vi 1, vi 1, vi 1, .unset, .unset]) rfl (XS.aload X661.here hx rfl (dk at_187) rfl rfl (XS.aconstNull X661.here hx rfl (dk at_189) k))) ?_
                obtain ⟨cq662, kq662, q662a, q662b, q662c⟩ := isOf hZ hh661 ((p628_0.ext E630).keep K648)
                obtain ⟨_, _, ⟨T662, L662, k662, n662⟩, -, X662, ⟨Lc662, hQ662, l662, y662, z662⟩, st662⟩ := X661.virtualBack hx (y := Y2) (z := Y2) hown (mvT hZ (wd hw 201 rfl)) (mvT hZ (wd hw 202 rfl)) (notFace_of_selects (args := #[]) (mvT hZ (wd hw 204 rfl))) (mvT hZ (wd hw 204 rfl)) (mvT hZ (wd hw 203 rfl)) (by decide) (backOf (W := 0) (rm_eq_n l Z a0 hw [] b610 T648.heap n0 Z649 ) hZ (wd hw 205 rfl) (wd hw 56 rfl) (by decide) (by decide)) q662a q662c (g := (mkF m 190 #[vi p1, vi p2, vi p3, vi bb340, vr b341, vr b343, vr b517, vr b519, vr b521, vr b608, vr b610, vr b630, vi se651, vi 1, vi 1, vi 1, vi 1, .unset, .unset] [.null, (.ref b610)])) rfl (by rw [hml]; rfl) (Steps.refl _) (argsL := [.null]) (rest := []) (lenOf pd_30 rfl) rfl (by show 2 * 0 + _ ≤ _; exact Nat.le_of_eq rfl) (dk at_190) (fun _ _ => ⟨rfl, hh661, Nat.le_of_ble_eq_true rfl, Nat.le_of_ble_eq_true rfl⟩)
                dsimp only [Pt.U, Pt.locs, Pt.cells, Pt.slots] at X662 l662 y662 z662 st662 hQ662
                subst l662 y662 z662
                obtain ⟨rfl, Nq662, hh662⟩ := hQ662
                have N662 := Fr.app N661 Nq662
                have X662 : Stand p l e _ _ m _ below meth c T662 _ 30 136 := X662
                refine gy (St T662 m 193 #[vi p1, vi p2, vi p3, vi bb340, vr b341, vr b343, vr b517, vr b519, vr b521, vr b608, vr b610, vr b630, vi se651, vi 1, vi 1, vi 1, vi 1, .unset, .unset] [(.int 0)]) (fun _ k => st662.trans k) ?_
                refine gy (St T662 m 199 #[vi p1, vi p2, vi p3, vi bb340, vr b341, vr b343, vr b517, vr b519, vr b521, vr b608, vr b610, vr b630, vi se651, vi 1, vi 1, vi 1, vi 1, vi 0, .unset] [(.ref b341), (.ref b610)]) (fun _ k => XS.istore X662.here hx rfl (dk at_193) rfl (l' := #[vi p1, vi p2, vi p3, vi bb340, vr b341, vr b343, vr b517, vr b519, vr b521, vr b608, vr b610, vr b630, vi se651, vi 1, vi 1, vi 1, vi 1, vi 0, .unset]) rfl (XS.aload X662.here hx rfl (dk at_195) rfl rfl (XS.aload X662.here hx rfl (dk at_197) rfl rfl k))) ?_
                have f663 := (((f616.keep K628).ext E630).keep K648)
                obtain ⟨cq664, kq664, q664a, q664b, q664c⟩ := isOf hZ hh662 ((p628_0.ext E630).keep K648)
                obtain ⟨_, _, ⟨T664, L664, k664, n664⟩, -, X664, ⟨Lc664, hQ664, l664, y664, z664⟩, st664⟩ := X662.virtualBack hx (y := Y2) (z := Y2) hown (mvT hZ (wd hw 201 rfl)) (mvT hZ (wd hw 202 rfl)) (notFace_of_selects (args := #[]) (mvT hZ (wd hw 204 rfl))) (mvT hZ (wd hw 204 rfl)) (mvT hZ (wd hw 203 rfl)) (by decide) (backOf (W := 0) (rm_eq_o l Z a0 hw [] b610 b341 T648.heap n0 Z649 ((p628_0.ext E630).keep K648) f663) hZ (wd hw 205 rfl) (wd hw 56 rfl) (by decide) (by decide)) q664a q664c (g := (mkF m 199 #[vi p1, vi p2, vi p3, vi bb340, vr b341, vr b343, vr b517, vr b519, vr b521, vr b608, vr b610, vr b630, vi se651, vi 1, vi 1, vi 1, vi 1, vi 0, .unset] [(.ref b341), (.ref b610)])) rfl (by rw [hml]; rfl) (Steps.refl _) (argsL := [(.ref b341)]) (rest := []) (lenOf pd_30 rfl) rfl (by show 2 * 0 + _ ≤ _; exact Nat.le_of_eq rfl) (dk at_199) (fun _ _ => ⟨rfl, hh662, Nat.le_of_ble_eq_true rfl, Nat.le_of_ble_eq_true rfl⟩)
                dsimp only [Pt.U, Pt.locs, Pt.cells, Pt.slots] at X664 l664 y664 z664 st664 hQ664
                subst l664 y664 z664
                obtain ⟨rfl, Nq664, hh664⟩ := hQ664
                have N664 := Fr.app N662 Nq664
                have X664 : Stand p l e _ _ m _ below meth c T664 _ 30 136 := X664
                refine gy (St T664 m 202 #[vi p1, vi p2, vi p3, vi bb340, vr b341, vr b343, vr b517, vr b519, vr b521, vr b608, vr b610, vr b630, vi se651, vi 1, vi 1, vi 1, vi 1, vi 0, .unset] [(.int 0)]) (fun _ k => st664.trans k) ?_
                refine gy (St T664 m 220 #[vi p1, vi p2, vi p3, vi bb340, vr b341, vr b343, vr b517, vr b519, vr b521, vr b608, vr b610, vr b630, vi se651, vi 1, vi 1, vi 1, vi 1, vi 0, vi 0] [(.int 1)]) (fun _ k => XS.istore X664.here hx rfl (dk at_202) rfl (l' := #[vi p1, vi p2, vi p3, vi bb340, vr b341, vr b343, vr b517, vr b519, vr b521, vr b608, vr b610, vr b630, vi se651, vi 1, vi 1, vi 1, vi 1, vi 0, vi 0]) rfl (XS.iload X664.here hx rfl (dk at_204) rfl (XS.iload X664.here hx rfl (dk at_206) rfl (XS.icmpNo X664.here hx rfl (dk at_208) rfl (teq (by decide : (1 : Int32) = (1 : Int32))).2 (XS.iload X664.here hx rfl (dk at_211) rfl (XS.iload X664.here hx rfl (dk at_213) rfl (XS.icmpNo X664.here hx rfl (dk at_215) rfl (teq (by decide : (1 : Int32) = (1 : Int32))).2 (XS.iload X664.here hx rfl (dk at_218) rfl k)))))))) ?_
                refine gy (St T664 m 238 #[vi p1, vi p2, vi p3, vi bb340, vr b341, vr b343, vr b517, vr b519, vr b521, vr b608, vr b610, vr b630, vi se651, vi 1, vi 1, vi 1, vi 1, vi 0, vi 0] [(.int 1)]) (fun _ k => XS.ifNo X664.here hx rfl (dk at_220) rfl ((if0 _ _).trans (feq (by decide : ¬ ((1 : Int32) = (0 : Int32)))).1) (XS.iload X664.here hx rfl (dk at_223) rfl (XS.ifNo X664.here hx rfl (dk at_225) rfl ((if0 _ _).trans (teq (by decide : (0 : Int32) = (0 : Int32))).2) (XS.iload X664.here hx rfl (dk at_228) rfl (XS.ifNo X664.here hx rfl (dk at_230) rfl ((if0 _ _).trans (teq (by decide : (0 : Int32) = (0 : Int32))).2) (XS.iconst X664.here hx rfl (dk at_233) (XS.goto X664.here hx rfl (pc0 := 234) (pc' := 238) rfl (dk at_234) (by decide) (by decide) k))))))) ?_
                have hkE665 : _ ≤ T664.heap.size := (by rw [hh664]; exact (Nat.le_trans (Nat.le_trans (Nat.le_trans (Nat.le_trans hk E610.1) K628.1) E630.1) K648.1))
                have CE665 : CHr Z own_EL s.vm s.heap T608.vm T664.heap := (by rw [hh664]; exact C649)
                refine Go.retS X664 hx hlk hS hkE665 hZ hEL CE665 (t := .boolean) hret rfl (Or.inl ⟨rfl, by simp, _, rfl⟩) (dk at_238) (by decide) (by decide) ?_
                exact ⟨rfl, N664⟩
              · skip
                exact absurd (e658).symm e660
            · skip
              exact absurd e652 e658
          · skip
            refine gy (St T651 m 164 #[vi p1, vi p2, vi p3, vi bb340, vr b341, vr b343, vr b517, vr b519, vr b521, vr b608, vr b610, vr b630, vi se651, vi 0, .unset, .unset, .unset, .unset, .unset] [(.ref b630), (.ref b610)]) (fun _ k => XS.istore X651.here hx rfl (dk at_158) rfl (l' := #[vi p1, vi p2, vi p3, vi bb340, vr b341, vr b343, vr b517, vr b519, vr b521, vr b608, vr b610, vr b630, vi se651, vi 0, .unset, .unset, .unset, .unset, .unset]) rfl (XS.aload X651.here hx rfl (dk at_160) rfl rfl (XS.aload X651.here hx rfl (dk at_162) rfl rfl k))) ?_
            have f666 := ((p628_1.ext E630).keep K648 (ninS (Nat.ne_of_lt (Nat.lt_of_lt_of_le p628_0.lt sz_b630)) nin0))
            have f667 := ((p628_3.ext E630).keep K648 (ninS (Nat.ne_of_lt (Nat.lt_of_lt_of_le p628_2.lt sz_b630)) nin0))
            have f668 := ((p628_4.ext E630).keep K648 (ninS (Nat.ne_of_lt (Nat.lt_of_lt_of_le p628_2.lt sz_b630)) nin0))
            have f669 := ((p628_5.ext E630).keep K648 (ninS (Nat.ne_of_lt (Nat.lt_of_lt_of_le p628_5.lt sz_b630)) nin0))
            obtain ⟨cq670, kq670, q670a, q670b, q670c⟩ := isOf hZ e651 ((p628_0.ext E630).keep K648)
            obtain ⟨_, _, ⟨T670, L670, k670, n670⟩, -, X670, ⟨Lc670, hQ670, l670, y670, z670⟩, st670⟩ := X651.virtualBack hx (y := Y2) (z := Y2) hown (mvT hZ (wd hw 201 rfl)) (mvT hZ (wd hw 202 rfl)) (notFace_of_selects (args := #[]) (mvT hZ (wd hw 204 rfl))) (mvT hZ (wd hw 204 rfl)) (mvT hZ (wd hw 203 rfl)) (by decide) (backOf (W := 0) (rm_eq_i l Z a0 hw [] b610 b630 b628 t628 k628 (own_tS (own_nm p1) (own_nm ((p1.toUInt32 >>> ((5 : Int32) &&& 31).toUInt32).toInt32)) (own_en ((p1.toUInt32 >>> ((10 : Int32) &&& 31).toUInt32).toInt32))) b648 t648 k648 (own_tS (own_nm bb340) (own_nm ((bb340.toUInt32 >>> ((5 : Int32) &&& 31).toUInt32).toInt32)) (own_en ((bb340.toUInt32 >>> ((10 : Int32) &&& 31).toUInt32).toInt32))) cs T648.heap n0 Z649 O649 pr1 hcs ((p628_0.ext E630).keep K648) f666 ((p628_2.ext E630).keep K648) f667 f668 f669 (own_tS_ok _ _ _) p648_0 p648_1 p648_2 p648_3 p648_4 p648_5 (own_tS_ok _ _ _) (Nat.ne_of_lt (Nat.lt_of_lt_of_le p628_0.lt sz_b630))) hZ (wd hw 205 rfl) (wd hw 56 rfl) (by decide) (by decide)) q670a q670c (g := (mkF m 164 #[vi p1, vi p2, vi p3, vi bb340, vr b341, vr b343, vr b517, vr b519, vr b521, vr b608, vr b610, vr b630, vi se651, vi 0, .unset, .unset, .unset, .unset, .unset] [(.ref b630), (.ref b610)])) rfl (by rw [hml]; rfl) (Steps.refl _) (argsL := [(.ref b630)]) (rest := []) (lenOf pd_30 rfl) rfl (by show 2 * 0 + _ ≤ _; exact Nat.le_of_eq rfl) (dk at_164) (fun _ _ => ⟨rfl, e651, Nat.le_of_ble_eq_true rfl, Nat.le_of_ble_eq_true rfl⟩)
            dsimp only [Pt.U, Pt.locs, Pt.cells, Pt.slots] at X670 l670 y670 z670 st670 hQ670
            subst l670 y670 z670
            obtain ⟨v670, rfl, Nq670, hh670, p670_0⟩ := hQ670
            have N670 := Fr.app N651 Nq670
            have X670 : Stand p l e _ _ m _ below meth c T670 _ 30 136 := X670
            refine gy (St T670 m 167 #[vi p1, vi p2, vi p3, vi bb340, vr b341, vr b343, vr b517, vr b519, vr b521, vr b608, vr b610, vr b630, vi se651, vi 0, .unset, .unset, .unset, .unset, .unset] [(.int v670)]) (fun _ k => st670.trans k) ?_
            rcases p670_0 with ⟨rfl, e671⟩ | ⟨rfl, e671⟩
            · skip
              exact absurd e671 e652
            · skip
              refine gy (St T670 m 173 #[vi p1, vi p2, vi p3, vi bb340, vr b341, vr b343, vr b517, vr b519, vr b521, vr b608, vr b610, vr b630, vi se651, vi 0, vi 0, .unset, .unset, .unset, .unset] [(.ref b610), (.ref b630)]) (fun _ k => XS.istore X670.here hx rfl (dk at_167) rfl (l' := #[vi p1, vi p2, vi p3, vi bb340, vr b341, vr b343, vr b517, vr b519, vr b521, vr b608, vr b610, vr b630, vi se651, vi 0, vi 0, .unset, .unset, .unset, .unset]) rfl (XS.aload X670.here hx rfl (dk at_169) rfl rfl (XS.aload X670.here hx rfl (dk at_171) rfl rfl k))) ?_
              obtain ⟨cq672, kq672, q672a, q672b, q672c⟩ := isOf hZ hh670 p648_0
              obtain ⟨_, _, ⟨T672, L672, k672, n672⟩, -, X672, ⟨Lc672, hQ672, l672, y672, z672⟩, st672⟩ := X670.virtualBack hx (y := Y2) (z := Y2) hown (mvT hZ (wd hw 201 rfl)) (mvT hZ (wd hw 202 rfl)) (notFace_of_selects (args := #[]) (mvT hZ (wd hw 204 rfl))) (mvT hZ (wd hw 204 rfl)) (mvT hZ (wd hw 203 rfl)) (by decide) (backOf (W := 0) (rm_eq_i l Z a0 hw [] b630 b610 b648 t648 k648 (own_tS (own_nm bb340) (own_nm ((bb340.toUInt32 >>> ((5 : Int32) &&& 31).toUInt32).toInt32)) (own_en ((bb340.toUInt32 >>> ((10 : Int32) &&& 31).toUInt32).toInt32))) b628 t628 k628 (own_tS (own_nm p1) (own_nm ((p1.toUInt32 >>> ((5 : Int32) &&& 31).toUInt32).toInt32)) (own_en ((p1.toUInt32 >>> ((10 : Int32) &&& 31).toUInt32).toInt32))) cs T648.heap n0 Z649 O649 pr1 hcs p648_0 p648_1 p648_2 p648_3 p648_4 p648_5 (own_tS_ok _ _ _) ((p628_0.ext E630).keep K648) f666 ((p628_2.ext E630).keep K648) f667 f668 f669 (own_tS_ok _ _ _) (Ne.symm (Nat.ne_of_lt (Nat.lt_of_lt_of_le p628_0.lt sz_b630)))) hZ (wd hw 205 rfl) (wd hw 56 rfl) (by decide) (by decide)) q672a q672c (g := (mkF m 173 #[vi p1, vi p2, vi p3, vi bb340, vr b341, vr b343, vr b517, vr b519, vr b521, vr b608, vr b610, vr b630, vi se651, vi 0, vi 0, .unset, .unset, .unset, .unset] [(.ref b610), (.ref b630)])) rfl (by rw [hml]; rfl) (Steps.refl _) (argsL := [(.ref b610)]) (rest := []) (lenOf pd_30 rfl) rfl (by show 2 * 0 + _ ≤ _; exact Nat.le_of_eq rfl) (dk at_173) (fun _ _ => ⟨rfl, hh670, Nat.le_of_ble_eq_true rfl, Nat.le_of_ble_eq_true rfl⟩)
              dsimp only [Pt.U, Pt.locs, Pt.cells, Pt.slots] at X672 l672 y672 z672 st672 hQ672
              subst l672 y672 z672
              obtain ⟨v672, rfl, Nq672, hh672, p672_0⟩ := hQ672
              have N672 := Fr.app N670 Nq672
              have X672 : Stand p l e _ _ m _ below meth c T672 _ 30 136 := X672
              refine gy (St T672 m 176 #[vi p1, vi p2, vi p3, vi bb340, vr b341, vr b343, vr b517, vr b519, vr b521, vr b608, vr b610, vr b630, vi se651, vi 0, vi 0, .unset, .unset, .unset, .unset] [(.int v672)]) (fun _ k => st672.trans k) ?_
              rcases p672_0 with ⟨rfl, e673⟩ | ⟨rfl, e673⟩
              · skip
                exact absurd (e673).symm e671
              · skip
                refine gy (St T672 m 182 #[vi p1, vi p2, vi p3, vi bb340, vr b341, vr b343, vr b517, vr b519, vr b521, vr b608, vr b610, vr b630, vi se651, vi 0, vi 0, vi 0, .unset, .unset, .unset] [(.ref b610), (.ref b610)]) (fun _ k => XS.istore X672.here hx rfl (dk at_176) rfl (l' := #[vi p1, vi p2, vi p3, vi bb340, vr b341, vr b343, vr b517, vr b519, vr b521, vr b608, vr b610, vr b630, vi se651, vi 0, vi 0, vi 0, .unset, .unset, .unset]) rfl (XS.aload X672.here hx rfl (dk at_178) rfl rfl (XS.aload X672.here hx rfl (dk at_180) rfl rfl k))) ?_
                obtain ⟨cq674, kq674, q674a, q674b, q674c⟩ := isOf hZ hh672 ((p628_0.ext E630).keep K648)
                obtain ⟨_, _, ⟨T674, L674, k674, n674⟩, -, X674, ⟨Lc674, hQ674, l674, y674, z674⟩, st674⟩ := X672.virtualBack hx (y := Y2) (z := Y2) hown (mvT hZ (wd hw 201 rfl)) (mvT hZ (wd hw 202 rfl)) (notFace_of_selects (args := #[]) (mvT hZ (wd hw 204 rfl))) (mvT hZ (wd hw 204 rfl)) (mvT hZ (wd hw 203 rfl)) (by decide) (backOf (W := 0) (rm_eq_s l Z a0 hw [] b610 T648.heap n0 Z649 ) hZ (wd hw 205 rfl) (wd hw 56 rfl) (by decide) (by decide)) q674a q674c (g := (mkF m 182 #[vi p1, vi p2, vi p3, vi bb340, vr b341, vr b343, vr b517, vr b519, vr b521, vr b608, vr b610, vr b630, vi se651, vi 0, vi 0, vi 0, .unset, .unset, .unset] [(.ref b610), (.ref b610)])) rfl (by rw [hml]; rfl) (Steps.refl _) (argsL := [(.ref b610)]) (rest := []) (lenOf pd_30 rfl) rfl (by show 2 * 0 + _ ≤ _; exact Nat.le_of_eq rfl) (dk at_182) (fun _ _ => ⟨rfl, hh672, Nat.le_of_ble_eq_true rfl, Nat.le_of_ble_eq_true rfl⟩)
                dsimp only [Pt.U, Pt.locs, Pt.cells, Pt.slots] at X674 l674 y674 z674 st674 hQ674
                subst l674 y674 z674
                obtain ⟨rfl, Nq674, hh674⟩ := hQ674
                have N674 := Fr.app N672 Nq674
                have X674 : Stand p l e _ _ m _ below meth c T674 _ 30 136 := X674
                refine gy (St T674 m 185 #[vi p1, vi p2, vi p3, vi bb340, vr b341, vr b343, vr b517, vr b519, vr b521, vr b608, vr b610, vr b630, vi se651, vi 0, vi 0, vi 0, .unset, .unset, .unset] [(.int 1)]) (fun _ k => st674.trans k) ?_
                refine gy (St T674 m 190 #[vi p1, vi p2, vi p3, vi bb340, vr b341, vr b343, vr b517, vr b519, vr b521, vr b608, vr b610, vr b630, vi se651, vi 0, vi 0, vi 0, vi 1, .unset, .unset] [.null, (.ref b610)]) (fun _ k => XS.istore X674.here hx rfl (dk at_185) rfl (l' := #[vi p1, vi p2, vi p3, vi bb340, vr b341, vr b343, vr b517, vr b519, vr b521, vr b608, vr b610, vr b630, vi se651, vi 0, vi 0, vi 0, vi 1, .unset, .unset]) rfl (XS.aload X674.here hx rfl (dk at_187) rfl rfl (XS.aconstNull X674.here hx rfl (dk at_189) k))) ?_
                obtain ⟨cq675, kq675, q675a, q675b, q675c⟩ := isOf hZ hh674 ((p628_0.ext E630).keep K648)
                obtain ⟨_, _, ⟨T675, L675, k675, n675⟩, -, X675, ⟨Lc675, hQ675, l675, y675, z675⟩, st675⟩ := X674.virtualBack hx (y := Y2) (z := Y2) hown (mvT hZ (wd hw 201 rfl)) (mvT hZ (wd hw 202 rfl)) (notFace_of_selects (args := #[]) (mvT hZ (wd hw 204 rfl))) (mvT hZ (wd hw 204 rfl)) (mvT hZ (wd hw 203 rfl)) (by decide) (backOf (W := 0) (rm_eq_n l Z a0 hw [] b610 T648.heap n0 Z649 ) hZ (wd hw 205 rfl) (wd hw 56 rfl) (by decide) (by decide)) q675a q675c (g := (mkF m 190 #[vi p1, vi p2, vi p3, vi bb340, vr b341, vr b343, vr b517, vr b519, vr b521, vr b608, vr b610, vr b630, vi se651, vi 0, vi 0, vi 0, vi 1, .unset, .unset] [.null, (.ref b610)])) rfl (by rw [hml]; rfl) (Steps.refl _) (argsL := [.null]) (rest := []) (lenOf pd_30 rfl) rfl (by show 2 * 0 + _ ≤ _; exact Nat.le_of_eq rfl) (dk at_190) (fun _ _ => ⟨rfl, hh674, Nat.le_of_ble_eq_true rfl, Nat.le_of_ble_eq_true rfl⟩)
                dsimp only [Pt.U, Pt.locs, Pt.cells, Pt.slots] at X675 l675 y675 z675 st675 hQ675
                subst l675 y675 z675
                obtain ⟨rfl, Nq675, hh675⟩ := hQ675
                have N675 := Fr.app N674 Nq675
                have X675 : Stand p l e _ _ m _ below meth c T675 _ 30 136 := X675
                refine gy (St T675 m 193 #[vi p1, vi p2, vi p3, vi bb340, vr b341, vr b343, vr b517, vr b519, vr b521, vr b608, vr b610, vr b630, vi se651, vi 0, vi 0, vi 0, vi 1, .unset, .unset] [(.int 0)]) (fun _ k => st675.trans k) ?_
                refine gy (St T675 m 199 #[vi p1, vi p2, vi p3, vi bb340, vr b341, vr b343, vr b517, vr b519, vr b521, vr b608, vr b610, vr b630, vi se651, vi 0, vi 0, vi 0, vi 1, vi 0, .unset] [(.ref b341), (.ref b610)]) (fun _ k => XS.istore X675.here hx rfl (dk at_193) rfl (l' := #[vi p1, vi p2, vi p3, vi bb340, vr b341, vr b343, vr b517, vr b519, vr b521, vr b608, vr b610, vr b630, vi se651, vi 0, vi 0, vi 0, vi 1, vi 0, .unset]) rfl (XS.aload X675.here hx rfl (dk at_195) rfl rfl (XS.aload X675.here hx rfl (dk at_197) rfl rfl k))) ?_
                have f676 := (((f616.keep K628).ext E630).keep K648)
                obtain ⟨cq677, kq677, q677a, q677b, q677c⟩ := isOf hZ hh675 ((p628_0.ext E630).keep K648)
                obtain ⟨_, _, ⟨T677, L677, k677, n677⟩, -, X677, ⟨Lc677, hQ677, l677, y677, z677⟩, st677⟩ := X675.virtualBack hx (y := Y2) (z := Y2) hown (mvT hZ (wd hw 201 rfl)) (mvT hZ (wd hw 202 rfl)) (notFace_of_selects (args := #[]) (mvT hZ (wd hw 204 rfl))) (mvT hZ (wd hw 204 rfl)) (mvT hZ (wd hw 203 rfl)) (by decide) (backOf (W := 0) (rm_eq_o l Z a0 hw [] b610 b341 T648.heap n0 Z649 ((p628_0.ext E630).keep K648) f676) hZ (wd hw 205 rfl) (wd hw 56 rfl) (by decide) (by decide)) q677a q677c (g := (mkF m 199 #[vi p1, vi p2, vi p3, vi bb340, vr b341, vr b343, vr b517, vr b519, vr b521, vr b608, vr b610, vr b630, vi se651, vi 0, vi 0, vi 0, vi 1, vi 0, .unset] [(.ref b341), (.ref b610)])) rfl (by rw [hml]; rfl) (Steps.refl _) (argsL := [(.ref b341)]) (rest := []) (lenOf pd_30 rfl) rfl (by show 2 * 0 + _ ≤ _; exact Nat.le_of_eq rfl) (dk at_199) (fun _ _ => ⟨rfl, hh675, Nat.le_of_ble_eq_true rfl, Nat.le_of_ble_eq_true rfl⟩)
                dsimp only [Pt.U, Pt.locs, Pt.cells, Pt.slots] at X677 l677 y677 z677 st677 hQ677
                subst l677 y677 z677
                obtain ⟨rfl, Nq677, hh677⟩ := hQ677
                have N677 := Fr.app N675 Nq677
                have X677 : Stand p l e _ _ m _ below meth c T677 _ 30 136 := X677
                refine gy (St T677 m 202 #[vi p1, vi p2, vi p3, vi bb340, vr b341, vr b343, vr b517, vr b519, vr b521, vr b608, vr b610, vr b630, vi se651, vi 0, vi 0, vi 0, vi 1, vi 0, .unset] [(.int 0)]) (fun _ k => st677.trans k) ?_
                refine gy (St T677 m 220 #[vi p1, vi p2, vi p3, vi bb340, vr b341, vr b343, vr b517, vr b519, vr b521, vr b608, vr b610, vr b630, vi se651, vi 0, vi 0, vi 0, vi 1, vi 0, vi 0] [(.int 1)]) (fun _ k => XS.istore X677.here hx rfl (dk at_202) rfl (l' := #[vi p1, vi p2, vi p3, vi bb340, vr b341, vr b343, vr b517, vr b519, vr b521, vr b608, vr b610, vr b630, vi se651, vi 0, vi 0, vi 0, vi 1, vi 0, vi 0]) rfl (XS.iload X677.here hx rfl (dk at_204) rfl (XS.iload X677.here hx rfl (dk at_206) rfl (XS.icmpNo X677.here hx rfl (dk at_208) rfl (teq (by decide : (0 : Int32) = (0 : Int32))).2 (XS.iload X677.here hx rfl (dk at_211) rfl (XS.iload X677.here hx rfl (dk at_213) rfl (XS.icmpNo X677.here hx rfl (dk at_215) rfl (teq (by decide : (0 : Int32) = (0 : Int32))).2 (XS.iload X677.here hx rfl (dk at_218) rfl k)))))))) ?_
                refine gy (St T677 m 238 #[vi p1, vi p2, vi p3, vi bb340, vr b341, vr b343, vr b517, vr b519, vr b521, vr b608, vr b610, vr b630, vi se651, vi 0, vi 0, vi 0, vi 1, vi 0, vi 0] [(.int 1)]) (fun _ k => XS.ifNo X677.here hx rfl (dk at_220) rfl ((if0 _ _).trans (feq (by decide : ¬ ((1 : Int32) = (0 : Int32)))).1) (XS.iload X677.here hx rfl (dk at_223) rfl (XS.ifNo X677.here hx rfl (dk at_225) rfl ((if0 _ _).trans (teq (by decide : (0 : Int32) = (0 : Int32))).2) (XS.iload X677.here hx rfl (dk at_228) rfl (XS.ifNo X677.here hx rfl (dk at_230) rfl ((if0 _ _).trans (teq (by decide : (0 : Int32) = (0 : Int32))).2) (XS.iconst X677.here hx rfl (dk at_233) (XS.goto X677.here hx rfl (pc0 := 234) (pc' := 238) rfl (dk at_234) (by decide) (by decide) k))))))) ?_
                have hkE678 : _ ≤ T677.heap.size := (by rw [hh677]; exact (Nat.le_trans (Nat.le_trans (Nat.le_trans (Nat.le_trans hk E610.1) K628.1) E630.1) K648.1))
                have CE678 : CHr Z own_EL s.vm s.heap T608.vm T677.heap := (by rw [hh677]; exact C649)
                refine Go.retS X677 hx hlk hS hkE678 hZ hEL CE678 (t := .boolean) hret rfl (Or.inl ⟨rfl, by simp, _, rfl⟩) (dk at_238) (by decide) (by decide) ?_
                exact ⟨rfl, N677⟩
        refine gy (St T648 m 115 #[vi p1, vi p2, vi p3, vi bb340, vr b341, vr b343, vr b517, vr b519, vr b521, vr b608, vr b610, vr b630, .unset, .unset, .unset, .unset, .unset, .unset, .unset] [(.ref b608), (.ref b517)]) (fun _ k => XS.aload X648.here hx rfl (dk at_88) rfl rfl (XS.ifnonnullYes X648.here hx rfl (pc0 := 90) (pc' := 106) rfl (dk at_90) rfl (by decide) (by decide) (XS.aload X648.here hx rfl (dk at_106) rfl rfl (XS.ifnullNo X648.here hx rfl (dk at_108) rfl (XS.aload X648.here hx rfl (dk at_111) rfl rfl (XS.aload X648.here hx rfl (dk at_113) rfl rfl k)))))) ?_
        have f680 := (((f624.keep K628).ext E630).keep K648)
        have f681 := (((f625.keep K628 (ninS (Nat.ne_of_lt (Nat.lt_of_lt_of_le (((p517_0.keep K519).keep K521).keep K608).lt sz_b610)) nin0)).ext E630).keep K648 (ninS (Nat.ne_of_lt (Nat.lt_of_lt_of_le (f624.keep K628).lt sz_b630)) nin0))
        have f682 := (((f626.keep K628 (ninS (Nat.ne_of_lt (Nat.lt_of_lt_of_le (((p517_0.keep K519).keep K521).keep K608).lt sz_b610)) nin0)).ext E630).keep K648 (ninS (Nat.ne_of_lt (Nat.lt_of_lt_of_le (f624.keep K628).lt sz_b630)) nin0))
        have f683 := (((f627.keep K628 (ninS (Nat.ne_of_lt (Nat.lt_of_lt_of_le (((p517_3.keep K519 nin0).keep K521 nin0).keep K608 nin0).lt sz_b610)) nin0)).ext E630).keep K648 (ninS (Nat.ne_of_lt (Nat.lt_of_lt_of_le (f627.keep K628 (ninS (Nat.ne_of_lt (Nat.lt_of_lt_of_le (((p517_3.keep K519 nin0).keep K521 nin0).keep K608 nin0).lt sz_b610)) nin0)).lt sz_b630)) nin0))
        have f684 := (f645.keep K648 (ninS (Nat.ne_of_lt (Nat.lt_of_lt_of_le ((p608_0.ext E610).keep K628).lt sz_b630)) nin0))
        have f685 := (f646.keep K648 (ninS (Nat.ne_of_lt (Nat.lt_of_lt_of_le ((p608_0.ext E610).keep K628).lt sz_b630)) nin0))
        have f686 := (f647.keep K648 (ninS (Nat.ne_of_lt (Nat.lt_of_lt_of_le ((p608_3.ext E610).keep K628 (ninS (Nat.ne_of_lt (Nat.lt_of_lt_of_le p608_3.lt sz_b610)) nin0)).lt sz_b630)) nin0))
        obtain ⟨cq679, kq679, q679a, q679b, q679c⟩ := isOf hZ e650 f680
        obtain ⟨_, _, ⟨T679, L679, k679, n679⟩, -, X679, ⟨Lc679, hQ679, l679, y679, z679⟩, st679⟩ := X648.virtualBack hx (y := Y23) (z := Y23) hown (mvT hZ (wd hw 193 rfl)) (mvT hZ (wd hw 194 rfl)) (notFace_of_selects (args := #[]) (mvT hZ (wd hw 196 rfl))) (mvT hZ (wd hw 196 rfl)) (mvT hZ (wd hw 195 rfl)) (by decide) (StrChars.Road.eqW (W := 0) hZ (own_heq hw) (kI := 4) (wd hw 17 rfl) f680 f681 f682 f683 (own_cod (own_en_ok _)) (own_up (own_en_ok _)) (own_en_ok _).2 (f644.keep K648) f684 f685 f686 (own_cod (own_en_ok _)) (own_up (own_en_ok _)) (own_en_ok _).2 (pr1.ext O649.2) hcs (by decide) (by decide)) q679a q679c (g := (mkF m 115 #[vi p1, vi p2, vi p3, vi bb340, vr b341, vr b343, vr b517, vr b519, vr b521, vr b608, vr b610, vr b630, .unset, .unset, .unset, .unset, .unset, .unset, .unset] [(.ref b608), (.ref b517)])) rfl (by rw [hml]; rfl) (Steps.refl _) (argsL := [(.ref b608)]) (rest := []) (lenOf pd_30 rfl) rfl (by show 2 * 0 + _ ≤ _; exact Nat.le_of_eq rfl) (dk at_115) (fun _ _ => ⟨rfl, e650, Nat.le_of_ble_eq_true rfl, Nat.le_of_ble_eq_true rfl⟩)
        dsimp only [Pt.U, Pt.locs, Pt.cells, Pt.slots] at X679 l679 y679 z679 st679 hQ679
        subst l679 y679 z679
        obtain ⟨hv679, hL679, hh679⟩ := hQ679
        subst hL679
        have N679 := Fr.app N648 (Fr.nil n0)
        rcases hv679 with ⟨rfl, e687⟩ | ⟨rfl, e687⟩
        · skip
          refine gy (St T679 m 118 #[vi p1, vi p2, vi p3, vi bb340, vr b341, vr b343, vr b517, vr b519, vr b521, vr b608, vr b610, vr b630, .unset, .unset, .unset, .unset, .unset, .unset, .unset] [(.int 1)]) (fun _ k => st679.trans k) ?_
          refine gy (St T679 m 132 #[vi p1, vi p2, vi p3, vi bb340, vr b341, vr b343, vr b517, vr b519, vr b521, vr b608, vr b610, vr b630, vi 1, .unset, .unset, .unset, .unset, .unset, .unset] [(.ref b519), (.ref b341)]) (fun _ k => XS.ifNo X679.here hx rfl (dk at_118) rfl ((if0 _ _).trans (feq (by decide : ¬ ((1 : Int32) = (0 : Int32)))).1) (XS.iconst X679.here hx rfl (dk at_121) (XS.goto X679.here hx rfl (pc0 := 122) (pc' := 126) rfl (dk at_122) (by decide) (by decide) (XS.istore X679.here hx rfl (dk at_126) rfl (l' := #[vi p1, vi p2, vi p3, vi bb340, vr b341, vr b343, vr b517, vr b519, vr b521, vr b608, vr b610, vr b630, vi 1, .unset, .unset, .unset, .unset, .unset, .unset]) rfl (XS.aload X679.here hx rfl (dk at_128) rfl rfl (XS.aload X679.here hx rfl (dk at_130) rfl rfl k)))))) ?_
          have f689 := (((f616.keep K628).ext E630).keep K648)
          have f690 := (((f617.keep K628 (ninS (Nat.ne_of_lt (Nat.lt_of_lt_of_le (((((p341_0.keep K343).keep K517).keep K519).keep K521).keep K608).lt sz_b610)) nin0)).ext E630).keep K648 (ninS (Nat.ne_of_lt (Nat.lt_of_lt_of_le (f616.keep K628).lt sz_b630)) nin0))
          have f691 := (((f618.keep K628 (ninS (Nat.ne_of_lt (Nat.lt_of_lt_of_le (((((p341_0.keep K343).keep K517).keep K519).keep K521).keep K608).lt sz_b610)) nin0)).ext E630).keep K648 (ninS (Nat.ne_of_lt (Nat.lt_of_lt_of_le (f616.keep K628).lt sz_b630)) nin0))
          have f692 := (((f619.keep K628 (ninS (Nat.ne_of_lt (Nat.lt_of_lt_of_le (((((p341_3.keep K343 nin0).keep K517 nin0).keep K519 nin0).keep K521 nin0).keep K608 nin0).lt sz_b610)) nin0)).ext E630).keep K648 (ninS (Nat.ne_of_lt (Nat.lt_of_lt_of_le (f619.keep K628 (ninS (Nat.ne_of_lt (Nat.lt_of_lt_of_le (((((p341_3.keep K343 nin0).keep K517 nin0).keep K519 nin0).keep K521 nin0).keep K608 nin0).lt sz_b610)) nin0)).lt sz_b630)) nin0))
          have f693 := (f637.keep K648 (ninS (Nat.ne_of_lt (Nat.lt_of_lt_of_le ((((p519_0.keep K521).keep K608).ext E610).keep K628).lt sz_b630)) nin0))
          have f694 := (f638.keep K648 (ninS (Nat.ne_of_lt (Nat.lt_of_lt_of_le ((((p519_0.keep K521).keep K608).ext E610).keep K628).lt sz_b630)) nin0))
          have f695 := (f639.keep K648 (ninS (Nat.ne_of_lt (Nat.lt_of_lt_of_le ((((p519_3.keep K521 nin0).keep K608 nin0).ext E610).keep K628 (ninS (Nat.ne_of_lt (Nat.lt_of_lt_of_le ((p519_3.keep K521 nin0).keep K608 nin0).lt sz_b610)) nin0)).lt sz_b630)) nin0))
          obtain ⟨cq688, kq688, q688a, q688b, q688c⟩ := isOf hZ hh679 f689
          obtain ⟨_, _, ⟨T688, L688, k688, n688⟩, -, X688, ⟨Lc688, hQ688, l688, y688, z688⟩, st688⟩ := X679.virtualBack hx (y := Y23) (z := Y23) hown (mvT hZ (wd hw 193 rfl)) (mvT hZ (wd hw 194 rfl)) (notFace_of_selects (args := #[]) (mvT hZ (wd hw 196 rfl))) (mvT hZ (wd hw 196 rfl)) (mvT hZ (wd hw 195 rfl)) (by decide) (StrChars.Road.eqW (W := 0) hZ (own_heq hw) (kI := 4) (wd hw 17 rfl) f689 f690 f691 f692 (own_cod (own_nm_ok _)) (own_up (own_nm_ok _)) (own_nm_ok _).2 (f636.keep K648) f693 f694 f695 (own_cod (own_nm_ok _)) (own_up (own_nm_ok _)) (own_nm_ok _).2 (pr1.ext O649.2) hcs (by decide) (by decide)) q688a q688c (g := (mkF m 132 #[vi p1, vi p2, vi p3, vi bb340, vr b341, vr b343, vr b517, vr b519, vr b521, vr b608, vr b610, vr b630, vi 1, .unset, .unset, .unset, .unset, .unset, .unset] [(.ref b519), (.ref b341)])) rfl (by rw [hml]; rfl) (Steps.refl _) (argsL := [(.ref b519)]) (rest := []) (lenOf pd_30 rfl) rfl (by show 2 * 0 + _ ≤ _; exact Nat.le_of_eq rfl) (dk at_132) (fun _ _ => ⟨rfl, hh679, Nat.le_of_ble_eq_true rfl, Nat.le_of_ble_eq_true rfl⟩)
          dsimp only [Pt.U, Pt.locs, Pt.cells, Pt.slots] at X688 l688 y688 z688 st688 hQ688
          subst l688 y688 z688
          obtain ⟨hv688, hL688, hh688⟩ := hQ688
          subst hL688
          have N688 := Fr.app N679 (Fr.nil n0)
          rcases hv688 with ⟨rfl, e696⟩ | ⟨rfl, e696⟩
          · skip
            refine gy (St T688 m 135 #[vi p1, vi p2, vi p3, vi bb340, vr b341, vr b343, vr b517, vr b519, vr b521, vr b608, vr b610, vr b630, vi 1, .unset, .unset, .unset, .unset, .unset, .unset] [(.int 1)]) (fun _ k => st688.trans k) ?_
            refine gy (St T688 m 142 #[vi p1, vi p2, vi p3, vi bb340, vr b341, vr b343, vr b517, vr b519, vr b521, vr b608, vr b610, vr b630, vi 1, .unset, .unset, .unset, .unset, .unset, .unset] [(.ref b521), (.ref b343)]) (fun _ k => XS.ifNo X688.here hx rfl (dk at_135) rfl ((if0 _ _).trans (feq (by decide : ¬ ((1 : Int32) = (0 : Int32)))).1) (XS.aload X688.here hx rfl (dk at_138) rfl rfl (XS.aload X688.here hx rfl (dk at_140) rfl rfl k))) ?_
            have f698 := (((f620.keep K628).ext E630).keep K648)
            have f699 := (((f621.keep K628 (ninS (Nat.ne_of_lt (Nat.lt_of_lt_of_le ((((p343_0.keep K517).keep K519).keep K521).keep K608).lt sz_b610)) nin0)).ext E630).keep K648 (ninS (Nat.ne_of_lt (Nat.lt_of_lt_of_le (f620.keep K628).lt sz_b630)) nin0))
            have f700 := (((f622.keep K628 (ninS (Nat.ne_of_lt (Nat.lt_of_lt_of_le ((((p343_0.keep K517).keep K519).keep K521).keep K608).lt sz_b610)) nin0)).ext E630).keep K648 (ninS (Nat.ne_of_lt (Nat.lt_of_lt_of_le (f620.keep K628).lt sz_b630)) nin0))
            have f701 := (((f623.keep K628 (ninS (Nat.ne_of_lt (Nat.lt_of_lt_of_le ((((p343_3.keep K517 nin0).keep K519 nin0).keep K521 nin0).keep K608 nin0).lt sz_b610)) nin0)).ext E630).keep K648 (ninS (Nat.ne_of_lt (Nat.lt_of_lt_of_le (f623.keep K628 (ninS (Nat.ne_of_lt (Nat.lt_of_lt_of_le ((((p343_3.keep K517 nin0).keep K519 nin0).keep K521 nin0).keep K608 nin0).lt sz_b610)) nin0)).lt sz_b630)) nin0))
            have f702 := (f641.keep K648 (ninS (Nat.ne_of_lt (Nat.lt_of_lt_of_le (((p521_0.keep K608).ext E610).keep K628).lt sz_b630)) nin0))
            have f703 := (f642.keep K648 (ninS (Nat.ne_of_lt (Nat.lt_of_lt_of_le (((p521_0.keep K608).ext E610).keep K628).lt sz_b630)) nin0))
            have f704 := (f643.keep K648 (ninS (Nat.ne_of_lt (Nat.lt_of_lt_of_le (((p521_3.keep K608 nin0).ext E610).keep K628 (ninS (Nat.ne_of_lt (Nat.lt_of_lt_of_le (p521_3.keep K608 nin0).lt sz_b610)) nin0)).lt sz_b630)) nin0))
            obtain ⟨cq697, kq697, q697a, q697b, q697c⟩ := isOf hZ hh688 f698
            obtain ⟨_, _, ⟨T697, L697, k697, n697⟩, -, X697, ⟨Lc697, hQ697, l697, y697, z697⟩, st697⟩ := X688.virtualBack hx (y := Y23) (z := Y23) hown (mvT hZ (wd hw 193 rfl)) (mvT hZ (wd hw 194 rfl)) (notFace_of_selects (args := #[]) (mvT hZ (wd hw 196 rfl))) (mvT hZ (wd hw 196 rfl)) (mvT hZ (wd hw 195 rfl)) (by decide) (StrChars.Road.eqW (W := 0) hZ (own_heq hw) (kI := 4) (wd hw 17 rfl) f698 f699 f700 f701 (own_cod (own_nm_ok _)) (own_up (own_nm_ok _)) (own_nm_ok _).2 (f640.keep K648) f702 f703 f704 (own_cod (own_nm_ok _)) (own_up (own_nm_ok _)) (own_nm_ok _).2 (pr1.ext O649.2) hcs (by decide) (by decide)) q697a q697c (g := (mkF m 142 #[vi p1, vi p2, vi p3, vi bb340, vr b341, vr b343, vr b517, vr b519, vr b521, vr b608, vr b610, vr b630, vi 1, .unset, .unset, .unset, .unset, .unset, .unset] [(.ref b521), (.ref b343)])) rfl (by rw [hml]; rfl) (Steps.refl _) (argsL := [(.ref b521)]) (rest := []) (lenOf pd_30 rfl) rfl (by show 2 * 0 + _ ≤ _; exact Nat.le_of_eq rfl) (dk at_142) (fun _ _ => ⟨rfl, hh688, Nat.le_of_ble_eq_true rfl, Nat.le_of_ble_eq_true rfl⟩)
            dsimp only [Pt.U, Pt.locs, Pt.cells, Pt.slots] at X697 l697 y697 z697 st697 hQ697
            subst l697 y697 z697
            obtain ⟨hv697, hL697, hh697⟩ := hQ697
            subst hL697
            have N697 := Fr.app N688 (Fr.nil n0)
            rcases hv697 with ⟨rfl, e705⟩ | ⟨rfl, e705⟩
            · skip
              refine gy (St T697 m 145 #[vi p1, vi p2, vi p3, vi bb340, vr b341, vr b343, vr b517, vr b519, vr b521, vr b608, vr b610, vr b630, vi 1, .unset, .unset, .unset, .unset, .unset, .unset] [(.int 1)]) (fun _ k => st697.trans k) ?_
              refine gy (St T697 m 158 #[vi p1, vi p2, vi p3, vi bb340, vr b341, vr b343, vr b517, vr b519, vr b521, vr b608, vr b610, vr b630, vi 1, .unset, .unset, .unset, .unset, .unset, .unset] [(.int 1)]) (fun _ k => XS.ifNo X697.here hx rfl (dk at_145) rfl ((if0 _ _).trans (feq (by decide : ¬ ((1 : Int32) = (0 : Int32)))).1) (XS.iload X697.here hx rfl (dk at_148) rfl (XS.ifNo X697.here hx rfl (dk at_150) rfl ((if0 _ _).trans (feq (by decide : ¬ ((1 : Int32) = (0 : Int32)))).1) (XS.iconst X697.here hx rfl (dk at_153) (XS.goto X697.here hx rfl (pc0 := 154) (pc' := 158) rfl (dk at_154) (by decide) (by decide) k))))) ?_
              exact J650 T697 _ X697 N697 hh697 (1 : Int32) (1 : Int32) (Or.inl ⟨rfl, (by rw [e696, e705, e687])⟩)
            · skip
              refine gy (St T697 m 145 #[vi p1, vi p2, vi p3, vi bb340, vr b341, vr b343, vr b517, vr b519, vr b521, vr b608, vr b610, vr b630, vi 1, .unset, .unset, .unset, .unset, .unset, .unset] [(.int 0)]) (fun _ k => st697.trans k) ?_
              refine gy (St T697 m 158 #[vi p1, vi p2, vi p3, vi bb340, vr b341, vr b343, vr b517, vr b519, vr b521, vr b608, vr b610, vr b630, vi 1, .unset, .unset, .unset, .unset, .unset, .unset] [(.int 0)]) (fun _ k => XS.ifYes X697.here hx rfl (pc0 := 145) (pc' := 157) rfl (dk at_145) rfl ((if0 _ _).trans (teq (by decide : (0 : Int32) = (0 : Int32))).1) (by decide) (by decide) (XS.iconst X697.here hx rfl (dk at_157) k)) ?_
              exact J650 T697 _ X697 N697 hh697 (0 : Int32) (1 : Int32) (Or.inr ⟨rfl, fun q => e705 (own_SS q).2.1⟩)
          · skip
            refine gy (St T688 m 135 #[vi p1, vi p2, vi p3, vi bb340, vr b341, vr b343, vr b517, vr b519, vr b521, vr b608, vr b610, vr b630, vi 1, .unset, .unset, .unset, .unset, .unset, .unset] [(.int 0)]) (fun _ k => st688.trans k) ?_
            refine gy (St T688 m 158 #[vi p1, vi p2, vi p3, vi bb340, vr b341, vr b343, vr b517, vr b519, vr b521, vr b608, vr b610, vr b630, vi 1, .unset, .unset, .unset, .unset, .unset, .unset] [(.int 0)]) (fun _ k => XS.ifYes X688.here hx rfl (pc0 := 135) (pc' := 157) rfl (dk at_135) rfl ((if0 _ _).trans (teq (by decide : (0 : Int32) = (0 : Int32))).1) (by decide) (by decide) (XS.iconst X688.here hx rfl (dk at_157) k)) ?_
            exact J650 T688 _ X688 N688 hh688 (0 : Int32) (1 : Int32) (Or.inr ⟨rfl, fun q => e696 (own_SS q).1⟩)
        · skip
          refine gy (St T679 m 118 #[vi p1, vi p2, vi p3, vi bb340, vr b341, vr b343, vr b517, vr b519, vr b521, vr b608, vr b610, vr b630, .unset, .unset, .unset, .unset, .unset, .unset, .unset] [(.int 0)]) (fun _ k => st679.trans k) ?_
          refine gy (St T679 m 132 #[vi p1, vi p2, vi p3, vi bb340, vr b341, vr b343, vr b517, vr b519, vr b521, vr b608, vr b610, vr b630, vi 0, .unset, .unset, .unset, .unset, .unset, .unset] [(.ref b519), (.ref b341)]) (fun _ k => XS.ifYes X679.here hx rfl (pc0 := 118) (pc' := 125) rfl (dk at_118) rfl ((if0 _ _).trans (teq (by decide : (0 : Int32) = (0 : Int32))).1) (by decide) (by decide) (XS.iconst X679.here hx rfl (dk at_125) (XS.istore X679.here hx rfl (dk at_126) rfl (l' := #[vi p1, vi p2, vi p3, vi bb340, vr b341, vr b343, vr b517, vr b519, vr b521, vr b608, vr b610, vr b630, vi 0, .unset, .unset, .unset, .unset, .unset, .unset]) rfl (XS.aload X679.here hx rfl (dk at_128) rfl rfl (XS.aload X679.here hx rfl (dk at_130) rfl rfl k))))) ?_
          have f707 := (((f616.keep K628).ext E630).keep K648)
          have f708 := (((f617.keep K628 (ninS (Nat.ne_of_lt (Nat.lt_of_lt_of_le (((((p341_0.keep K343).keep K517).keep K519).keep K521).keep K608).lt sz_b610)) nin0)).ext E630).keep K648 (ninS (Nat.ne_of_lt (Nat.lt_of_lt_of_le (f616.keep K628).lt sz_b630)) nin0))
          have f709 := (((f618.keep K628 (ninS (Nat.ne_of_lt (Nat.lt_of_lt_of_le (((((p341_0.keep K343).keep K517).keep K519).keep K521).keep K608).lt sz_b610)) nin0)).ext E630).keep K648 (ninS (Nat.ne_of_lt (Nat.lt_of_lt_of_le (f616.keep K628).lt sz_b630)) nin0))
          have f710 := (((f619.keep K628 (ninS (Nat.ne_of_lt (Nat.lt_of_lt_of_le (((((p341_3.keep K343 nin0).keep K517 nin0).keep K519 nin0).keep K521 nin0).keep K608 nin0).lt sz_b610)) nin0)).ext E630).keep K648 (ninS (Nat.ne_of_lt (Nat.lt_of_lt_of_le (f619.keep K628 (ninS (Nat.ne_of_lt (Nat.lt_of_lt_of_le (((((p341_3.keep K343 nin0).keep K517 nin0).keep K519 nin0).keep K521 nin0).keep K608 nin0).lt sz_b610)) nin0)).lt sz_b630)) nin0))
          have f711 := (f637.keep K648 (ninS (Nat.ne_of_lt (Nat.lt_of_lt_of_le ((((p519_0.keep K521).keep K608).ext E610).keep K628).lt sz_b630)) nin0))
          have f712 := (f638.keep K648 (ninS (Nat.ne_of_lt (Nat.lt_of_lt_of_le ((((p519_0.keep K521).keep K608).ext E610).keep K628).lt sz_b630)) nin0))
          have f713 := (f639.keep K648 (ninS (Nat.ne_of_lt (Nat.lt_of_lt_of_le ((((p519_3.keep K521 nin0).keep K608 nin0).ext E610).keep K628 (ninS (Nat.ne_of_lt (Nat.lt_of_lt_of_le ((p519_3.keep K521 nin0).keep K608 nin0).lt sz_b610)) nin0)).lt sz_b630)) nin0))
          obtain ⟨cq706, kq706, q706a, q706b, q706c⟩ := isOf hZ hh679 f707
          obtain ⟨_, _, ⟨T706, L706, k706, n706⟩, -, X706, ⟨Lc706, hQ706, l706, y706, z706⟩, st706⟩ := X679.virtualBack hx (y := Y23) (z := Y23) hown (mvT hZ (wd hw 193 rfl)) (mvT hZ (wd hw 194 rfl)) (notFace_of_selects (args := #[]) (mvT hZ (wd hw 196 rfl))) (mvT hZ (wd hw 196 rfl)) (mvT hZ (wd hw 195 rfl)) (by decide) (StrChars.Road.eqW (W := 0) hZ (own_heq hw) (kI := 4) (wd hw 17 rfl) f707 f708 f709 f710 (own_cod (own_nm_ok _)) (own_up (own_nm_ok _)) (own_nm_ok _).2 (f636.keep K648) f711 f712 f713 (own_cod (own_nm_ok _)) (own_up (own_nm_ok _)) (own_nm_ok _).2 (pr1.ext O649.2) hcs (by decide) (by decide)) q706a q706c (g := (mkF m 132 #[vi p1, vi p2, vi p3, vi bb340, vr b341, vr b343, vr b517, vr b519, vr b521, vr b608, vr b610, vr b630, vi 0, .unset, .unset, .unset, .unset, .unset, .unset] [(.ref b519), (.ref b341)])) rfl (by rw [hml]; rfl) (Steps.refl _) (argsL := [(.ref b519)]) (rest := []) (lenOf pd_30 rfl) rfl (by show 2 * 0 + _ ≤ _; exact Nat.le_of_eq rfl) (dk at_132) (fun _ _ => ⟨rfl, hh679, Nat.le_of_ble_eq_true rfl, Nat.le_of_ble_eq_true rfl⟩)
          dsimp only [Pt.U, Pt.locs, Pt.cells, Pt.slots] at X706 l706 y706 z706 st706 hQ706
          subst l706 y706 z706
          obtain ⟨hv706, hL706, hh706⟩ := hQ706
          subst hL706
          have N706 := Fr.app N679 (Fr.nil n0)
          rcases hv706 with ⟨rfl, e714⟩ | ⟨rfl, e714⟩
          · skip
            refine gy (St T706 m 135 #[vi p1, vi p2, vi p3, vi bb340, vr b341, vr b343, vr b517, vr b519, vr b521, vr b608, vr b610, vr b630, vi 0, .unset, .unset, .unset, .unset, .unset, .unset] [(.int 1)]) (fun _ k => st706.trans k) ?_
            refine gy (St T706 m 142 #[vi p1, vi p2, vi p3, vi bb340, vr b341, vr b343, vr b517, vr b519, vr b521, vr b608, vr b610, vr b630, vi 0, .unset, .unset, .unset, .unset, .unset, .unset] [(.ref b521), (.ref b343)]) (fun _ k => XS.ifNo X706.here hx rfl (dk at_135) rfl ((if0 _ _).trans (feq (by decide : ¬ ((1 : Int32) = (0 : Int32)))).1) (XS.aload X706.here hx rfl (dk at_138) rfl rfl (XS.aload X706.here hx rfl (dk at_140) rfl rfl k))) ?_
            have f716 := (((f620.keep K628).ext E630).keep K648)
            have f717 := (((f621.keep K628 (ninS (Nat.ne_of_lt (Nat.lt_of_lt_of_le ((((p343_0.keep K517).keep K519).keep K521).keep K608).lt sz_b610)) nin0)).ext E630).keep K648 (ninS (Nat.ne_of_lt (Nat.lt_of_lt_of_le (f620.keep K628).lt sz_b630)) nin0))
            have f718 := (((f622.keep K628 (ninS (Nat.ne_of_lt (Nat.lt_of_lt_of_le ((((p343_0.keep K517).keep K519).keep K521).keep K608).lt sz_b610)) nin0)).ext E630).keep K648 (ninS (Nat.ne_of_lt (Nat.lt_of_lt_of_le (f620.keep K628).lt sz_b630)) nin0))
            have f719 := (((f623.keep K628 (ninS (Nat.ne_of_lt (Nat.lt_of_lt_of_le ((((p343_3.keep K517 nin0).keep K519 nin0).keep K521 nin0).keep K608 nin0).lt sz_b610)) nin0)).ext E630).keep K648 (ninS (Nat.ne_of_lt (Nat.lt_of_lt_of_le (f623.keep K628 (ninS (Nat.ne_of_lt (Nat.lt_of_lt_of_le ((((p343_3.keep K517 nin0).keep K519 nin0).keep K521 nin0).keep K608 nin0).lt sz_b610)) nin0)).lt sz_b630)) nin0))
            have f720 := (f641.keep K648 (ninS (Nat.ne_of_lt (Nat.lt_of_lt_of_le (((p521_0.keep K608).ext E610).keep K628).lt sz_b630)) nin0))
            have f721 := (f642.keep K648 (ninS (Nat.ne_of_lt (Nat.lt_of_lt_of_le (((p521_0.keep K608).ext E610).keep K628).lt sz_b630)) nin0))
            have f722 := (f643.keep K648 (ninS (Nat.ne_of_lt (Nat.lt_of_lt_of_le (((p521_3.keep K608 nin0).ext E610).keep K628 (ninS (Nat.ne_of_lt (Nat.lt_of_lt_of_le (p521_3.keep K608 nin0).lt sz_b610)) nin0)).lt sz_b630)) nin0))
            obtain ⟨cq715, kq715, q715a, q715b, q715c⟩ := isOf hZ hh706 f716
            obtain ⟨_, _, ⟨T715, L715, k715, n715⟩, -, X715, ⟨Lc715, hQ715, l715, y715, z715⟩, st715⟩ := X706.virtualBack hx (y := Y23) (z := Y23) hown (mvT hZ (wd hw 193 rfl)) (mvT hZ (wd hw 194 rfl)) (notFace_of_selects (args := #[]) (mvT hZ (wd hw 196 rfl))) (mvT hZ (wd hw 196 rfl)) (mvT hZ (wd hw 195 rfl)) (by decide) (StrChars.Road.eqW (W := 0) hZ (own_heq hw) (kI := 4) (wd hw 17 rfl) f716 f717 f718 f719 (own_cod (own_nm_ok _)) (own_up (own_nm_ok _)) (own_nm_ok _).2 (f640.keep K648) f720 f721 f722 (own_cod (own_nm_ok _)) (own_up (own_nm_ok _)) (own_nm_ok _).2 (pr1.ext O649.2) hcs (by decide) (by decide)) q715a q715c (g := (mkF m 142 #[vi p1, vi p2, vi p3, vi bb340, vr b341, vr b343, vr b517, vr b519, vr b521, vr b608, vr b610, vr b630, vi 0, .unset, .unset, .unset, .unset, .unset, .unset] [(.ref b521), (.ref b343)])) rfl (by rw [hml]; rfl) (Steps.refl _) (argsL := [(.ref b521)]) (rest := []) (lenOf pd_30 rfl) rfl (by show 2 * 0 + _ ≤ _; exact Nat.le_of_eq rfl) (dk at_142) (fun _ _ => ⟨rfl, hh706, Nat.le_of_ble_eq_true rfl, Nat.le_of_ble_eq_true rfl⟩)
            dsimp only [Pt.U, Pt.locs, Pt.cells, Pt.slots] at X715 l715 y715 z715 st715 hQ715
            subst l715 y715 z715
            obtain ⟨hv715, hL715, hh715⟩ := hQ715
            subst hL715
            have N715 := Fr.app N706 (Fr.nil n0)
            rcases hv715 with ⟨rfl, e723⟩ | ⟨rfl, e723⟩
            · skip
              refine gy (St T715 m 145 #[vi p1, vi p2, vi p3, vi bb340, vr b341, vr b343, vr b517, vr b519, vr b521, vr b608, vr b610, vr b630, vi 0, .unset, .unset, .unset, .unset, .unset, .unset] [(.int 1)]) (fun _ k => st715.trans k) ?_
              refine gy (St T715 m 158 #[vi p1, vi p2, vi p3, vi bb340, vr b341, vr b343, vr b517, vr b519, vr b521, vr b608, vr b610, vr b630, vi 0, .unset, .unset, .unset, .unset, .unset, .unset] [(.int 0)]) (fun _ k => XS.ifNo X715.here hx rfl (dk at_145) rfl ((if0 _ _).trans (feq (by decide : ¬ ((1 : Int32) = (0 : Int32)))).1) (XS.iload X715.here hx rfl (dk at_148) rfl (XS.ifYes X715.here hx rfl (pc0 := 150) (pc' := 157) rfl (dk at_150) rfl ((if0 _ _).trans (teq (by decide : (0 : Int32) = (0 : Int32))).1) (by decide) (by decide) (XS.iconst X715.here hx rfl (dk at_157) k)))) ?_
              exact J650 T715 _ X715 N715 hh715 (0 : Int32) (0 : Int32) (Or.inr ⟨rfl, fun q => e687 (own_SS q).2.2⟩)
            · skip
              refine gy (St T715 m 145 #[vi p1, vi p2, vi p3, vi bb340, vr b341, vr b343, vr b517, vr b519, vr b521, vr b608, vr b610, vr b630, vi 0, .unset, .unset, .unset, .unset, .unset, .unset] [(.int 0)]) (fun _ k => st715.trans k) ?_
              refine gy (St T715 m 158 #[vi p1, vi p2, vi p3, vi bb340, vr b341, vr b343, vr b517, vr b519, vr b521, vr b608, vr b610, vr b630, vi 0, .unset, .unset, .unset, .unset, .unset, .unset] [(.int 0)]) (fun _ k => XS.ifYes X715.here hx rfl (pc0 := 145) (pc' := 157) rfl (dk at_145) rfl ((if0 _ _).trans (teq (by decide : (0 : Int32) = (0 : Int32))).1) (by decide) (by decide) (XS.iconst X715.here hx rfl (dk at_157) k)) ?_
              exact J650 T715 _ X715 N715 hh715 (0 : Int32) (0 : Int32) (Or.inr ⟨rfl, fun q => e723 (own_SS q).2.1⟩)
          · skip
            refine gy (St T706 m 135 #[vi p1, vi p2, vi p3, vi bb340, vr b341, vr b343, vr b517, vr b519, vr b521, vr b608, vr b610, vr b630, vi 0, .unset, .unset, .unset, .unset, .unset, .unset] [(.int 0)]) (fun _ k => st706.trans k) ?_
            refine gy (St T706 m 158 #[vi p1, vi p2, vi p3, vi bb340, vr b341, vr b343, vr b517, vr b519, vr b521, vr b608, vr b610, vr b630, vi 0, .unset, .unset, .unset, .unset, .unset, .unset] [(.int 0)]) (fun _ k => XS.ifYes X706.here hx rfl (pc0 := 135) (pc' := 157) rfl (dk at_135) rfl ((if0 _ _).trans (teq (by decide : (0 : Int32) = (0 : Int32))).1) (by decide) (by decide) (XS.iconst X706.here hx rfl (dk at_157) k)) ?_
            exact J650 T706 _ X706 N706 hh706 (0 : Int32) (0 : Int32) (Or.inr ⟨rfl, fun q => e714 (own_SS q).1⟩)
  refine gy (St s₁ m 3 #[vi p1, vi p2, vi p3, .unset, .unset, .unset, .unset, .unset, .unset, .unset, .unset, .unset, .unset, .unset, .unset, .unset, .unset, .unset, .unset] [(.int (p3 &&& (1 : Int32)))]) (fun _ k => XS.iloadN X339.here hx rfl (dk at_0) rfl (XS.iconst X339.here hx rfl (dk at_1) (XS.iand X339.here hx rfl (dk at_2) rfl k))) ?_
  by_cases c724 : (p3 &&& (1 : Int32)) = (0 : Int32)
  · skip
    refine gy (St s₁ m 11 #[vi p1, vi p2, vi p3, .unset, .unset, .unset, .unset, .unset, .unset, .unset, .unset, .unset, .unset, .unset, .unset, .unset, .unset, .unset, .unset] [(.int p2)]) (fun _ k => XS.ifYes X339.here hx rfl (pc0 := 3) (pc' := 10) rfl (dk at_3) rfl ((if0 _ _).trans (teq c724).1) (by decide) (by decide) (XS.iloadN X339.here hx rfl (dk at_10) rfl k)) ?_
    exact J339 s₁ X339 e339 p2
  · skip
    refine gy (St s₁ m 11 #[vi p1, vi p2, vi p3, .unset, .unset, .unset, .unset, .unset, .unset, .unset, .unset, .unset, .unset, .unset, .unset, .unset, .unset, .unset, .unset] [(.int p1)]) (fun _ k => XS.ifNo X339.here hx rfl (dk at_3) rfl ((if0 _ _).trans (feq c724).1) (XS.iloadN X339.here hx rfl (dk at_6) rfl (XS.goto X339.here hx rfl (pc0 := 7) (pc' := 11) rfl (dk at_7) (by decide) (by decide) k))) ?_
    exact J339 s₁ X339 e339 p1
set_option maxRecDepth 65536 in
set_option maxHeartbeats 40000000 in
theorem comes_1 {Post : Tables → Env → Array Value → State → Outcome → State → Prop} (hpost : ∀ tb e args s v u, (limb_1_1.after args s (.returned v) u = true ∧ limb_1_2.after args s (.returned v) u = true ∧ True) → ReturnedEndW s (.returned v) u (Jvm.fieldLocs frame_1_writes args s ++ Jvm.arrayLocs frame_1_arrays args s ++ Jvm.staticLocs frame_1_statics s) 64 1344 → Post tb e args s (.returned v) u) :
    ArmFor flags0 classFile x code maxLocals ret World_1 tables_1 room_1 Calls_1 rest_1 Pre_1 Post := by
  intro l hfl _ _ p e ha hc hk s m args below hf hA hF happ hP
  obtain ⟨hcalls, hrest, hpre⟩ := hP
  obtain ⟨-, -, -, hnamed, -, -, -, hat⟩ := (Spec.applies_iff hf).mp happ
  obtain ⟨hg, hn⟩ := and_e (Cond.before_iff.mp (show (Jvm.Cond.and given_1 narrow_1).before args s = true from hpre))
  obtain ⟨hg0, hgr0⟩ := and_e hg
  obtain ⟨ga0, hgr1⟩ := and_e hgr0
  obtain ⟨ga1, hgr2⟩ := and_e hgr1
  obtain ⟨w0, w1, w2, rfl⟩ : ∃ w0 w1 w2 : Value, args = #[w0, w1, w2] := by
    have hs : args.size = 3 := by simpa [Cond.value, given_1] using hg0
    obtain ⟨L⟩ := args
    match L, hs with
    | [w0, w1, w2], _ => exact ⟨w0, w1, w2, rfl⟩
  have hw := fun d (hd : d ∈ tables_1) => atoms_spec (ws := Jvm.Cond.code x code maxLocals ret :: tables_1) hat d (List.mem_cons_of_mem _ hd)
  have hfit : Fit s := fun {y c} hc i hi => by
    obtain ⟨ha, rfl⟩ := Array.getElem?_eq_some_iff.mp hc
    have q := List.all_eq_true.mp ((Array.all_eq_true_iff_forall_mem.mp hF) _ (Array.getElem_mem ha)) i (List.mem_range.mpr hi)
    simpa [Array.getElem?_eq_getElem hi] using q
  obtain ⟨hsets, hown0⟩ := atoms_of _ (rest_1_c_eq ▸ (show rest_1_c.before _ s = true from hrest))
  have hr0 := Cond.before_iff.mp hown0
  obtain ⟨i0, ei0⟩ := is_v ga0
  obtain rfl : w0 = (.int i0) := Option.some.inj ei0
  obtain ⟨i1, ei1⟩ := is_v ga1
  obtain rfl : w1 = (.int i1) := Option.some.inj ei1
  obtain ⟨i2, ei2⟩ := is_v hgr2
  obtain rfl : w2 = (.int i2) := Option.some.inj ei2
  have ncs := not_v (Cond.before_iff.mp (hsets _ (List.mem_of_getElem? (i := 2) rfl)))
  obtain ⟨cs, ecs⟩ := is_v (Cond.before_iff.mp (hsets _ (List.mem_of_getElem? (i := 1) rfl)))
  have Scs : Sta s s.heap "java/lang/String" "COMPACT_STRINGS" "Z" (.int cs) := Sta.start ecs (Or.inl (hsets _ (List.mem_of_getElem? (i := 0) rfl)))
  have hcs : ¬ (cs = (0 : Int32)) := gotF (Cond.eq_ints ecs (Term.int_eval (0))) ncs
  have hCH : CHv s own_EL s.vm s.heap := CHv.start (own_hEL hw) (fun p hp => hcalls.1 p hp) (hsets _ (List.mem_of_getElem? (i := 2) rfl)) (wd hw 21 rfl) (wd hw 17 rfl)
  obtain ⟨n, o, h1, h2, h3, _, L, rfl, ⟨rfl, N⟩, -, hq⟩ := rm0 l s _ hw tables_1 i0 i1 i2 cs s.heap s.heap.size (Nat.le_refl _) (Old.start s) Scs hcs p e ha hc hk s m _ below hf ((Spec.applies_iff_loose hf).mp happ).1 ⟨rfl, State.Warmed39.refl s, rfl, hCH⟩ trivial
  refine ⟨n, _, h1, h2, h3, hpost _ _ _ _ _ _ ⟨Cond.after_iff.mpr rfl, Cond.after_iff.mpr (eq_i res_at (Term.int_eval (1)) rfl), trivial⟩ ⟨hq.1, hq.2.1, hq.2.2.1, (hq.2.2.2.sift fun y hy => Or.inr (N y hy)).mono (by decide) (by decide)⟩⟩
theorem main_1_1 : Claimed_1_1 := comes_1 fun _ _ _ _ _ _ h hF => ⟨h.1, hF⟩
theorem main_1_2 : Claimed_1_2 := comes_1 fun _ _ _ _ _ _ h hF => ⟨h.2.1, hF⟩
end Jvm.Pilot.@@N@@
namespace Jvm.Pilot.@@N@@
open Jvm Jvm.ClassFile Sem Op Lib Jvm.Free Jvm.Stand Jvm.Pilot.@@N@@.Jvm.D
/-! MADE BY PROGRAM (witnessworld.py) out of the Statement's table words and the real class files: 26 classes; the members and pool entries that the words name. The judged class is class 1, her method 5. -/
namespace start1
open Jvm.ClassFile
def u (s : String) : CpInfo := .utf8 (stringToUtf16 s)
/-- a pool by its gaps: so many unusable entries, then the entry; so many at the end -/
def gap : Nat → List CpInfo → List CpInfo
  | 0, r => r
  | n + 1, r => .unusable :: gap n r
def poolList (es : List (Nat × CpInfo)) (last : Nat) : List CpInfo := es.foldr (fun e r => gap e.1 (e.2 :: r)) (gap last [])
def pool (es : List (Nat × CpInfo)) (last : Nat) : Array CpInfo := ⟨poolList es last⟩
def fileOf (pool : Array CpInfo) (this : Nat) (attrs : Array Attribute := #[]) (ms : Array MethodInfo := #[]) (fl : Nat := 33) (sup : Nat := 0) (ifs : Array Nat := #[]) (fds : Array FieldInfo := #[]) : ClassFile where
  minorVersion := 0
  majorVersion := 65
  constantPool := pool
  accessFlags := fl
  thisClass := this
  superClass := sup
  interfaces := ifs
  fields := fds
  methods := ms
  attributes := attrs
def plain (name : String) (sup : Option ClassId) : Class where
  name := name
  kind := .ordinary
  loader := none
  accessFlags := 33
  super := sup
  interfaces := #[]
  cf := none
  fields := #[]
  methods := #[]
  instanceTypes := #[]
  staticTypes := #[]
  resolved := #[]
  callSites := []
  init := .initialized
  statics := none
  mirror := none

def pool0 : Array CpInfo := pool [(5, u "<init>"), (0, u "()V"), (1, .class_ 10), (1, u "java/lang/Object")] 113

def k0c0 : Code := { maxStack := 0, maxLocals := 1, code := object_method_1_code, exceptionTable := #[], attributes := #[] }
def k0m0 : Method := { name := "<init>", desc := "()V", sig := { parameters := [], returnType := none }, accessFlags := 1, code := some k0c0 }
/-- java/lang/Object -/
def k0 : Class := { plain "java/lang/Object" none with
  accessFlags := 33
  interfaces := #[]
  cf := some (fileOf pool0 8 #[] #[{ accessFlags := 1, nameIndex := 5, descriptorIndex := 6, attributes := #[] }] 33 0 #[] #[])
  fields := #[]
  methods := #[k0m0]
  instanceTypes := #[]
  staticTypes := #[]
  resolved := Array.replicate 124 none
  statics := none }

def pool1 : Array CpInfo := pool [(2, .class_ 4), (1, u "java/lang/Object"), (0, u "<init>"), (0, u "()V"), (0, .methodref 8 9), (0, .class_ 10), (0, .nameAndType 11 12), (0, u "com/example/breakwater/breakwater/engine/AddressEqualsPinLaw"), (0, u "nameChar"), (0, u "(I)C"), (0, .methodref 14 15), (0, .class_ 16), (0, .nameAndType 17 18), (0, u "java/lang/String"), (0, u "valueOf"), (0, u "(C)Ljava/lang/String;"), (0, .methodref 14 20), (0, .nameAndType 5 21), (0, u "([C)V"), (0, .methodref 8 23), (0, .nameAndType 24 12), (0, u "endChar"), (0, .methodref 8 26), (0, .nameAndType 27 28), (0, u "name"), (0, u "(I)Ljava/lang/String;"), (0, .methodref 8 30), (0, .nameAndType 31 28), (0, u "endpoint"), (0, .class_ 33), (0, u "com/example/breakwater/breakwater/engine/Address"), (0, .methodref 32 35), (0, .nameAndType 5 36), (0, u "(Ljava/lang/String;Ljava/lang/String;Ljava/lang/String;)V"), (0, .methodref 14 38), (0, .nameAndType 39 40), (0, u "equals"), (0, u "(Ljava/lang/Object;)Z"), (0, .methodref 32 38), (3, u "law"), (0, u "(III)Z")] 2

def k1m0 : Method := { name := "<init>", desc := "()V", sig := { parameters := [], returnType := none }, accessFlags := 1, code := none }
def k1c1 : Code := { maxStack := 2, maxLocals := 2, code := method_2_code, exceptionTable := #[], attributes := #[] }
def k1m1 : Method := { name := "nameChar", desc := "(I)C", sig := { parameters := [.int], returnType := some .char }, accessFlags := 10, code := some k1c1 }
def k1c2 : Code := { maxStack := 2, maxLocals := 2, code := method_3_code, exceptionTable := #[], attributes := #[] }
def k1m2 : Method := { name := "endChar", desc := "(I)C", sig := { parameters := [.int], returnType := some .char }, accessFlags := 10, code := some k1c2 }
def k1c3 : Code := { maxStack := 6, maxLocals := 3, code := method_4_code, exceptionTable := #[], attributes := #[] }
def k1m3 : Method := { name := "name", desc := "(I)Ljava/lang/String;", sig := { parameters := [.int], returnType := some (.object "java/lang/String") }, accessFlags := 10, code := some k1c3 }
def k1c4 : Code := { maxStack := 6, maxLocals := 4, code := method_5_code, exceptionTable := #[], attributes := #[] }
def k1m4 : Method := { name := "endpoint", desc := "(I)Ljava/lang/String;", sig := { parameters := [.int], returnType := some (.object "java/lang/String") }, accessFlags := 10, code := some k1c4 }
def k1c5 : Code := { maxStack := 5, maxLocals := 19, code := code, exceptionTable := #[], attributes := #[] }
def k1m5 : Method := { name := "law", desc := "(III)Z", sig := { parameters := [.int, .int, .int], returnType := some .boolean }, accessFlags := 9, code := some k1c5 }
/-- com/example/breakwater/breakwater/engine/AddressEqualsPinLaw -/
def k1 : Class := { plain "com/example/breakwater/breakwater/engine/AddressEqualsPinLaw" (some 0) with
  accessFlags := 49
  interfaces := #[]
  cf := some (fileOf pool1 8 #[] #[{ accessFlags := 1, nameIndex := 5, descriptorIndex := 6, attributes := #[] }, { accessFlags := 10, nameIndex := 11, descriptorIndex := 12, attributes := #[] }, { accessFlags := 10, nameIndex := 24, descriptorIndex := 12, attributes := #[] }, { accessFlags := 10, nameIndex := 27, descriptorIndex := 28, attributes := #[] }, { accessFlags := 10, nameIndex := 31, descriptorIndex := 28, attributes := #[] }, { accessFlags := 9, nameIndex := 45, descriptorIndex := 46, attributes := #[] }] 49 2 #[] #[])
  fields := #[]
  methods := #[k1m0, k1m1, k1m2, k1m3, k1m4, k1m5]
  instanceTypes := #[]
  staticTypes := #[]
  resolved := Array.replicate 49 none
  statics := none }

def pool2 : Array CpInfo := pool [(1, .class_ 2), (0, u "java/io/Serializable"), (0, .class_ 4), (0, u "java/lang/Object")] 2

/-- java/io/Serializable -/
def k2 : Class := { plain "java/io/Serializable" (some 0) with
  accessFlags := 1537
  interfaces := #[]
  cf := some (fileOf pool2 1 #[] #[] 1537 3 #[] #[])
  fields := #[]
  methods := #[]
  instanceTypes := #[]
  staticTypes := #[]
  resolved := Array.replicate 7 none
  statics := none }

def pool3 : Array CpInfo := pool [(1, .class_ 2), (0, u "java/lang/Comparable"), (0, .class_ 4), (0, u "java/lang/Object")] 7

/-- java/lang/Comparable -/
def k3 : Class := { plain "java/lang/Comparable" (some 0) with
  accessFlags := 1537
  interfaces := #[]
  cf := some (fileOf pool3 1 #[] #[] 1537 3 #[] #[])
  fields := #[]
  methods := #[]
  instanceTypes := #[]
  staticTypes := #[]
  resolved := Array.replicate 12 none
  statics := none }

def pool4 : Array CpInfo := pool [(2, .class_ 4), (1, u "java/lang/CharSequence"), (42, .class_ 48), (0, u "java/lang/CharSequence$1CodePointIterator"), (10, .class_ 60), (0, u "java/lang/CharSequence$1CharIterator"), (5, .class_ 67), (0, u "java/lang/Object")] 63

/-- java/lang/CharSequence -/
def k4 : Class := { plain "java/lang/CharSequence" (some 0) with
  accessFlags := 1537
  interfaces := #[]
  cf := some (fileOf pool4 2 #[.nestMembers #[47, 59]] #[] 1537 66 #[] #[])
  fields := #[]
  methods := #[]
  instanceTypes := #[]
  staticTypes := #[]
  resolved := Array.replicate 131 none
  statics := none }

def pool5 : Array CpInfo := pool [(1, .class_ 2), (0, u "java/lang/constant/Constable"), (0, .class_ 4), (0, u "java/lang/Object")] 6

/-- java/lang/constant/Constable -/
def k5 : Class := { plain "java/lang/constant/Constable" (some 0) with
  accessFlags := 1537
  interfaces := #[]
  cf := some (fileOf pool5 1 #[] #[] 1537 3 #[] #[])
  fields := #[]
  methods := #[]
  instanceTypes := #[]
  staticTypes := #[]
  resolved := Array.replicate 11 none
  statics := none }

def pool6 : Array CpInfo := pool [(1, .class_ 2), (0, u "java/lang/constant/ConstantDesc"), (0, .class_ 4), (0, u "java/lang/Object")] 32

/-- java/lang/constant/ConstantDesc -/
def k6 : Class := { plain "java/lang/constant/ConstantDesc" (some 0) with
  accessFlags := 1537
  interfaces := #[]
  cf := some (fileOf pool6 1 #[] #[] 1537 3 #[] #[])
  fields := #[]
  methods := #[]
  instanceTypes := #[]
  staticTypes := #[]
  resolved := Array.replicate 37 none
  statics := none }

def pool7 : Array CpInfo := pool [(1, .methodref 2 3), (0, .class_ 4), (0, .nameAndType 5 6), (0, u "java/lang/Object"), (0, u "<init>"), (0, u "()V"), (0, .string 8), (0, u ""), (0, .fieldref 10 11), (0, .class_ 12), (0, .nameAndType 13 14), (0, u "java/lang/String"), (0, u "value"), (0, u "[B"), (0, .fieldref 10 16), (0, .nameAndType 17 18), (0, u "coder"), (0, u "B"), (2, u "hash"), (0, u "I"), (2, u "hashIsZero"), (0, u "Z"), (0, .methodref 10 28), (0, .nameAndType 5 29), (0, u "([CIILjava/lang/Void;)V"), (8, .fieldref 10 39), (0, .nameAndType 40 26), (0, u "COMPACT_STRINGS"), (1, .class_ 44), (1, u "java/lang/StringUTF16"), (0, u "compress"), (1, .methodref 42 48), (0, .nameAndType 49 50), (0, u "coderFromArrayLen"), (0, u "([BI)B"), (2, u "toBytes"), (0, .methodref 55 56), (0, .class_ 57), (0, .nameAndType 58 59), (0, u "java/util/Arrays"), (0, u "copyOfRange"), (0, u "([BII)[B"), (47, .class_ 109), (1, u "java/lang/StringLatin1"), (32, u "()Z"), (34, .methodref 42 178), (0, .nameAndType 45 179), (0, u "([CII)[B"), (13, .class_ 195), (1, u "java/lang/System"), (13, .methodref 10 210), (0, .nameAndType 5 211), (0, u "([BB)V"), (0, .methodref 193 213), (0, .nameAndType 214 215), (0, u "arraycopy"), (0, u "(Ljava/lang/Object;ILjava/lang/Object;II)V"), (118, u "()I"), (0, .methodref 10 336), (0, .nameAndType 17 337), (0, u "()B"), (2, u "()[B"), (28, u "(C)Z"), (119, .methodref 10 490), (0, .nameAndType 5 491), (0, u "(Ljava/lang/AbstractStringBuilder;Ljava/lang/Void;)V"), (1, .nameAndType 494 142), (0, u "isLatin1"), (11, .nameAndType 507 334), (0, u "length"), (24, u "getBytes"), (8, .methodref 107 542), (0, .nameAndType 543 544), (0, u "equals"), (0, u "([B[B)Z"), (4, .methodref 550 506), (0, .class_ 551), (0, u "java/lang/AbstractStringBuilder"), (0, .methodref 550 553), (0, .nameAndType 554 340), (0, u "getValue"), (18, u "(Ljava/lang/Object;)Z"), (1, .class_ 576), (0, u "java/lang/CharSequence"), (22, u "CASE_INSENSITIVE_ORDER"), (0, u "Ljava/util/Comparator;"), (181, u "valueOf"), (0, u "(C)Ljava/lang/String;"), (37, u "([BIB)V"), (188, u "([C)V"), (4, .methodref 107 1016), (0, .nameAndType 1017 369), (0, u "canEncode"), (0, .methodref 107 1019), (0, .nameAndType 53 1020), (0, u "(C)[B"), (26, .methodref 550 493), (53, u "serialPersistentFields"), (0, u "[Ljava/io/ObjectStreamField;"), (0, .class_ 1104), (0, u "java/lang/String$CaseInsensitiveComparator"), (1, .class_ 1107), (0, u "java/io/Serializable"), (0, .class_ 1109), (0, u "java/lang/Comparable"), (0, .class_ 1111), (0, u "java/lang/constant/Constable"), (0, .class_ 1113), (0, u "java/lang/constant/ConstantDesc"), (2, u "serialVersionUID"), (0, u "J"), (3, u "REPL"), (0, u "C"), (2, u "LATIN1"), (1, u "UTF16"), (105, u "(Ljava/lang/StringBuilder;)V")] 217

def k7m0 : Method := { name := "<init>", desc := "()V", sig := { parameters := [], returnType := none }, accessFlags := 1, code := none }
def k7c1 : Code := { maxStack := 5, maxLocals := 2, code := jdk_42_method_3_code, exceptionTable := #[], attributes := #[] }
def k7m1 : Method := { name := "<init>", desc := "([C)V", sig := { parameters := [(.array .char)], returnType := none }, accessFlags := 1, code := some k7c1 }
def k7c2 : Code := { maxStack := 3, maxLocals := 2, code := jdk_42_method_53_code, exceptionTable := #[], attributes := #[] }
def k7m2 : Method := { name := "<init>", desc := "(Ljava/lang/StringBuilder;)V", sig := { parameters := [(.object "java/lang/StringBuilder")], returnType := none }, accessFlags := 1, code := some k7c2 }
def k7c3 : Code := { maxStack := 2, maxLocals := 1, code := jdk_42_method_54_code, exceptionTable := #[], attributes := #[] }
def k7m3 : Method := { name := "length", desc := "()I", sig := { parameters := [], returnType := some .int }, accessFlags := 1, code := some k7c3 }
def k7c4 : Code := { maxStack := 2, maxLocals := 3, code := jdk_42_method_66_code, exceptionTable := #[], attributes := #[] }
def k7m4 : Method := { name := "equals", desc := "(Ljava/lang/Object;)Z", sig := { parameters := [(.object "java/lang/Object")], returnType := some .boolean }, accessFlags := 1, code := some k7c4 }
def k7c5 : Code := { maxStack := 4, maxLocals := 1, code := jdk_42_method_139_code, exceptionTable := #[], attributes := #[] }
def k7m5 : Method := { name := "valueOf", desc := "(C)Ljava/lang/String;", sig := { parameters := [.char], returnType := some (.object "java/lang/String") }, accessFlags := 9, code := some k7c5 }
def k7c6 : Code := { maxStack := 5, maxLocals := 4, code := jdk_42_method_147_code, exceptionTable := #[], attributes := #[] }
def k7m6 : Method := { name := "getBytes", desc := "([BIB)V", sig := { parameters := [(.array .byte), .int, .byte], returnType := none }, accessFlags := 0, code := some k7c6 }
def k7c7 : Code := { maxStack := 4, maxLocals := 6, code := jdk_42_method_149_code, exceptionTable := #[], attributes := #[] }
def k7m7 : Method := { name := "<init>", desc := "([CIILjava/lang/Void;)V", sig := { parameters := [(.array .char), .int, .int, (.object "java/lang/Void")], returnType := none }, accessFlags := 2, code := some k7c7 }
def k7c8 : Code := { maxStack := 5, maxLocals := 5, code := jdk_42_method_150_code, exceptionTable := #[], attributes := #[] }
def k7m8 : Method := { name := "<init>", desc := "(Ljava/lang/AbstractStringBuilder;Ljava/lang/Void;)V", sig := { parameters := [(.object "java/lang/AbstractStringBuilder"), (.object "java/lang/Void")], returnType := none }, accessFlags := 0, code := some k7c8 }
def k7c9 : Code := { maxStack := 2, maxLocals := 3, code := jdk_42_method_151_code, exceptionTable := #[], attributes := #[] }
def k7m9 : Method := { name := "<init>", desc := "([BB)V", sig := { parameters := [(.array .byte), .byte], returnType := none }, accessFlags := 0, code := some k7c9 }
def k7c10 : Code := { maxStack := 1, maxLocals := 1, code := jdk_42_method_152_code, exceptionTable := #[], attributes := #[] }
def k7m10 : Method := { name := "coder", desc := "()B", sig := { parameters := [], returnType := some .byte }, accessFlags := 0, code := some k7c10 }
/-- java/lang/String -/
def k7 : Class := { plain "java/lang/String" (some 0) with
  accessFlags := 49
  interfaces := #[2, 3, 4, 5, 6]
  cf := some (fileOf pool7 10 #[.nestMembers #[1103]] #[{ accessFlags := 1, nameIndex := 5, descriptorIndex := 6, attributes := #[] }, { accessFlags := 1, nameIndex := 5, descriptorIndex := 1010, attributes := #[] }, { accessFlags := 1, nameIndex := 5, descriptorIndex := 1233, attributes := #[] }, { accessFlags := 1, nameIndex := 507, descriptorIndex := 334, attributes := #[] }, { accessFlags := 1, nameIndex := 543, descriptorIndex := 573, attributes := #[] }, { accessFlags := 9, nameIndex := 782, descriptorIndex := 783, attributes := #[] }, { accessFlags := 0, nameIndex := 532, descriptorIndex := 821, attributes := #[] }, { accessFlags := 2, nameIndex := 5, descriptorIndex := 29, attributes := #[] }, { accessFlags := 0, nameIndex := 5, descriptorIndex := 491, attributes := #[] }, { accessFlags := 0, nameIndex := 5, descriptorIndex := 211, attributes := #[] }, { accessFlags := 0, nameIndex := 17, descriptorIndex := 337, attributes := #[] }] 49 2 #[1106, 1108, 575, 1110, 1112] #[{ accessFlags := 18, nameIndex := 13, descriptorIndex := 14, attributes := #[] }, { accessFlags := 18, nameIndex := 17, descriptorIndex := 18, attributes := #[] }, { accessFlags := 2, nameIndex := 21, descriptorIndex := 22, attributes := #[] }, { accessFlags := 2, nameIndex := 25, descriptorIndex := 26, attributes := #[] }, { accessFlags := 26, nameIndex := 1116, descriptorIndex := 1117, attributes := #[] }, { accessFlags := 24, nameIndex := 40, descriptorIndex := 26, attributes := #[] }, { accessFlags := 26, nameIndex := 1101, descriptorIndex := 1102, attributes := #[] }, { accessFlags := 26, nameIndex := 1121, descriptorIndex := 1122, attributes := #[] }, { accessFlags := 25, nameIndex := 599, descriptorIndex := 600, attributes := #[] }, { accessFlags := 24, nameIndex := 1125, descriptorIndex := 18, attributes := #[] }, { accessFlags := 24, nameIndex := 1127, descriptorIndex := 18, attributes := #[] }])
  fields := #[{ name := "value", type := (.array .byte), accessFlags := 18, slot := 0, constantValue := 0 }, { name := "coder", type := .byte, accessFlags := 18, slot := 1, constantValue := 0 }, { name := "hash", type := .int, accessFlags := 2, slot := 2, constantValue := 0 }, { name := "hashIsZero", type := .boolean, accessFlags := 2, slot := 3, constantValue := 0 }, { name := "serialVersionUID", type := .long, accessFlags := 26, slot := 0, constantValue := 0 }, { name := "COMPACT_STRINGS", type := .boolean, accessFlags := 24, slot := 1, constantValue := 0 }, { name := "serialPersistentFields", type := (.array (.object "java/io/ObjectStreamField")), accessFlags := 26, slot := 2, constantValue := 0 }, { name := "REPL", type := .char, accessFlags := 26, slot := 3, constantValue := 0 }, { name := "CASE_INSENSITIVE_ORDER", type := (.object "java/util/Comparator"), accessFlags := 25, slot := 4, constantValue := 0 }, { name := "LATIN1", type := .byte, accessFlags := 24, slot := 5, constantValue := 0 }, { name := "UTF16", type := .byte, accessFlags := 24, slot := 6, constantValue := 0 }]
  methods := #[k7m0, k7m1, k7m2, k7m3, k7m4, k7m5, k7m6, k7m7, k7m8, k7m9, k7m10]
  instanceTypes := #[(.array .byte), .byte, .int, .boolean]
  staticTypes := #[.long, .boolean, (.array (.object "java/io/ObjectStreamField")), .char, (.object "java/util/Comparator"), .byte, .byte]
  resolved := Array.replicate 1451 none
  statics := some 0 }

def pool8 : Array CpInfo := pool [(4, .class_ 6), (1, u "java/lang/Object"), (0, u "<init>"), (0, u "()V"), (5, .class_ 16), (1, u "java/lang/StringLatin1"), (73, u "canEncode"), (14, u "(C)Z"), (15, u "$assertionsDisabled"), (0, u "Z"), (98, .class_ 223), (1, u "java/lang/StringLatin1$LinesSpliterator"), (57, u "equals"), (0, u "([B[B)Z"), (97, u "toBytes"), (1, u "(C)[B"), (7, .class_ 391), (0, u "java/lang/StringLatin1$CharsSpliterator")] 3

def k8m0 : Method := { name := "<init>", desc := "()V", sig := { parameters := [], returnType := none }, accessFlags := 0, code := none }
def k8c1 : Code := { maxStack := 2, maxLocals := 1, code := jdk_43_method_3_code, exceptionTable := #[], attributes := #[] }
def k8m1 : Method := { name := "canEncode", desc := "(C)Z", sig := { parameters := [.char], returnType := some .boolean }, accessFlags := 9, code := some k8c1 }
def k8c2 : Code := { maxStack := 3, maxLocals := 3, code := jdk_43_method_13_code, exceptionTable := #[], attributes := #[] }
def k8m2 : Method := { name := "equals", desc := "([B[B)Z", sig := { parameters := [(.array .byte), (.array .byte)], returnType := some .boolean }, accessFlags := 9, code := some k8c2 }
def k8c3 : Code := { maxStack := 4, maxLocals := 1, code := jdk_43_method_46_code, exceptionTable := #[], attributes := #[] }
def k8m3 : Method := { name := "toBytes", desc := "(C)[B", sig := { parameters := [.char], returnType := some (.array .byte) }, accessFlags := 9, code := some k8c3 }
/-- java/lang/StringLatin1 -/
def k8 : Class := { plain "java/lang/StringLatin1" (some 0) with
  accessFlags := 48
  interfaces := #[]
  cf := some (fileOf pool8 14 #[.nestMembers #[390, 221]] #[{ accessFlags := 0, nameIndex := 7, descriptorIndex := 8, attributes := #[] }, { accessFlags := 9, nameIndex := 90, descriptorIndex := 105, attributes := #[] }, { accessFlags := 9, nameIndex := 281, descriptorIndex := 282, attributes := #[] }, { accessFlags := 9, nameIndex := 380, descriptorIndex := 382, attributes := #[] }] 48 4 #[] #[{ accessFlags := 4120, nameIndex := 121, descriptorIndex := 122, attributes := #[] }])
  fields := #[{ name := "$assertionsDisabled", type := .boolean, accessFlags := 4120, slot := 0, constantValue := 0 }]
  methods := #[k8m0, k8m1, k8m2, k8m3]
  instanceTypes := #[]
  staticTypes := #[.boolean]
  resolved := Array.replicate 395 none
  statics := none }

def pool9 : Array CpInfo := pool [(6, .class_ 8), (1, u "java/lang/Object"), (0, u "<init>"), (0, u "()V"), (1, .class_ 14), (1, u "java/lang/StringUTF16"), (31, u "$assertionsDisabled"), (0, u "Z"), (13, u "HI_BYTE_SHIFT"), (0, u "I"), (2, u "LO_BYTE_SHIFT"), (49, .methodref 12 116), (0, .nameAndType 117 118), (0, u "compress"), (0, u "([CI[BII)I"), (3, u "([CII)[B"), (138, u "coderFromArrayLen"), (0, u "([BI)B"), (106, .class_ 371), (1, u "java/lang/StringUTF16$LinesSpliterator"), (58, u "MAX_LENGTH"), (196, .class_ 628), (0, u "java/lang/StringUTF16$CodePointsSpliterator"), (0, .class_ 630), (0, u "java/lang/StringUTF16$CharsSpliterator")] 4

def k9m0 : Method := { name := "<init>", desc := "()V", sig := { parameters := [], returnType := none }, accessFlags := 0, code := none }
def k9c1 : Code := { maxStack := 2, maxLocals := 2, code := jdk_52_method_15_code, exceptionTable := #[], attributes := #[] }
def k9m1 : Method := { name := "coderFromArrayLen", desc := "([BI)B", sig := { parameters := [(.array .byte), .int], returnType := some .byte }, accessFlags := 8, code := some k9c1 }
def k9c2 : Code := { maxStack := 5, maxLocals := 6, code := jdk_52_method_16_code, exceptionTable := #[], attributes := #[] }
def k9m2 : Method := { name := "compress", desc := "([CII)[B", sig := { parameters := [(.array .char), .int, .int], returnType := some (.array .byte) }, accessFlags := 9, code := some k9c2 }
def k9c3 : Code := { maxStack := 3, maxLocals := 7, code := jdk_52_method_21_code, exceptionTable := #[], attributes := #[] }
def k9m3 : Method := { name := "compress", desc := "([CI[BII)I", sig := { parameters := [(.array .char), .int, (.array .byte), .int, .int], returnType := some .int }, accessFlags := 9, code := some k9c3 }
/-- java/lang/StringUTF16 -/
def k9 : Class := { plain "java/lang/StringUTF16" (some 0) with
  accessFlags := 48
  interfaces := #[]
  cf := some (fileOf pool9 12 #[.nestMembers #[627, 629, 369]] #[{ accessFlags := 0, nameIndex := 9, descriptorIndex := 10, attributes := #[] }, { accessFlags := 8, nameIndex := 261, descriptorIndex := 262, attributes := #[] }, { accessFlags := 9, nameIndex := 117, descriptorIndex := 122, attributes := #[] }, { accessFlags := 9, nameIndex := 117, descriptorIndex := 118, attributes := #[] }] 48 6 #[] #[{ accessFlags := 26, nameIndex := 61, descriptorIndex := 62, attributes := #[] }, { accessFlags := 26, nameIndex := 65, descriptorIndex := 62, attributes := #[] }, { accessFlags := 24, nameIndex := 430, descriptorIndex := 62, attributes := #[] }, { accessFlags := 4120, nameIndex := 46, descriptorIndex := 47, attributes := #[] }])
  fields := #[{ name := "HI_BYTE_SHIFT", type := .int, accessFlags := 26, slot := 0, constantValue := 0 }, { name := "LO_BYTE_SHIFT", type := .int, accessFlags := 26, slot := 1, constantValue := 0 }, { name := "MAX_LENGTH", type := .int, accessFlags := 24, slot := 2, constantValue := 0 }, { name := "$assertionsDisabled", type := .boolean, accessFlags := 4120, slot := 3, constantValue := 0 }]
  methods := #[k9m0, k9m1, k9m2, k9m3]
  instanceTypes := #[]
  staticTypes := #[.int, .int, .int, .boolean]
  resolved := Array.replicate 635 none
  statics := none }

def pool10 : Array CpInfo := pool [(1, .class_ 2), (0, u "java/lang/StringBuilder"), (0, .methodref 1 4), (0, .nameAndType 5 6), (0, u "<init>"), (0, u "()V"), (0, .methodref 1 8), (0, .nameAndType 9 10), (0, u "append"), (0, u "(Ljava/lang/String;)Ljava/lang/StringBuilder;"), (0, .methodref 1 12), (0, .nameAndType 9 13), (0, u "(C)Ljava/lang/StringBuilder;"), (0, .methodref 1 15), (0, .nameAndType 16 17), (0, u "toString"), (0, u "()Ljava/lang/String;"), (0, .methodref 19 20), (0, .class_ 21), (0, .nameAndType 5 22), (0, u "com/example/breakwater/breakwater/engine/Address"), (0, u "(Ljava/lang/String;Ljava/lang/String;Ljava/lang/String;Ljava/lang/String;)V"), (0, .methodref 24 4), (0, .class_ 25), (0, u "java/lang/Object"), (0, .fieldref 19 27), (0, .nameAndType 28 29), (0, u "scope"), (0, u "Ljava/lang/String;"), (0, .fieldref 19 31), (0, .nameAndType 32 29), (0, u "service"), (0, .fieldref 19 34), (0, .nameAndType 35 29), (0, u "endpoint"), (0, .fieldref 19 37), (0, .nameAndType 38 29), (0, u "text"), (8, .class_ 49), (1, u "java/lang/String"), (74, .methodref 47 125), (0, .nameAndType 126 127), (0, u "equals"), (0, u "(Ljava/lang/Object;)Z"), (3, u "KIND"), (1, u "(Ljava/lang/String;Ljava/lang/String;Ljava/lang/String;)V")] 13

def k10c0 : Code := { maxStack := 6, maxLocals := 4, code := prog_1_method_1_code, exceptionTable := #[], attributes := #[] }
def k10m0 : Method := { name := "<init>", desc := "(Ljava/lang/String;Ljava/lang/String;Ljava/lang/String;)V", sig := { parameters := [(.object "java/lang/String"), (.object "java/lang/String"), (.object "java/lang/String")], returnType := none }, accessFlags := 0, code := some k10c0 }
def k10c1 : Code := { maxStack := 2, maxLocals := 5, code := prog_1_method_2_code, exceptionTable := #[], attributes := #[] }
def k10m1 : Method := { name := "<init>", desc := "(Ljava/lang/String;Ljava/lang/String;Ljava/lang/String;Ljava/lang/String;)V", sig := { parameters := [(.object "java/lang/String"), (.object "java/lang/String"), (.object "java/lang/String"), (.object "java/lang/String")], returnType := none }, accessFlags := 2, code := some k10c1 }
def k10c2 : Code := { maxStack := 2, maxLocals := 3, code := prog_1_method_11_code, exceptionTable := #[], attributes := #[] }
def k10m2 : Method := { name := "equals", desc := "(Ljava/lang/Object;)Z", sig := { parameters := [(.object "java/lang/Object")], returnType := some .boolean }, accessFlags := 1, code := some k10c2 }
/-- com/example/breakwater/breakwater/engine/Address -/
def k10 : Class := { plain "com/example/breakwater/breakwater/engine/Address" (some 0) with
  accessFlags := 33
  interfaces := #[]
  cf := some (fileOf pool10 19 #[] #[{ accessFlags := 0, nameIndex := 5, descriptorIndex := 133, attributes := #[] }, { accessFlags := 2, nameIndex := 5, descriptorIndex := 22, attributes := #[] }, { accessFlags := 1, nameIndex := 126, descriptorIndex := 127, attributes := #[] }] 33 24 #[] #[{ accessFlags := 26, nameIndex := 131, descriptorIndex := 29, attributes := #[] }, { accessFlags := 18, nameIndex := 28, descriptorIndex := 29, attributes := #[] }, { accessFlags := 18, nameIndex := 32, descriptorIndex := 29, attributes := #[] }, { accessFlags := 18, nameIndex := 35, descriptorIndex := 29, attributes := #[] }, { accessFlags := 18, nameIndex := 38, descriptorIndex := 29, attributes := #[] }])
  fields := #[{ name := "KIND", type := (.object "java/lang/String"), accessFlags := 26, slot := 0, constantValue := 0 }, { name := "scope", type := (.object "java/lang/String"), accessFlags := 18, slot := 0, constantValue := 0 }, { name := "service", type := (.object "java/lang/String"), accessFlags := 18, slot := 1, constantValue := 0 }, { name := "endpoint", type := (.object "java/lang/String"), accessFlags := 18, slot := 2, constantValue := 0 }, { name := "text", type := (.object "java/lang/String"), accessFlags := 18, slot := 3, constantValue := 0 }]
  methods := #[k10m0, k10m1, k10m2]
  instanceTypes := #[(.object "java/lang/String"), (.object "java/lang/String"), (.object "java/lang/String"), (.object "java/lang/String")]
  staticTypes := #[(.object "java/lang/String")]
  resolved := Array.replicate 147 none
  statics := none }

def pool11 : Array CpInfo := pool [(1, .class_ 2), (0, u "java/lang/Appendable"), (0, .class_ 4), (0, u "java/lang/Object")] 9

/-- java/lang/Appendable -/
def k11 : Class := { plain "java/lang/Appendable" (some 0) with
  accessFlags := 1537
  interfaces := #[]
  cf := some (fileOf pool11 1 #[] #[] 1537 3 #[] #[])
  fields := #[]
  methods := #[]
  instanceTypes := #[]
  staticTypes := #[]
  resolved := Array.replicate 14 none
  statics := none }

def pool12 : Array CpInfo := pool [(1, .class_ 2), (0, u "java/lang/String"), (0, .methodref 4 5), (0, .class_ 6), (0, .nameAndType 7 8), (0, u "java/lang/Object"), (0, u "<init>"), (0, u "()V"), (1, .class_ 12), (1, u "java/lang/AbstractStringBuilder"), (0, u "EMPTYVALUE"), (0, u "[B"), (0, .fieldref 10 16), (0, .nameAndType 17 14), (0, u "value"), (0, .fieldref 1 19), (0, .nameAndType 20 21), (0, u "COMPACT_STRINGS"), (0, u "Z"), (0, .fieldref 10 23), (0, .nameAndType 24 25), (0, u "coder"), (0, u "B"), (6, .methodref 1 33), (0, .nameAndType 34 35), (0, u "length"), (0, u "()I"), (4, .methodref 1 41), (0, .nameAndType 24 42), (0, u "()B"), (2, u "append"), (0, u "(Ljava/lang/String;)Ljava/lang/AbstractStringBuilder;"), (1, .class_ 49), (0, u "java/lang/CharSequence"), (19, u "(Ljava/lang/String;)V"), (5, u "maybeLatin1"), (3, .fieldref 10 80), (0, .nameAndType 81 82), (0, u "count"), (0, u "I"), (0, .methodref 10 84), (0, .nameAndType 85 86), (0, u "isLatin1"), (0, u "()Z"), (1, .class_ 90), (1, u "java/lang/StringLatin1"), (9, .methodref 10 101), (0, .nameAndType 102 103), (0, u "ensureCapacityInternal"), (0, u "(I)V"), (87, .methodref 88 192), (0, .nameAndType 193 194), (0, u "canEncode"), (0, u "(C)Z"), (13, .methodref 10 209), (0, .nameAndType 210 211), (0, u "putStringAt"), (0, u "(ILjava/lang/String;)V"), (5, u "inflateIfNeededFor"), (2, .nameAndType 221 222), (0, u "getBytes"), (0, u "([BIB)V"), (69, u "(C)Ljava/lang/AbstractStringBuilder;"), (104, .methodref 10 398), (0, .nameAndType 217 69), (0, .methodref 1 220), (3, u "()[B"), (40, .class_ 445), (0, u "java/lang/Appendable"), (106, u "getValue")] 56

def k12m0 : Method := { name := "<init>", desc := "()V", sig := { parameters := [], returnType := none }, accessFlags := 0, code := none }
def k12c1 : Code := { maxStack := 2, maxLocals := 2, code := jdk_68_method_2_code, exceptionTable := #[], attributes := #[] }
def k12m1 : Method := { name := "<init>", desc := "(I)V", sig := { parameters := [.int], returnType := none }, accessFlags := 0, code := some k12c1 }
def k12c2 : Code := { maxStack := 1, maxLocals := 1, code := jdk_68_method_6_code, exceptionTable := #[], attributes := #[] }
def k12m2 : Method := { name := "length", desc := "()I", sig := { parameters := [], returnType := some .int }, accessFlags := 1, code := some k12c2 }
def k12c3 : Code := { maxStack := 4, maxLocals := 3, code := jdk_68_method_9_code, exceptionTable := #[], attributes := #[] }
def k12m3 : Method := { name := "ensureCapacityInternal", desc := "(I)V", sig := { parameters := [.int], returnType := none }, accessFlags := 2, code := some k12c3 }
def k12c4 : Code := { maxStack := 3, maxLocals := 3, code := jdk_68_method_22_code, exceptionTable := #[], attributes := #[] }
def k12m4 : Method := { name := "append", desc := "(Ljava/lang/String;)Ljava/lang/AbstractStringBuilder;", sig := { parameters := [(.object "java/lang/String")], returnType := some (.object "java/lang/AbstractStringBuilder") }, accessFlags := 1, code := some k12c4 }
def k12c5 : Code := { maxStack := 5, maxLocals := 2, code := jdk_68_method_31_code, exceptionTable := #[], attributes := #[] }
def k12m5 : Method := { name := "append", desc := "(C)Ljava/lang/AbstractStringBuilder;", sig := { parameters := [.char], returnType := some (.object "java/lang/AbstractStringBuilder") }, accessFlags := 1, code := some k12c5 }
def k12c6 : Code := { maxStack := 1, maxLocals := 1, code := jdk_68_method_64_code, exceptionTable := #[], attributes := #[] }
def k12m6 : Method := { name := "getValue", desc := "()[B", sig := { parameters := [], returnType := some (.array .byte) }, accessFlags := 16, code := some k12c6 }
def k12c7 : Code := { maxStack := 1, maxLocals := 1, code := jdk_68_method_68_code, exceptionTable := #[], attributes := #[] }
def k12m7 : Method := { name := "isLatin1", desc := "()Z", sig := { parameters := [], returnType := some .boolean }, accessFlags := 16, code := some k12c7 }
def k12c8 : Code := { maxStack := 2, maxLocals := 2, code := jdk_68_method_71_code, exceptionTable := #[], attributes := #[] }
def k12m8 : Method := { name := "inflateIfNeededFor", desc := "(Ljava/lang/String;)V", sig := { parameters := [(.object "java/lang/String")], returnType := none }, accessFlags := 2, code := some k12c8 }
def k12c9 : Code := { maxStack := 4, maxLocals := 3, code := jdk_68_method_73_code, exceptionTable := #[], attributes := #[] }
def k12m9 : Method := { name := "putStringAt", desc := "(ILjava/lang/String;)V", sig := { parameters := [.int, (.object "java/lang/String")], returnType := none }, accessFlags := 2, code := some k12c9 }
/-- java/lang/AbstractStringBuilder -/
def k12 : Class := { plain "java/lang/AbstractStringBuilder" (some 0) with
  accessFlags := 1056
  interfaces := #[11, 4]
  cf := some (fileOf pool12 10 #[] #[{ accessFlags := 0, nameIndex := 7, descriptorIndex := 8, attributes := #[] }, { accessFlags := 0, nameIndex := 7, descriptorIndex := 103, attributes := #[] }, { accessFlags := 1, nameIndex := 34, descriptorIndex := 35, attributes := #[] }, { accessFlags := 2, nameIndex := 102, descriptorIndex := 103, attributes := #[] }, { accessFlags := 1, nameIndex := 45, descriptorIndex := 46, attributes := #[] }, { accessFlags := 1, nameIndex := 45, descriptorIndex := 292, attributes := #[] }, { accessFlags := 16, nameIndex := 552, descriptorIndex := 403, attributes := #[] }, { accessFlags := 16, nameIndex := 85, descriptorIndex := 86, attributes := #[] }, { accessFlags := 2, nameIndex := 217, descriptorIndex := 69, attributes := #[] }, { accessFlags := 2, nameIndex := 210, descriptorIndex := 211, attributes := #[] }] 1056 4 #[444, 48] #[{ accessFlags := 0, nameIndex := 17, descriptorIndex := 14, attributes := #[] }, { accessFlags := 0, nameIndex := 24, descriptorIndex := 25, attributes := #[] }, { accessFlags := 0, nameIndex := 75, descriptorIndex := 21, attributes := #[] }, { accessFlags := 0, nameIndex := 81, descriptorIndex := 82, attributes := #[] }, { accessFlags := 26, nameIndex := 13, descriptorIndex := 14, attributes := #[] }])
  fields := #[{ name := "value", type := (.array .byte), accessFlags := 0, slot := 0, constantValue := 0 }, { name := "coder", type := .byte, accessFlags := 0, slot := 1, constantValue := 0 }, { name := "maybeLatin1", type := .boolean, accessFlags := 0, slot := 2, constantValue := 0 }, { name := "count", type := .int, accessFlags := 0, slot := 3, constantValue := 0 }, { name := "EMPTYVALUE", type := (.array .byte), accessFlags := 26, slot := 0, constantValue := 0 }]
  methods := #[k12m0, k12m1, k12m2, k12m3, k12m4, k12m5, k12m6, k12m7, k12m8, k12m9]
  instanceTypes := #[(.array .byte), .byte, .boolean, .int]
  staticTypes := #[(.array .byte)]
  resolved := Array.replicate 609 none
  statics := none }

def pool13 : Array CpInfo := pool [(1, .methodref 2 3), (0, .class_ 4), (0, .nameAndType 5 6), (0, u "java/lang/AbstractStringBuilder"), (0, u "<init>"), (0, u "(I)V"), (11, .class_ 20), (1, u "java/lang/String"), (3, .class_ 26), (1, u "java/lang/StringBuilder"), (0, u "append"), (0, u "(Ljava/lang/String;)Ljava/lang/StringBuilder;"), (0, .methodref 2 30), (0, .nameAndType 27 31), (0, u "(Ljava/lang/String;)Ljava/lang/AbstractStringBuilder;"), (18, .methodref 2 51), (0, .nameAndType 27 52), (0, u "(C)Ljava/lang/AbstractStringBuilder;"), (84, .methodref 18 138), (0, .nameAndType 5 139), (0, u "(Ljava/lang/StringBuilder;)V"), (5, u "()V"), (10, u "()I"), (129, u "(C)Ljava/lang/StringBuilder;"), (56, .methodref 2 344), (0, .nameAndType 345 156), (0, u "length"), (3, .class_ 350), (0, u "java/lang/Appendable"), (0, .class_ 352), (0, u "java/io/Serializable"), (0, .class_ 354), (0, u "java/lang/Comparable"), (0, .class_ 356), (0, u "java/lang/CharSequence"), (0, u "serialVersionUID"), (0, u "J"), (40, u "toString"), (0, u "()Ljava/lang/String;")] 21

def k13c0 : Code := { maxStack := 2, maxLocals := 1, code := jdk_67_method_1_code, exceptionTable := #[], attributes := #[] }
def k13m0 : Method := { name := "<init>", desc := "()V", sig := { parameters := [], returnType := none }, accessFlags := 1, code := some k13c0 }
def k13c1 : Code := { maxStack := 2, maxLocals := 2, code := jdk_67_method_7_code, exceptionTable := #[], attributes := #[] }
def k13m1 : Method := { name := "append", desc := "(Ljava/lang/String;)Ljava/lang/StringBuilder;", sig := { parameters := [(.object "java/lang/String")], returnType := some (.object "java/lang/StringBuilder") }, accessFlags := 1, code := some k13c1 }
def k13c2 : Code := { maxStack := 2, maxLocals := 2, code := jdk_67_method_14_code, exceptionTable := #[], attributes := #[] }
def k13m2 : Method := { name := "append", desc := "(C)Ljava/lang/StringBuilder;", sig := { parameters := [.char], returnType := some (.object "java/lang/StringBuilder") }, accessFlags := 1, code := some k13c2 }
def k13c3 : Code := { maxStack := 3, maxLocals := 1, code := jdk_67_method_42_code, exceptionTable := #[], attributes := #[] }
def k13m3 : Method := { name := "toString", desc := "()Ljava/lang/String;", sig := { parameters := [], returnType := some (.object "java/lang/String") }, accessFlags := 1, code := some k13c3 }
def k13c4 : Code := { maxStack := 1, maxLocals := 1, code := jdk_67_method_93_code, exceptionTable := #[], attributes := #[] }
def k13m4 : Method := { name := "length", desc := "()I", sig := { parameters := [], returnType := some .int }, accessFlags := 4161, code := some k13c4 }
/-- java/lang/StringBuilder -/
def k13 : Class := { plain "java/lang/StringBuilder" (some 12) with
  accessFlags := 49
  interfaces := #[11, 2, 3, 4]
  cf := some (fileOf pool13 24 #[] #[{ accessFlags := 1, nameIndex := 5, descriptorIndex := 145, attributes := #[] }, { accessFlags := 1, nameIndex := 27, descriptorIndex := 28, attributes := #[] }, { accessFlags := 1, nameIndex := 27, descriptorIndex := 286, attributes := #[] }, { accessFlags := 1, nameIndex := 399, descriptorIndex := 400, attributes := #[] }, { accessFlags := 4161, nameIndex := 345, descriptorIndex := 156, attributes := #[] }] 49 2 #[349, 351, 353, 355] #[{ accessFlags := 24, nameIndex := 357, descriptorIndex := 358, attributes := #[] }])
  fields := #[{ name := "serialVersionUID", type := .long, accessFlags := 24, slot := 0, constantValue := 0 }]
  methods := #[k13m0, k13m1, k13m2, k13m3, k13m4]
  instanceTypes := #[(.array .byte), .byte, .boolean, .int]
  staticTypes := #[.long]
  resolved := Array.replicate 422 none
  statics := none }

def pool14 : Array CpInfo := pool [(2, .class_ 4), (1, u "java/lang/Object"), (0, u "<init>"), (0, u "()V"), (1, .class_ 10), (1, u "java/lang/System"), (0, u "allowSecurityManager"), (0, u "I"), (16, u "cons"), (0, u "Ljava/io/Console;"), (77, .class_ 110), (1, u "java/lang/System$CallersHolder"), (43, u "initialErrStream"), (0, u "Ljava/io/PrintStream;"), (19, u "security"), (0, u "Ljava/lang/SecurityManager;"), (31, .class_ 209), (0, u "java/lang/System$1"), (7, u "props"), (0, u "Ljava/util/Properties;"), (2, u "lineSeparator"), (0, u "Ljava/lang/String;"), (96, .class_ 321), (1, u "java/lang/System$LoggerFinder"), (5, .class_ 328), (0, u "java/lang/System$Logger"), (67, u "err"), (2, u "out"), (91, u "notSupportedJnuEncoding"), (15, u "in"), (17, u "initialIn"), (0, u "Ljava/io/InputStream;"), (35, u "bootLayer"), (0, u "Ljava/lang/ModuleLayer;"), (99, .class_ 664), (0, u "java/lang/System$2"), (9, u "NEVER"), (2, u "MAYBE"), (49, u "arraycopy"), (0, u "(Ljava/lang/Object;ILjava/lang/Object;II)V"), (72, .class_ 802), (0, u "java/lang/System$Logger$Level")] 31

def k14m0 : Method := { name := "<init>", desc := "()V", sig := { parameters := [], returnType := none }, accessFlags := 2, code := none }
def k14m1 : Method := { name := "arraycopy", desc := "(Ljava/lang/Object;ILjava/lang/Object;II)V", sig := { parameters := [(.object "java/lang/Object"), .int, (.object "java/lang/Object"), .int, .int], returnType := none }, accessFlags := 265, code := none }
/-- java/lang/System -/
def k14 : Class := { plain "java/lang/System" (some 0) with
  accessFlags := 49
  interfaces := #[]
  cf := some (fileOf pool14 8 #[.nestMembers #[319, 327, 801, 108, 663, 208]] #[{ accessFlags := 2, nameIndex := 5, descriptorIndex := 6, attributes := #[] }, { accessFlags := 265, nameIndex := 727, descriptorIndex := 728, attributes := #[] }] 49 2 #[] #[{ accessFlags := 25, nameIndex := 507, descriptorIndex := 526, attributes := #[] }, { accessFlags := 25, nameIndex := 399, descriptorIndex := 155, attributes := #[] }, { accessFlags := 25, nameIndex := 396, descriptorIndex := 155, attributes := #[] }, { accessFlags := 10, nameIndex := 525, descriptorIndex := 526, attributes := #[] }, { accessFlags := 26, nameIndex := 674, descriptorIndex := 12, attributes := #[] }, { accessFlags := 26, nameIndex := 677, descriptorIndex := 12, attributes := #[] }, { accessFlags := 10, nameIndex := 11, descriptorIndex := 12, attributes := #[] }, { accessFlags := 74, nameIndex := 175, descriptorIndex := 176, attributes := #[] }, { accessFlags := 10, nameIndex := 491, descriptorIndex := 222, attributes := #[] }, { accessFlags := 74, nameIndex := 29, descriptorIndex := 30, attributes := #[] }, { accessFlags := 74, nameIndex := 154, descriptorIndex := 155, attributes := #[] }, { accessFlags := 10, nameIndex := 217, descriptorIndex := 218, attributes := #[] }, { accessFlags := 10, nameIndex := 221, descriptorIndex := 222, attributes := #[] }, { accessFlags := 8, nameIndex := 562, descriptorIndex := 563, attributes := #[] }])
  fields := #[{ name := "in", type := (.object "java/io/InputStream"), accessFlags := 25, slot := 0, constantValue := 0 }, { name := "out", type := (.object "java/io/PrintStream"), accessFlags := 25, slot := 1, constantValue := 0 }, { name := "err", type := (.object "java/io/PrintStream"), accessFlags := 25, slot := 2, constantValue := 0 }, { name := "initialIn", type := (.object "java/io/InputStream"), accessFlags := 10, slot := 3, constantValue := 0 }, { name := "NEVER", type := .int, accessFlags := 26, slot := 4, constantValue := 0 }, { name := "MAYBE", type := .int, accessFlags := 26, slot := 5, constantValue := 0 }, { name := "allowSecurityManager", type := .int, accessFlags := 10, slot := 6, constantValue := 0 }, { name := "security", type := (.object "java/lang/SecurityManager"), accessFlags := 74, slot := 7, constantValue := 0 }, { name := "notSupportedJnuEncoding", type := (.object "java/lang/String"), accessFlags := 10, slot := 8, constantValue := 0 }, { name := "cons", type := (.object "java/io/Console"), accessFlags := 74, slot := 9, constantValue := 0 }, { name := "initialErrStream", type := (.object "java/io/PrintStream"), accessFlags := 74, slot := 10, constantValue := 0 }, { name := "props", type := (.object "java/util/Properties"), accessFlags := 10, slot := 11, constantValue := 0 }, { name := "lineSeparator", type := (.object "java/lang/String"), accessFlags := 10, slot := 12, constantValue := 0 }, { name := "bootLayer", type := (.object "java/lang/ModuleLayer"), accessFlags := 8, slot := 13, constantValue := 0 }]
  methods := #[k14m0, k14m1]
  instanceTypes := #[]
  staticTypes := #[(.object "java/io/InputStream"), (.object "java/io/PrintStream"), (.object "java/io/PrintStream"), (.object "java/io/InputStream"), .int, .int, .int, (.object "java/lang/SecurityManager"), (.object "java/lang/String"), (.object "java/io/Console"), (.object "java/io/PrintStream"), (.object "java/util/Properties"), (.object "java/lang/String"), (.object "java/lang/ModuleLayer")]
  resolved := Array.replicate 834 none
  statics := none }

def pool15 : Array CpInfo := pool [(2, .class_ 4), (1, u "java/lang/Object"), (0, u "<init>"), (0, u "()V"), (7, .class_ 16), (1, u "java/util/Arrays"), (57, .class_ 76), (1, u "java/util/Arrays$NaturalOrder"), (36, .class_ 115), (1, u "java/util/Arrays$LegacyMergeSort"), (1, u "Z"), (21, u "copyOfRange"), (10, .methodref 151 152), (0, .class_ 153), (0, .nameAndType 154 155), (0, u "java/lang/System"), (0, u "arraycopy"), (0, u "(Ljava/lang/Object;ILjava/lang/Object;II)V"), (148, .methodref 305 306), (0, .class_ 307), (0, .nameAndType 308 309), (0, u "java/lang/Math"), (0, u "min"), (0, u "(II)I"), (29, .methodref 14 340), (0, .nameAndType 341 342), (0, u "copyOfRangeByte"), (0, u "([BII)[B"), (0, .methodref 14 344), (0, .nameAndType 345 346), (0, u "checkLength"), (0, u "(II)V"), (28, .class_ 376), (0, u "java/util/Arrays$ArrayList"), (68, u "$assertionsDisabled"), (269, u "MIN_ARRAY_SORT_GRAN"), (0, u "I"), (2, u "INSERTIONSORT_THRESHOLD"), (255, .class_ 976), (0, u "java/util/Arrays$ArrayItr")] 52

def k15m0 : Method := { name := "<init>", desc := "()V", sig := { parameters := [], returnType := none }, accessFlags := 2, code := none }
def k15c1 : Code := { maxStack := 4, maxLocals := 2, code := jdk_65_method_131_code, exceptionTable := #[], attributes := #[] }
def k15m1 : Method := { name := "checkLength", desc := "(II)V", sig := { parameters := [.int, .int], returnType := none }, accessFlags := 10, code := some k15c1 }
def k15c2 : Code := { maxStack := 3, maxLocals := 3, code := jdk_65_method_132_code, exceptionTable := #[], attributes := #[] }
def k15m2 : Method := { name := "copyOfRange", desc := "([BII)[B", sig := { parameters := [(.array .byte), .int, .int], returnType := some (.array .byte) }, accessFlags := 9, code := some k15c2 }
def k15c3 : Code := { maxStack := 6, maxLocals := 5, code := jdk_65_method_133_code, exceptionTable := #[], attributes := #[] }
def k15m3 : Method := { name := "copyOfRangeByte", desc := "([BII)[B", sig := { parameters := [(.array .byte), .int, .int], returnType := some (.array .byte) }, accessFlags := 10, code := some k15c3 }
/-- java/util/Arrays -/
def k15 : Class := { plain "java/util/Arrays" (some 0) with
  accessFlags := 49
  interfaces := #[]
  cf := some (fileOf pool15 14 #[.nestMembers #[975, 375, 113, 74]] #[{ accessFlags := 2, nameIndex := 5, descriptorIndex := 6, attributes := #[] }, { accessFlags := 10, nameIndex := 345, descriptorIndex := 346, attributes := #[] }, { accessFlags := 9, nameIndex := 139, descriptorIndex := 342, attributes := #[] }, { accessFlags := 10, nameIndex := 341, descriptorIndex := 342, attributes := #[] }] 49 2 #[] #[{ accessFlags := 26, nameIndex := 715, descriptorIndex := 716, attributes := #[] }, { accessFlags := 26, nameIndex := 719, descriptorIndex := 716, attributes := #[] }, { accessFlags := 4120, nameIndex := 445, descriptorIndex := 117, attributes := #[] }])
  fields := #[{ name := "MIN_ARRAY_SORT_GRAN", type := .int, accessFlags := 26, slot := 0, constantValue := 0 }, { name := "INSERTIONSORT_THRESHOLD", type := .int, accessFlags := 26, slot := 1, constantValue := 0 }, { name := "$assertionsDisabled", type := .boolean, accessFlags := 4120, slot := 2, constantValue := 0 }]
  methods := #[k15m0, k15m1, k15m2, k15m3]
  instanceTypes := #[]
  staticTypes := #[.int, .int, .boolean]
  resolved := Array.replicate 1029 none
  statics := none }

def pool16 : Array CpInfo := pool [(1, .class_ 2), (0, u "java/lang/Math"), (1, .class_ 6), (1, u "java/lang/Object"), (0, u "<init>"), (0, u "()V"), (89, .class_ 100), (1, u "java/lang/Math$RandomNumberGeneratorHolder"), (71, u "negativeZeroFloatBits"), (0, u "J"), (2, u "negativeZeroDoubleBits"), (24, u "min"), (43, u "$assertionsDisabled"), (0, u "Z"), (88, u "(II)I"), (2, u "twoToTheDoubleScaleDown"), (0, u "D"), (4, u "twoToTheDoubleScaleUp"), (9, u "E"), (3, u "PI"), (2, u "TAU"), (2, u "DEGREES_TO_RADIANS"), (0, u "RADIANS_TO_DEGREES")] 94

def k16m0 : Method := { name := "<init>", desc := "()V", sig := { parameters := [], returnType := none }, accessFlags := 2, code := none }
def k16c1 : Code := { maxStack := 2, maxLocals := 2, code := jdk_29_method_69_code, exceptionTable := #[], attributes := #[] }
def k16m1 : Method := { name := "min", desc := "(II)I", sig := { parameters := [.int, .int], returnType := some .int }, accessFlags := 9, code := some k16c1 }
/-- java/lang/Math -/
def k16 : Class := { plain "java/lang/Math" (some 0) with
  accessFlags := 49
  interfaces := #[]
  cf := some (fileOf pool16 1 #[.nestMembers #[98]] #[{ accessFlags := 2, nameIndex := 7, descriptorIndex := 8, attributes := #[] }, { accessFlags := 9, nameIndex := 201, descriptorIndex := 335, attributes := #[] }] 49 4 #[] #[{ accessFlags := 25, nameIndex := 354, descriptorIndex := 339, attributes := #[] }, { accessFlags := 25, nameIndex := 358, descriptorIndex := 339, attributes := #[] }, { accessFlags := 25, nameIndex := 361, descriptorIndex := 339, attributes := #[] }, { accessFlags := 26, nameIndex := 364, descriptorIndex := 339, attributes := #[] }, { accessFlags := 26, nameIndex := 365, descriptorIndex := 339, attributes := #[] }, { accessFlags := 26, nameIndex := 172, descriptorIndex := 173, attributes := #[] }, { accessFlags := 26, nameIndex := 176, descriptorIndex := 173, attributes := #[] }, { accessFlags := 8, nameIndex := 344, descriptorIndex := 339, attributes := #[] }, { accessFlags := 8, nameIndex := 338, descriptorIndex := 339, attributes := #[] }, { accessFlags := 4120, nameIndex := 245, descriptorIndex := 246, attributes := #[] }])
  fields := #[{ name := "E", type := .double, accessFlags := 25, slot := 0, constantValue := 0 }, { name := "PI", type := .double, accessFlags := 25, slot := 1, constantValue := 0 }, { name := "TAU", type := .double, accessFlags := 25, slot := 2, constantValue := 0 }, { name := "DEGREES_TO_RADIANS", type := .double, accessFlags := 26, slot := 3, constantValue := 0 }, { name := "RADIANS_TO_DEGREES", type := .double, accessFlags := 26, slot := 4, constantValue := 0 }, { name := "negativeZeroFloatBits", type := .long, accessFlags := 26, slot := 5, constantValue := 0 }, { name := "negativeZeroDoubleBits", type := .long, accessFlags := 26, slot := 6, constantValue := 0 }, { name := "twoToTheDoubleScaleUp", type := .double, accessFlags := 8, slot := 7, constantValue := 0 }, { name := "twoToTheDoubleScaleDown", type := .double, accessFlags := 8, slot := 8, constantValue := 0 }, { name := "$assertionsDisabled", type := .boolean, accessFlags := 4120, slot := 9, constantValue := 0 }]
  methods := #[k16m0, k16m1]
  instanceTypes := #[]
  staticTypes := #[.double, .double, .double, .double, .double, .long, .long, .double, .double, .boolean]
  resolved := Array.replicate 460 none
  statics := none }

def pool17 : Array CpInfo := pool [(2, .class_ 4), (1, u "java/lang/Object"), (0, u "<init>"), (0, u "()V"), (17, .class_ 26), (1, u "jdk/internal/util/Preconditions"), (28, .class_ 56), (0, u "jdk/internal/util/Preconditions$4"), (57, .class_ 115), (0, u "jdk/internal/util/Preconditions$1"), (7, u "SIOOBE_FORMATTER"), (0, u "Ljava/util/function/BiFunction;"), (0, .class_ 126), (0, u "jdk/internal/util/Preconditions$2"), (3, u "AIOOBE_FORMATTER"), (0, .class_ 132), (0, u "jdk/internal/util/Preconditions$3"), (3, u "IOOBE_FORMATTER")] 57

def k17m0 : Method := { name := "<init>", desc := "()V", sig := { parameters := [], returnType := none }, accessFlags := 1, code := none }
/-- jdk/internal/util/Preconditions -/
def k17 : Class := { plain "jdk/internal/util/Preconditions" (some 0) with
  accessFlags := 33
  interfaces := #[]
  cf := some (fileOf pool17 24 #[.nestMembers #[55, 131, 125, 114]] #[{ accessFlags := 1, nameIndex := 5, descriptorIndex := 6, attributes := #[] }] 33 2 #[] #[{ accessFlags := 25, nameIndex := 123, descriptorIndex := 124, attributes := #[] }, { accessFlags := 25, nameIndex := 130, descriptorIndex := 124, attributes := #[] }, { accessFlags := 25, nameIndex := 136, descriptorIndex := 124, attributes := #[] }])
  fields := #[{ name := "SIOOBE_FORMATTER", type := (.object "java/util/function/BiFunction"), accessFlags := 25, slot := 0, constantValue := 0 }, { name := "AIOOBE_FORMATTER", type := (.object "java/util/function/BiFunction"), accessFlags := 25, slot := 1, constantValue := 0 }, { name := "IOOBE_FORMATTER", type := (.object "java/util/function/BiFunction"), accessFlags := 25, slot := 2, constantValue := 0 }]
  methods := #[k17m0]
  instanceTypes := #[]
  staticTypes := #[(.object "java/util/function/BiFunction"), (.object "java/util/function/BiFunction"), (.object "java/util/function/BiFunction")]
  resolved := Array.replicate 194 none
  statics := some 1 }

def pool18 : Array CpInfo := pool [(9, u "<init>"), (6, .class_ 18), (1, u "java/lang/Object"), (0, u "()V"), (1, .class_ 23), (1, u "jdk/internal/util/ArraysSupport"), (0, u "LOG2_ARRAY_LONG_INDEX_SCALE"), (0, u "I"), (2, u "U"), (0, u "Ljdk/internal/misc/Unsafe;"), (8, u "BIG_ENDIAN"), (0, u "Z"), (8, u "LOG2_BYTE_BIT_SIZE"), (4, u "LOG2_ARRAY_INT_INDEX_SCALE"), (54, u "JLA"), (0, u "Ljdk/internal/access/JavaLangAccess;"), (11, u "LOG2_ARRAY_BOOLEAN_INDEX_SCALE"), (9, u "LOG2_ARRAY_BYTE_INDEX_SCALE"), (5, u "LOG2_ARRAY_CHAR_INDEX_SCALE"), (5, u "LOG2_ARRAY_SHORT_INDEX_SCALE"), (18, u "LOG2_ARRAY_FLOAT_INDEX_SCALE"), (24, u "LOG2_ARRAY_DOUBLE_INDEX_SCALE"), (89, u "T_BOOLEAN"), (2, u "T_CHAR"), (1, u "T_FLOAT"), (1, u "T_DOUBLE"), (1, u "T_BYTE"), (1, u "T_SHORT"), (1, u "T_INT"), (1, u "T_LONG"), (1, u "SOFT_MAX_ARRAY_LENGTH")] 83

def k18m0 : Method := { name := "<init>", desc := "()V", sig := { parameters := [], returnType := none }, accessFlags := 2, code := none }
/-- jdk/internal/util/ArraysSupport -/
def k18 : Class := { plain "jdk/internal/util/ArraysSupport" (some 0) with
  accessFlags := 33
  interfaces := #[]
  cf := some (fileOf pool18 21 #[] #[{ accessFlags := 2, nameIndex := 9, descriptorIndex := 19, attributes := #[] }] 33 16 #[] #[{ accessFlags := 24, nameIndex := 28, descriptorIndex := 29, attributes := #[] }, { accessFlags := 26, nameIndex := 38, descriptorIndex := 39, attributes := #[] }, { accessFlags := 25, nameIndex := 121, descriptorIndex := 25, attributes := #[] }, { accessFlags := 25, nameIndex := 131, descriptorIndex := 25, attributes := #[] }, { accessFlags := 25, nameIndex := 137, descriptorIndex := 25, attributes := #[] }, { accessFlags := 25, nameIndex := 143, descriptorIndex := 25, attributes := #[] }, { accessFlags := 25, nameIndex := 53, descriptorIndex := 25, attributes := #[] }, { accessFlags := 25, nameIndex := 24, descriptorIndex := 25, attributes := #[] }, { accessFlags := 25, nameIndex := 162, descriptorIndex := 25, attributes := #[] }, { accessFlags := 25, nameIndex := 187, descriptorIndex := 25, attributes := #[] }, { accessFlags := 26, nameIndex := 48, descriptorIndex := 25, attributes := #[] }, { accessFlags := 25, nameIndex := 277, descriptorIndex := 25, attributes := #[] }, { accessFlags := 25, nameIndex := 280, descriptorIndex := 25, attributes := #[] }, { accessFlags := 25, nameIndex := 282, descriptorIndex := 25, attributes := #[] }, { accessFlags := 25, nameIndex := 284, descriptorIndex := 25, attributes := #[] }, { accessFlags := 25, nameIndex := 286, descriptorIndex := 25, attributes := #[] }, { accessFlags := 25, nameIndex := 288, descriptorIndex := 25, attributes := #[] }, { accessFlags := 25, nameIndex := 290, descriptorIndex := 25, attributes := #[] }, { accessFlags := 25, nameIndex := 292, descriptorIndex := 25, attributes := #[] }, { accessFlags := 26, nameIndex := 108, descriptorIndex := 109, attributes := #[] }, { accessFlags := 25, nameIndex := 294, descriptorIndex := 25, attributes := #[] }])
  fields := #[{ name := "U", type := (.object "jdk/internal/misc/Unsafe"), accessFlags := 24, slot := 0, constantValue := 0 }, { name := "BIG_ENDIAN", type := .boolean, accessFlags := 26, slot := 1, constantValue := 0 }, { name := "LOG2_ARRAY_BOOLEAN_INDEX_SCALE", type := .int, accessFlags := 25, slot := 2, constantValue := 0 }, { name := "LOG2_ARRAY_BYTE_INDEX_SCALE", type := .int, accessFlags := 25, slot := 3, constantValue := 0 }, { name := "LOG2_ARRAY_CHAR_INDEX_SCALE", type := .int, accessFlags := 25, slot := 4, constantValue := 0 }, { name := "LOG2_ARRAY_SHORT_INDEX_SCALE", type := .int, accessFlags := 25, slot := 5, constantValue := 0 }, { name := "LOG2_ARRAY_INT_INDEX_SCALE", type := .int, accessFlags := 25, slot := 6, constantValue := 0 }, { name := "LOG2_ARRAY_LONG_INDEX_SCALE", type := .int, accessFlags := 25, slot := 7, constantValue := 0 }, { name := "LOG2_ARRAY_FLOAT_INDEX_SCALE", type := .int, accessFlags := 25, slot := 8, constantValue := 0 }, { name := "LOG2_ARRAY_DOUBLE_INDEX_SCALE", type := .int, accessFlags := 25, slot := 9, constantValue := 0 }, { name := "LOG2_BYTE_BIT_SIZE", type := .int, accessFlags := 26, slot := 10, constantValue := 0 }, { name := "T_BOOLEAN", type := .int, accessFlags := 25, slot := 11, constantValue := 0 }, { name := "T_CHAR", type := .int, accessFlags := 25, slot := 12, constantValue := 0 }, { name := "T_FLOAT", type := .int, accessFlags := 25, slot := 13, constantValue := 0 }, { name := "T_DOUBLE", type := .int, accessFlags := 25, slot := 14, constantValue := 0 }, { name := "T_BYTE", type := .int, accessFlags := 25, slot := 15, constantValue := 0 }, { name := "T_SHORT", type := .int, accessFlags := 25, slot := 16, constantValue := 0 }, { name := "T_INT", type := .int, accessFlags := 25, slot := 17, constantValue := 0 }, { name := "T_LONG", type := .int, accessFlags := 25, slot := 18, constantValue := 0 }, { name := "JLA", type := (.object "jdk/internal/access/JavaLangAccess"), accessFlags := 26, slot := 19, constantValue := 0 }, { name := "SOFT_MAX_ARRAY_LENGTH", type := .int, accessFlags := 25, slot := 20, constantValue := 0 }]
  methods := #[k18m0]
  instanceTypes := #[]
  staticTypes := #[(.object "jdk/internal/misc/Unsafe"), .boolean, .int, .int, .int, .int, .int, .int, .int, .int, .int, .int, .int, .int, .int, .int, .int, .int, .int, (.object "jdk/internal/access/JavaLangAccess"), .int]
  resolved := Array.replicate 378 none
  statics := none }

def pool19 : Array CpInfo := pool [(1, u "java/lang/Cloneable"), (0, .class_ 1), (0, u "java/lang/Object"), (0, .class_ 3)] 3

/-- java/lang/Cloneable -/
def k19 : Class := { plain "java/lang/Cloneable" (some 0) with
  accessFlags := 1537
  interfaces := #[]
  cf := some (fileOf pool19 2 #[] #[] 1537 4 #[] #[])
  fields := #[]
  methods := #[]
  instanceTypes := #[]
  staticTypes := #[]
  resolved := Array.replicate 8 none
  statics := none }

/-- the primitive byte -/
def k20 : Class := { plain "byte" none with kind := .primitive 'B', accessFlags := 0x411 }
/-- [B -/
def k21 : Class := { plain "[B" (some 0) with kind := .array 20 .byte, interfaces := #[19, 2], accessFlags := 1041 }

/-- the primitive char -/
def k22 : Class := { plain "char" none with kind := .primitive 'C', accessFlags := 0x411 }
/-- [C -/
def k23 : Class := { plain "[C" (some 0) with kind := .array 22 .char, interfaces := #[19, 2], accessFlags := 1041 }

/-- the primitive int -/
def k24 : Class := { plain "int" none with kind := .primitive 'I', accessFlags := 0x411 }
/-- [I -/
def k25 : Class := { plain "[I" (some 0) with kind := .array 24 .int, interfaces := #[19, 2], accessFlags := 1041 }

def heap : Heap := #[{ cls := 7, slots := #[.long 0, .int 1, .null, .int 0, .null, .int 0, .int 0], vm := .statics 7 },
  { cls := 17, slots := #[.null, .null, .null], vm := .statics 17 }]
def classes : Array Class := #[k0, k1, k2, k3, k4, k5, k6, k7, k8, k9, k10, k11, k12, k13, k14, k15, k16, k17, k18, k19, k20, k21, k22, k23, k24, k25]
def interned : List (Array UInt16 × Addr) := []
def slotsUsed : Nat := 10
def theMethod : MethodId := ⟨1, 5⟩
def args0 : Array Value := #[.int 5, .int 6, .int 7]
def aboutOver (below : List Frame) : State where
  vm := { classes := classes, interned := interned.toArray }
  heap := heap
  slotsUsed := slotsUsed
  threads := #[{ frames := .invoking theMethod args0 :: below }]
def below0 : List Frame := [.native { method := ⟨0, 0⟩, args := #[] }]
def about1 : State := aboutOver below0
def p0 : Program := .bare "" "" ""
def e0 : Env := launch0.env 0 0 0
theorem w_frames : about1.frames = Frame.invoking theMethod args0 :: below0 := rfl
set_option maxRecDepth 65536 in
theorem w_args : argsFit about1.vm theMethod args0 = true := by decide +kernel
set_option maxRecDepth 65536 in
theorem w_heap : heapFits about1 = true := by decide +kernel
set_option maxRecDepth 65536 in
theorem w_runnable : about1.curStatus? = some .runnable := by decide +kernel
set_option maxRecDepth 65536 in
theorem w_alone : about1.alone = true := by decide +kernel
set_option maxRecDepth 65536 in
theorem w_named : about1.methodNamed? x = some theMethod := by decide +kernel
set_option maxRecDepth 65536 in
theorem w_hears : about1.hears theMethod below0 = true := by decide +kernel
set_option maxRecDepth 65536 in
theorem w_ripe : about1.ripe theMethod args0 below0 = true := by decide +kernel
theorem w_running : about1.status = .running := rfl
set_option maxRecDepth 65536 in
theorem w_room : about1.hasRoom e0.platform room_1 = true :=
  launch0.hasRoom_least _ room_1 (by decide +kernel) (by decide +kernel) (by decide +kernel) (by decide +kernel) (by decide +kernel) (by decide +kernel)
theorem allAtoms_all (ts : List Jvm.Cond) (a : Array Jvm.Value) (st : Jvm.State) : (allAtoms ts).before a st = ts.all (fun c => c.before a st) := by
  induction ts with
  | nil => rfl
  | cons c t ih =>
    show (Jvm.Cond.and c (allAtoms t)).before a st = _
    rw [Jvm.Cond.before_and, ih, List.all_cons]
def words1 : List Jvm.Cond := Jvm.Cond.code x code maxLocals ret :: tables_1
/-- a 'code' word, met by the world's own term for the bytes: nothing is compared byte by byte -/
theorem code_word {y : MethodName} {bytes : ByteArray} {mx : Nat} {rt : Option FieldType} {a : Array Value} {s : State} {m : MethodId} {meth : Method} {c : Code} (h1 : s.methodNamed? y = some m) (h2 : s.vm.method? m = some meth) (h3 : meth.code = some c) (h4 : c.code = bytes)
    (h5 : (c.maxLocals == mx && c.exceptionTable.isEmpty && decide (c.maxStack ≤ mostOperands) && decide (meth.sig.returnType = rt) && !meth.locks && decide (parseMethodDescriptor y.desc = some meth.sig)) = true) : (Jvm.Cond.code y bytes mx rt).before a s = true := by
  simp only [Bool.and_eq_true, beq_iff_eq, Bool.not_eq_true', decide_eq_true_eq] at h5
  obtain ⟨⟨⟨⟨⟨g1, g2⟩, g3⟩, g4⟩, g5⟩, g6⟩ := h5
  simp [Cond.before, Cond.holds, Cond.value, h1, h2, h3, h4, g1, g2, g3, g4, g5, g6]
def isCode : Jvm.Cond → Bool
  | .code _ _ _ _ => true
  | _ => false
theorem all_split {L : List Jvm.Cond} {P : Jvm.Cond → Bool} (h1 : L.all (fun c => isCode c || P c) = true) (h2 : ∀ c ∈ L.filter isCode, P c = true) : L.all P = true := by
  refine List.all_eq_true.mpr fun c hc => ?_
  have h := List.all_eq_true.mp h1 c hc
  rcases Bool.eq_false_or_eq_true (isCode c) with hi | hi
  · exact h2 c (List.mem_filter.mpr ⟨hc, hi⟩)
  · simpa [hi] using h
set_option maxRecDepth 65536 in
theorem w_c0 : (Jvm.Cond.code x code maxLocals ret).before args0 about1 = true := code_word (m := ⟨1, 5⟩) (meth := k1m5) (c := k1c5) (by decide +kernel) rfl rfl rfl (by decide +kernel)
set_option maxRecDepth 65536 in
theorem w_c1 : (Jvm.Cond.code ({ cls := "com/example/breakwater/breakwater/engine/AddressEqualsPinLaw", name := "name", desc := "(I)Ljava/lang/String;" } : Jvm.MethodName) method_4_code (3 : Nat) (Option.some (Jvm.ClassFile.FieldType.object "java/lang/String"))).before args0 about1 = true := code_word (m := ⟨1, 3⟩) (meth := k1m3) (c := k1c3) (by decide +kernel) rfl rfl rfl (by decide +kernel)
set_option maxRecDepth 65536 in
theorem w_c2 : (Jvm.Cond.code ({ cls := "com/example/breakwater/breakwater/engine/AddressEqualsPinLaw", name := "nameChar", desc := "(I)C" } : Jvm.MethodName) method_2_code (2 : Nat) (Option.some Jvm.ClassFile.FieldType.char)).before args0 about1 = true := code_word (m := ⟨1, 1⟩) (meth := k1m1) (c := k1c1) (by decide +kernel) rfl rfl rfl (by decide +kernel)
set_option maxRecDepth 65536 in
theorem w_c3 : (Jvm.Cond.code ({ cls := "java/lang/String", name := "valueOf", desc := "(C)Ljava/lang/String;" } : Jvm.MethodName) jdk_42_method_139_code (1 : Nat) (Option.some (Jvm.ClassFile.FieldType.object "java/lang/String"))).before args0 about1 = true := code_word (m := ⟨7, 5⟩) (meth := k7m5) (c := k7c5) (by decide +kernel) rfl rfl rfl (by decide +kernel)
set_option maxRecDepth 65536 in
theorem w_c4 : (Jvm.Cond.code ({ cls := "java/lang/StringLatin1", name := "canEncode", desc := "(C)Z" } : Jvm.MethodName) jdk_43_method_3_code (1 : Nat) (Option.some Jvm.ClassFile.FieldType.boolean)).before args0 about1 = true := code_word (m := ⟨8, 1⟩) (meth := k8m1) (c := k8c1) (by decide +kernel) rfl rfl rfl (by decide +kernel)
set_option maxRecDepth 65536 in
theorem w_c5 : (Jvm.Cond.code ({ cls := "java/lang/StringLatin1", name := "toBytes", desc := "(C)[B" } : Jvm.MethodName) jdk_43_method_46_code (1 : Nat) (Option.some (Jvm.ClassFile.FieldType.array Jvm.ClassFile.FieldType.byte))).before args0 about1 = true := code_word (m := ⟨8, 3⟩) (meth := k8m3) (c := k8c3) (by decide +kernel) rfl rfl rfl (by decide +kernel)
set_option maxRecDepth 65536 in
theorem w_c6 : (Jvm.Cond.code ({ cls := "java/lang/String", name := "<init>", desc := "([BB)V" } : Jvm.MethodName) jdk_42_method_151_code (3 : Nat) (Option.none : Option Jvm.ClassFile.FieldType)).before args0 about1 = true := code_word (m := ⟨7, 9⟩) (meth := k7m9) (c := k7c9) (by decide +kernel) rfl rfl rfl (by decide +kernel)
set_option maxRecDepth 65536 in
theorem w_c7 : (Jvm.Cond.code ({ cls := "java/lang/Object", name := "<init>", desc := "()V" } : Jvm.MethodName) object_method_1_code (1 : Nat) (Option.none : Option Jvm.ClassFile.FieldType)).before args0 about1 = true := code_word (m := ⟨0, 0⟩) (meth := k0m0) (c := k0c0) (by decide +kernel) rfl rfl rfl (by decide +kernel)
set_option maxRecDepth 65536 in
theorem w_c8 : (Jvm.Cond.code ({ cls := "com/example/breakwater/breakwater/engine/AddressEqualsPinLaw", name := "endpoint", desc := "(I)Ljava/lang/String;" } : Jvm.MethodName) method_5_code (4 : Nat) (Option.some (Jvm.ClassFile.FieldType.object "java/lang/String"))).before args0 about1 = true := code_word (m := ⟨1, 4⟩) (meth := k1m4) (c := k1c4) (by decide +kernel) rfl rfl rfl (by decide +kernel)
set_option maxRecDepth 65536 in
theorem w_c9 : (Jvm.Cond.code ({ cls := "java/lang/String", name := "<init>", desc := "([C)V" } : Jvm.MethodName) jdk_42_method_3_code (2 : Nat) (Option.none : Option Jvm.ClassFile.FieldType)).before args0 about1 = true := code_word (m := ⟨7, 1⟩) (meth := k7m1) (c := k7c1) (by decide +kernel) rfl rfl rfl (by decide +kernel)
set_option maxRecDepth 65536 in
theorem w_c10 : (Jvm.Cond.code ({ cls := "java/lang/String", name := "<init>", desc := "([CIILjava/lang/Void;)V" } : Jvm.MethodName) jdk_42_method_149_code (6 : Nat) (Option.none : Option Jvm.ClassFile.FieldType)).before args0 about1 = true := code_word (m := ⟨7, 7⟩) (meth := k7m7) (c := k7c7) (by decide +kernel) rfl rfl rfl (by decide +kernel)
set_option maxRecDepth 65536 in
theorem w_c11 : (Jvm.Cond.code ({ cls := "java/lang/StringUTF16", name := "compress", desc := "([CII)[B" } : Jvm.MethodName) jdk_52_method_16_code (6 : Nat) (Option.some (Jvm.ClassFile.FieldType.array Jvm.ClassFile.FieldType.byte))).before args0 about1 = true := code_word (m := ⟨9, 2⟩) (meth := k9m2) (c := k9c2) (by decide +kernel) rfl rfl rfl (by decide +kernel)
set_option maxRecDepth 65536 in
theorem w_c12 : (Jvm.Cond.code ({ cls := "java/lang/StringUTF16", name := "compress", desc := "([CI[BII)I" } : Jvm.MethodName) jdk_52_method_21_code (7 : Nat) (Option.some Jvm.ClassFile.FieldType.int)).before args0 about1 = true := code_word (m := ⟨9, 3⟩) (meth := k9m3) (c := k9c3) (by decide +kernel) rfl rfl rfl (by decide +kernel)
set_option maxRecDepth 65536 in
theorem w_c13 : (Jvm.Cond.code ({ cls := "java/lang/StringUTF16", name := "coderFromArrayLen", desc := "([BI)B" } : Jvm.MethodName) jdk_52_method_15_code (2 : Nat) (Option.some Jvm.ClassFile.FieldType.byte)).before args0 about1 = true := code_word (m := ⟨9, 1⟩) (meth := k9m1) (c := k9c1) (by decide +kernel) rfl rfl rfl (by decide +kernel)
set_option maxRecDepth 65536 in
theorem w_c14 : (Jvm.Cond.code ({ cls := "com/example/breakwater/breakwater/engine/Address", name := "<init>", desc := "(Ljava/lang/String;Ljava/lang/String;Ljava/lang/String;)V" } : Jvm.MethodName) prog_1_method_1_code (4 : Nat) (Option.none : Option Jvm.ClassFile.FieldType)).before args0 about1 = true := code_word (m := ⟨10, 0⟩) (meth := k10m0) (c := k10c0) (by decide +kernel) rfl rfl rfl (by decide +kernel)
set_option maxRecDepth 65536 in
theorem w_c15 : (Jvm.Cond.code ({ cls := "java/lang/StringBuilder", name := "<init>", desc := "()V" } : Jvm.MethodName) jdk_67_method_1_code (1 : Nat) (Option.none : Option Jvm.ClassFile.FieldType)).before args0 about1 = true := code_word (m := ⟨13, 0⟩) (meth := k13m0) (c := k13c0) (by decide +kernel) rfl rfl rfl (by decide +kernel)
set_option maxRecDepth 65536 in
theorem w_c16 : (Jvm.Cond.code ({ cls := "java/lang/AbstractStringBuilder", name := "<init>", desc := "(I)V" } : Jvm.MethodName) jdk_68_method_2_code (2 : Nat) (Option.none : Option Jvm.ClassFile.FieldType)).before args0 about1 = true := code_word (m := ⟨12, 1⟩) (meth := k12m1) (c := k12c1) (by decide +kernel) rfl rfl rfl (by decide +kernel)
set_option maxRecDepth 65536 in
theorem w_c17 : (Jvm.Cond.code ({ cls := "java/lang/StringBuilder", name := "append", desc := "(Ljava/lang/String;)Ljava/lang/StringBuilder;" } : Jvm.MethodName) jdk_67_method_7_code (2 : Nat) (Option.some (Jvm.ClassFile.FieldType.object "java/lang/StringBuilder"))).before args0 about1 = true := code_word (m := ⟨13, 1⟩) (meth := k13m1) (c := k13c1) (by decide +kernel) rfl rfl rfl (by decide +kernel)
set_option maxRecDepth 65536 in
theorem w_c18 : (Jvm.Cond.code ({ cls := "java/lang/AbstractStringBuilder", name := "append", desc := "(Ljava/lang/String;)Ljava/lang/AbstractStringBuilder;" } : Jvm.MethodName) jdk_68_method_22_code (3 : Nat) (Option.some (Jvm.ClassFile.FieldType.object "java/lang/AbstractStringBuilder"))).before args0 about1 = true := code_word (m := ⟨12, 4⟩) (meth := k12m4) (c := k12c4) (by decide +kernel) rfl rfl rfl (by decide +kernel)
set_option maxRecDepth 65536 in
theorem w_c19 : (Jvm.Cond.code ({ cls := "java/lang/String", name := "length", desc := "()I" } : Jvm.MethodName) jdk_42_method_54_code (1 : Nat) (Option.some Jvm.ClassFile.FieldType.int)).before args0 about1 = true := code_word (m := ⟨7, 3⟩) (meth := k7m3) (c := k7c3) (by decide +kernel) rfl rfl rfl (by decide +kernel)
set_option maxRecDepth 65536 in
theorem w_c20 : (Jvm.Cond.code ({ cls := "java/lang/String", name := "coder", desc := "()B" } : Jvm.MethodName) jdk_42_method_152_code (1 : Nat) (Option.some Jvm.ClassFile.FieldType.byte)).before args0 about1 = true := code_word (m := ⟨7, 10⟩) (meth := k7m10) (c := k7c10) (by decide +kernel) rfl rfl rfl (by decide +kernel)
set_option maxRecDepth 65536 in
theorem w_c21 : (Jvm.Cond.code ({ cls := "java/lang/AbstractStringBuilder", name := "ensureCapacityInternal", desc := "(I)V" } : Jvm.MethodName) jdk_68_method_9_code (3 : Nat) (Option.none : Option Jvm.ClassFile.FieldType)).before args0 about1 = true := code_word (m := ⟨12, 3⟩) (meth := k12m3) (c := k12c3) (by decide +kernel) rfl rfl rfl (by decide +kernel)
set_option maxRecDepth 65536 in
theorem w_c22 : (Jvm.Cond.code ({ cls := "java/lang/AbstractStringBuilder", name := "putStringAt", desc := "(ILjava/lang/String;)V" } : Jvm.MethodName) jdk_68_method_73_code (3 : Nat) (Option.none : Option Jvm.ClassFile.FieldType)).before args0 about1 = true := code_word (m := ⟨12, 9⟩) (meth := k12m9) (c := k12c9) (by decide +kernel) rfl rfl rfl (by decide +kernel)
set_option maxRecDepth 65536 in
theorem w_c23 : (Jvm.Cond.code ({ cls := "java/lang/AbstractStringBuilder", name := "inflateIfNeededFor", desc := "(Ljava/lang/String;)V" } : Jvm.MethodName) jdk_68_method_71_code (2 : Nat) (Option.none : Option Jvm.ClassFile.FieldType)).before args0 about1 = true := code_word (m := ⟨12, 8⟩) (meth := k12m8) (c := k12c8) (by decide +kernel) rfl rfl rfl (by decide +kernel)
set_option maxRecDepth 65536 in
theorem w_c24 : (Jvm.Cond.code ({ cls := "java/lang/String", name := "getBytes", desc := "([BIB)V" } : Jvm.MethodName) jdk_42_method_147_code (4 : Nat) (Option.none : Option Jvm.ClassFile.FieldType)).before args0 about1 = true := code_word (m := ⟨7, 6⟩) (meth := k7m6) (c := k7c6) (by decide +kernel) rfl rfl rfl (by decide +kernel)
set_option maxRecDepth 65536 in
theorem w_c25 : (Jvm.Cond.code ({ cls := "java/lang/StringBuilder", name := "append", desc := "(C)Ljava/lang/StringBuilder;" } : Jvm.MethodName) jdk_67_method_14_code (2 : Nat) (Option.some (Jvm.ClassFile.FieldType.object "java/lang/StringBuilder"))).before args0 about1 = true := code_word (m := ⟨13, 2⟩) (meth := k13m2) (c := k13c2) (by decide +kernel) rfl rfl rfl (by decide +kernel)
set_option maxRecDepth 65536 in
theorem w_c26 : (Jvm.Cond.code ({ cls := "java/lang/AbstractStringBuilder", name := "append", desc := "(C)Ljava/lang/AbstractStringBuilder;" } : Jvm.MethodName) jdk_68_method_31_code (2 : Nat) (Option.some (Jvm.ClassFile.FieldType.object "java/lang/AbstractStringBuilder"))).before args0 about1 = true := code_word (m := ⟨12, 5⟩) (meth := k12m5) (c := k12c5) (by decide +kernel) rfl rfl rfl (by decide +kernel)
set_option maxRecDepth 65536 in
theorem w_c27 : (Jvm.Cond.code ({ cls := "java/lang/AbstractStringBuilder", name := "isLatin1", desc := "()Z" } : Jvm.MethodName) jdk_68_method_68_code (1 : Nat) (Option.some Jvm.ClassFile.FieldType.boolean)).before args0 about1 = true := code_word (m := ⟨12, 7⟩) (meth := k12m7) (c := k12c7) (by decide +kernel) rfl rfl rfl (by decide +kernel)
set_option maxRecDepth 65536 in
theorem w_c28 : (Jvm.Cond.code ({ cls := "java/lang/StringBuilder", name := "toString", desc := "()Ljava/lang/String;" } : Jvm.MethodName) jdk_67_method_42_code (1 : Nat) (Option.some (Jvm.ClassFile.FieldType.object "java/lang/String"))).before args0 about1 = true := code_word (m := ⟨13, 3⟩) (meth := k13m3) (c := k13c3) (by decide +kernel) rfl rfl rfl (by decide +kernel)
set_option maxRecDepth 65536 in
theorem w_c29 : (Jvm.Cond.code ({ cls := "java/lang/String", name := "<init>", desc := "(Ljava/lang/StringBuilder;)V" } : Jvm.MethodName) jdk_42_method_53_code (2 : Nat) (Option.none : Option Jvm.ClassFile.FieldType)).before args0 about1 = true := code_word (m := ⟨7, 2⟩) (meth := k7m2) (c := k7c2) (by decide +kernel) rfl rfl rfl (by decide +kernel)
set_option maxRecDepth 65536 in
theorem w_c30 : (Jvm.Cond.code ({ cls := "java/lang/String", name := "<init>", desc := "(Ljava/lang/AbstractStringBuilder;Ljava/lang/Void;)V" } : Jvm.MethodName) jdk_42_method_150_code (5 : Nat) (Option.none : Option Jvm.ClassFile.FieldType)).before args0 about1 = true := code_word (m := ⟨7, 8⟩) (meth := k7m8) (c := k7c8) (by decide +kernel) rfl rfl rfl (by decide +kernel)
set_option maxRecDepth 65536 in
theorem w_c31 : (Jvm.Cond.code ({ cls := "java/lang/AbstractStringBuilder", name := "getValue", desc := "()[B" } : Jvm.MethodName) jdk_68_method_64_code (1 : Nat) (Option.some (Jvm.ClassFile.FieldType.array Jvm.ClassFile.FieldType.byte))).before args0 about1 = true := code_word (m := ⟨12, 6⟩) (meth := k12m6) (c := k12c6) (by decide +kernel) rfl rfl rfl (by decide +kernel)
set_option maxRecDepth 65536 in
theorem w_c32 : (Jvm.Cond.code ({ cls := "java/lang/StringBuilder", name := "length", desc := "()I" } : Jvm.MethodName) jdk_67_method_93_code (1 : Nat) (Option.some Jvm.ClassFile.FieldType.int)).before args0 about1 = true := code_word (m := ⟨13, 4⟩) (meth := k13m4) (c := k13c4) (by decide +kernel) rfl rfl rfl (by decide +kernel)
set_option maxRecDepth 65536 in
theorem w_c33 : (Jvm.Cond.code ({ cls := "java/lang/AbstractStringBuilder", name := "length", desc := "()I" } : Jvm.MethodName) jdk_68_method_6_code (1 : Nat) (Option.some Jvm.ClassFile.FieldType.int)).before args0 about1 = true := code_word (m := ⟨12, 2⟩) (meth := k12m2) (c := k12c2) (by decide +kernel) rfl rfl rfl (by decide +kernel)
set_option maxRecDepth 65536 in
theorem w_c34 : (Jvm.Cond.code ({ cls := "java/util/Arrays", name := "copyOfRange", desc := "([BII)[B" } : Jvm.MethodName) jdk_65_method_132_code (3 : Nat) (Option.some (Jvm.ClassFile.FieldType.array Jvm.ClassFile.FieldType.byte))).before args0 about1 = true := code_word (m := ⟨15, 2⟩) (meth := k15m2) (c := k15c2) (by decide +kernel) rfl rfl rfl (by decide +kernel)
set_option maxRecDepth 65536 in
theorem w_c35 : (Jvm.Cond.code ({ cls := "java/util/Arrays", name := "copyOfRangeByte", desc := "([BII)[B" } : Jvm.MethodName) jdk_65_method_133_code (5 : Nat) (Option.some (Jvm.ClassFile.FieldType.array Jvm.ClassFile.FieldType.byte))).before args0 about1 = true := code_word (m := ⟨15, 3⟩) (meth := k15m3) (c := k15c3) (by decide +kernel) rfl rfl rfl (by decide +kernel)
set_option maxRecDepth 65536 in
theorem w_c36 : (Jvm.Cond.code ({ cls := "java/util/Arrays", name := "checkLength", desc := "(II)V" } : Jvm.MethodName) jdk_65_method_131_code (2 : Nat) (Option.none : Option Jvm.ClassFile.FieldType)).before args0 about1 = true := code_word (m := ⟨15, 1⟩) (meth := k15m1) (c := k15c1) (by decide +kernel) rfl rfl rfl (by decide +kernel)
set_option maxRecDepth 65536 in
theorem w_c37 : (Jvm.Cond.code ({ cls := "java/lang/Math", name := "min", desc := "(II)I" } : Jvm.MethodName) jdk_29_method_69_code (2 : Nat) (Option.some Jvm.ClassFile.FieldType.int)).before args0 about1 = true := code_word (m := ⟨16, 1⟩) (meth := k16m1) (c := k16c1) (by decide +kernel) rfl rfl rfl (by decide +kernel)
set_option maxRecDepth 65536 in
theorem w_c38 : (Jvm.Cond.code ({ cls := "com/example/breakwater/breakwater/engine/Address", name := "<init>", desc := "(Ljava/lang/String;Ljava/lang/String;Ljava/lang/String;Ljava/lang/String;)V" } : Jvm.MethodName) prog_1_method_2_code (5 : Nat) (Option.none : Option Jvm.ClassFile.FieldType)).before args0 about1 = true := code_word (m := ⟨10, 1⟩) (meth := k10m1) (c := k10c1) (by decide +kernel) rfl rfl rfl (by decide +kernel)
set_option maxRecDepth 65536 in
theorem w_c39 : (Jvm.Cond.code ({ cls := "java/lang/String", name := "equals", desc := "(Ljava/lang/Object;)Z" } : Jvm.MethodName) jdk_42_method_66_code (3 : Nat) (Option.some Jvm.ClassFile.FieldType.boolean)).before args0 about1 = true := code_word (m := ⟨7, 4⟩) (meth := k7m4) (c := k7c4) (by decide +kernel) rfl rfl rfl (by decide +kernel)
set_option maxRecDepth 65536 in
theorem w_c40 : (Jvm.Cond.code ({ cls := "java/lang/StringLatin1", name := "equals", desc := "([B[B)Z" } : Jvm.MethodName) jdk_43_method_13_code (3 : Nat) (Option.some Jvm.ClassFile.FieldType.boolean)).before args0 about1 = true := code_word (m := ⟨8, 2⟩) (meth := k8m2) (c := k8c2) (by decide +kernel) rfl rfl rfl (by decide +kernel)
set_option maxRecDepth 65536 in
theorem w_c41 : (Jvm.Cond.code ({ cls := "com/example/breakwater/breakwater/engine/Address", name := "equals", desc := "(Ljava/lang/Object;)Z" } : Jvm.MethodName) prog_1_method_11_code (3 : Nat) (Option.some Jvm.ClassFile.FieldType.boolean)).before args0 about1 = true := code_word (m := ⟨10, 2⟩) (meth := k10m2) (c := k10c2) (by decide +kernel) rfl rfl rfl (by decide +kernel)
set_option maxRecDepth 65536 in
theorem w_c42 : (Jvm.Cond.code ({ cls := "com/example/breakwater/breakwater/engine/AddressEqualsPinLaw", name := "endChar", desc := "(I)C" } : Jvm.MethodName) method_3_code (2 : Nat) (Option.some Jvm.ClassFile.FieldType.char)).before args0 about1 = true := code_word (m := ⟨1, 2⟩) (meth := k1m2) (c := k1c2) (by decide +kernel) rfl rfl rfl (by decide +kernel)
def codes1 : List Jvm.Cond := [Jvm.Cond.code x code maxLocals ret, Jvm.Cond.code ({ cls := "com/example/breakwater/breakwater/engine/AddressEqualsPinLaw", name := "name", desc := "(I)Ljava/lang/String;" } : Jvm.MethodName) method_4_code (3 : Nat) (Option.some (Jvm.ClassFile.FieldType.object "java/lang/String")), Jvm.Cond.code ({ cls := "com/example/breakwater/breakwater/engine/AddressEqualsPinLaw", name := "nameChar", desc := "(I)C" } : Jvm.MethodName) method_2_code (2 : Nat) (Option.some Jvm.ClassFile.FieldType.char), Jvm.Cond.code ({ cls := "java/lang/String", name := "valueOf", desc := "(C)Ljava/lang/String;" } : Jvm.MethodName) jdk_42_method_139_code (1 : Nat) (Option.some (Jvm.ClassFile.FieldType.object "java/lang/String")), Jvm.Cond.code ({ cls := "java/lang/StringLatin1", name := "canEncode", desc := "(C)Z" } : Jvm.MethodName) jdk_43_method_3_code (1 : Nat) (Option.some Jvm.ClassFile.FieldType.boolean), Jvm.Cond.code ({ cls := "java/lang/StringLatin1", name := "toBytes", desc := "(C)[B" } : Jvm.MethodName) jdk_43_method_46_code (1 : Nat) (Option.some (Jvm.ClassFile.FieldType.array Jvm.ClassFile.FieldType.byte)), Jvm.Cond.code ({ cls := "java/lang/String", name := "<init>", desc := "([BB)V" } : Jvm.MethodName) jdk_42_method_151_code (3 : Nat) (Option.none : Option Jvm.ClassFile.FieldType), Jvm.Cond.code ({ cls := "java/lang/Object", name := "<init>", desc := "()V" } : Jvm.MethodName) object_method_1_code (1 : Nat) (Option.none : Option Jvm.ClassFile.FieldType), Jvm.Cond.code ({ cls := "com/example/breakwater/breakwater/engine/AddressEqualsPinLaw", name := "endpoint", desc := "(I)Ljava/lang/String;" } : Jvm.MethodName) method_5_code (4 : Nat) (Option.some (Jvm.ClassFile.FieldType.object "java/lang/String")), Jvm.Cond.code ({ cls := "java/lang/String", name := "<init>", desc := "([C)V" } : Jvm.MethodName) jdk_42_method_3_code (2 : Nat) (Option.none : Option Jvm.ClassFile.FieldType), Jvm.Cond.code ({ cls := "java/lang/String", name := "<init>", desc := "([CIILjava/lang/Void;)V" } : Jvm.MethodName) jdk_42_method_149_code (6 : Nat) (Option.none : Option Jvm.ClassFile.FieldType), Jvm.Cond.code ({ cls := "java/lang/StringUTF16", name := "compress", desc := "([CII)[B" } : Jvm.MethodName) jdk_52_method_16_code (6 : Nat) (Option.some (Jvm.ClassFile.FieldType.array Jvm.ClassFile.FieldType.byte)), Jvm.Cond.code ({ cls := "java/lang/StringUTF16", name := "compress", desc := "([CI[BII)I" } : Jvm.MethodName) jdk_52_method_21_code (7 : Nat) (Option.some Jvm.ClassFile.FieldType.int), Jvm.Cond.code ({ cls := "java/lang/StringUTF16", name := "coderFromArrayLen", desc := "([BI)B" } : Jvm.MethodName) jdk_52_method_15_code (2 : Nat) (Option.some Jvm.ClassFile.FieldType.byte), Jvm.Cond.code ({ cls := "com/example/breakwater/breakwater/engine/Address", name := "<init>", desc := "(Ljava/lang/String;Ljava/lang/String;Ljava/lang/String;)V" } : Jvm.MethodName) prog_1_method_1_code (4 : Nat) (Option.none : Option Jvm.ClassFile.FieldType), Jvm.Cond.code ({ cls := "java/lang/StringBuilder", name := "<init>", desc := "()V" } : Jvm.MethodName) jdk_67_method_1_code (1 : Nat) (Option.none : Option Jvm.ClassFile.FieldType), Jvm.Cond.code ({ cls := "java/lang/AbstractStringBuilder", name := "<init>", desc := "(I)V" } : Jvm.MethodName) jdk_68_method_2_code (2 : Nat) (Option.none : Option Jvm.ClassFile.FieldType), Jvm.Cond.code ({ cls := "java/lang/StringBuilder", name := "append", desc := "(Ljava/lang/String;)Ljava/lang/StringBuilder;" } : Jvm.MethodName) jdk_67_method_7_code (2 : Nat) (Option.some (Jvm.ClassFile.FieldType.object "java/lang/StringBuilder")), Jvm.Cond.code ({ cls := "java/lang/AbstractStringBuilder", name := "append", desc := "(Ljava/lang/String;)Ljava/lang/AbstractStringBuilder;" } : Jvm.MethodName) jdk_68_method_22_code (3 : Nat) (Option.some (Jvm.ClassFile.FieldType.object "java/lang/AbstractStringBuilder")), Jvm.Cond.code ({ cls := "java/lang/String", name := "length", desc := "()I" } : Jvm.MethodName) jdk_42_method_54_code (1 : Nat) (Option.some Jvm.ClassFile.FieldType.int), Jvm.Cond.code ({ cls := "java/lang/String", name := "coder", desc := "()B" } : Jvm.MethodName) jdk_42_method_152_code (1 : Nat) (Option.some Jvm.ClassFile.FieldType.byte), Jvm.Cond.code ({ cls := "java/lang/AbstractStringBuilder", name := "ensureCapacityInternal", desc := "(I)V" } : Jvm.MethodName) jdk_68_method_9_code (3 : Nat) (Option.none : Option Jvm.ClassFile.FieldType), Jvm.Cond.code ({ cls := "java/lang/AbstractStringBuilder", name := "putStringAt", desc := "(ILjava/lang/String;)V" } : Jvm.MethodName) jdk_68_method_73_code (3 : Nat) (Option.none : Option Jvm.ClassFile.FieldType), Jvm.Cond.code ({ cls := "java/lang/AbstractStringBuilder", name := "inflateIfNeededFor", desc := "(Ljava/lang/String;)V" } : Jvm.MethodName) jdk_68_method_71_code (2 : Nat) (Option.none : Option Jvm.ClassFile.FieldType), Jvm.Cond.code ({ cls := "java/lang/String", name := "getBytes", desc := "([BIB)V" } : Jvm.MethodName) jdk_42_method_147_code (4 : Nat) (Option.none : Option Jvm.ClassFile.FieldType), Jvm.Cond.code ({ cls := "java/lang/StringBuilder", name := "append", desc := "(C)Ljava/lang/StringBuilder;" } : Jvm.MethodName) jdk_67_method_14_code (2 : Nat) (Option.some (Jvm.ClassFile.FieldType.object "java/lang/StringBuilder")), Jvm.Cond.code ({ cls := "java/lang/AbstractStringBuilder", name := "append", desc := "(C)Ljava/lang/AbstractStringBuilder;" } : Jvm.MethodName) jdk_68_method_31_code (2 : Nat) (Option.some (Jvm.ClassFile.FieldType.object "java/lang/AbstractStringBuilder")), Jvm.Cond.code ({ cls := "java/lang/AbstractStringBuilder", name := "isLatin1", desc := "()Z" } : Jvm.MethodName) jdk_68_method_68_code (1 : Nat) (Option.some Jvm.ClassFile.FieldType.boolean), Jvm.Cond.code ({ cls := "java/lang/StringBuilder", name := "toString", desc := "()Ljava/lang/String;" } : Jvm.MethodName) jdk_67_method_42_code (1 : Nat) (Option.some (Jvm.ClassFile.FieldType.object "java/lang/String")), Jvm.Cond.code ({ cls := "java/lang/String", name := "<init>", desc := "(Ljava/lang/StringBuilder;)V" } : Jvm.MethodName) jdk_42_method_53_code (2 : Nat) (Option.none : Option Jvm.ClassFile.FieldType), Jvm.Cond.code ({ cls := "java/lang/String", name := "<init>", desc := "(Ljava/lang/AbstractStringBuilder;Ljava/lang/Void;)V" } : Jvm.MethodName) jdk_42_method_150_code (5 : Nat) (Option.none : Option Jvm.ClassFile.FieldType), Jvm.Cond.code ({ cls := "java/lang/AbstractStringBuilder", name := "getValue", desc := "()[B" } : Jvm.MethodName) jdk_68_method_64_code (1 : Nat) (Option.some (Jvm.ClassFile.FieldType.array Jvm.ClassFile.FieldType.byte)), Jvm.Cond.code ({ cls := "java/lang/StringBuilder", name := "length", desc := "()I" } : Jvm.MethodName) jdk_67_method_93_code (1 : Nat) (Option.some Jvm.ClassFile.FieldType.int), Jvm.Cond.code ({ cls := "java/lang/AbstractStringBuilder", name := "length", desc := "()I" } : Jvm.MethodName) jdk_68_method_6_code (1 : Nat) (Option.some Jvm.ClassFile.FieldType.int), Jvm.Cond.code ({ cls := "java/util/Arrays", name := "copyOfRange", desc := "([BII)[B" } : Jvm.MethodName) jdk_65_method_132_code (3 : Nat) (Option.some (Jvm.ClassFile.FieldType.array Jvm.ClassFile.FieldType.byte)), Jvm.Cond.code ({ cls := "java/util/Arrays", name := "copyOfRangeByte", desc := "([BII)[B" } : Jvm.MethodName) jdk_65_method_133_code (5 : Nat) (Option.some (Jvm.ClassFile.FieldType.array Jvm.ClassFile.FieldType.byte)), Jvm.Cond.code ({ cls := "java/util/Arrays", name := "checkLength", desc := "(II)V" } : Jvm.MethodName) jdk_65_method_131_code (2 : Nat) (Option.none : Option Jvm.ClassFile.FieldType), Jvm.Cond.code ({ cls := "java/lang/Math", name := "min", desc := "(II)I" } : Jvm.MethodName) jdk_29_method_69_code (2 : Nat) (Option.some Jvm.ClassFile.FieldType.int), Jvm.Cond.code ({ cls := "com/example/breakwater/breakwater/engine/Address", name := "<init>", desc := "(Ljava/lang/String;Ljava/lang/String;Ljava/lang/String;Ljava/lang/String;)V" } : Jvm.MethodName) prog_1_method_2_code (5 : Nat) (Option.none : Option Jvm.ClassFile.FieldType), Jvm.Cond.code ({ cls := "java/lang/String", name := "equals", desc := "(Ljava/lang/Object;)Z" } : Jvm.MethodName) jdk_42_method_66_code (3 : Nat) (Option.some Jvm.ClassFile.FieldType.boolean), Jvm.Cond.code ({ cls := "java/lang/StringLatin1", name := "equals", desc := "([B[B)Z" } : Jvm.MethodName) jdk_43_method_13_code (3 : Nat) (Option.some Jvm.ClassFile.FieldType.boolean), Jvm.Cond.code ({ cls := "com/example/breakwater/breakwater/engine/Address", name := "equals", desc := "(Ljava/lang/Object;)Z" } : Jvm.MethodName) prog_1_method_11_code (3 : Nat) (Option.some Jvm.ClassFile.FieldType.boolean), Jvm.Cond.code ({ cls := "com/example/breakwater/breakwater/engine/AddressEqualsPinLaw", name := "endChar", desc := "(I)C" } : Jvm.MethodName) method_3_code (2 : Nat) (Option.some Jvm.ClassFile.FieldType.char)]
set_option maxRecDepth 65536 in
theorem codes_eq : words1.filter isCode = codes1 := rfl
theorem w_codes : ∀ c ∈ words1.filter isCode, c.before args0 about1 = true := by
  rw [codes_eq]
  intro c hc
  simp only [codes1, List.mem_cons, List.not_mem_nil, or_false] at hc
  rcases hc with rfl | rfl | rfl | rfl | rfl | rfl | rfl | rfl | rfl | rfl | rfl | rfl | rfl | rfl | rfl | rfl | rfl | rfl | rfl | rfl | rfl | rfl | rfl | rfl | rfl | rfl | rfl | rfl | rfl | rfl | rfl | rfl | rfl | rfl | rfl | rfl | rfl | rfl | rfl | rfl | rfl | rfl | rfl
  · exact w_c0
  · exact w_c1
  · exact w_c2
  · exact w_c3
  · exact w_c4
  · exact w_c5
  · exact w_c6
  · exact w_c7
  · exact w_c8
  · exact w_c9
  · exact w_c10
  · exact w_c11
  · exact w_c12
  · exact w_c13
  · exact w_c14
  · exact w_c15
  · exact w_c16
  · exact w_c17
  · exact w_c18
  · exact w_c19
  · exact w_c20
  · exact w_c21
  · exact w_c22
  · exact w_c23
  · exact w_c24
  · exact w_c25
  · exact w_c26
  · exact w_c27
  · exact w_c28
  · exact w_c29
  · exact w_c30
  · exact w_c31
  · exact w_c32
  · exact w_c33
  · exact w_c34
  · exact w_c35
  · exact w_c36
  · exact w_c37
  · exact w_c38
  · exact w_c39
  · exact w_c40
  · exact w_c41
  · exact w_c42
set_option maxRecDepth 65536 in
theorem w_t1 : (words1.take 24).all (fun c => isCode c || c.before args0 about1) = true := by decide +kernel
set_option maxRecDepth 65536 in
theorem w_t2 : ((words1.drop 24).take 24).all (fun c => isCode c || c.before args0 about1) = true := by decide +kernel
set_option maxRecDepth 65536 in
theorem w_t3 : (((words1.drop 24).drop 24).take 24).all (fun c => isCode c || c.before args0 about1) = true := by decide +kernel
set_option maxRecDepth 65536 in
theorem w_t4 : ((((words1.drop 24).drop 24).drop 24).take 24).all (fun c => isCode c || c.before args0 about1) = true := by decide +kernel
set_option maxRecDepth 65536 in
theorem w_t5 : (((((words1.drop 24).drop 24).drop 24).drop 24).take 24).all (fun c => isCode c || c.before args0 about1) = true := by decide +kernel
set_option maxRecDepth 65536 in
theorem w_t6 : ((((((words1.drop 24).drop 24).drop 24).drop 24).drop 24).take 24).all (fun c => isCode c || c.before args0 about1) = true := by decide +kernel
set_option maxRecDepth 65536 in
theorem w_t7 : (((((((words1.drop 24).drop 24).drop 24).drop 24).drop 24).drop 24).take 24).all (fun c => isCode c || c.before args0 about1) = true := by decide +kernel
set_option maxRecDepth 65536 in
theorem w_t8 : ((((((((words1.drop 24).drop 24).drop 24).drop 24).drop 24).drop 24).drop 24).take 24).all (fun c => isCode c || c.before args0 about1) = true := by decide +kernel
set_option maxRecDepth 65536 in
theorem w_t9 : (((((((((words1.drop 24).drop 24).drop 24).drop 24).drop 24).drop 24).drop 24).drop 24).take 24).all (fun c => isCode c || c.before args0 about1) = true := by decide +kernel
set_option maxRecDepth 65536 in
theorem w_t10 : (((((((((words1.drop 24).drop 24).drop 24).drop 24).drop 24).drop 24).drop 24).drop 24).drop 24).all (fun c => isCode c || c.before args0 about1) = true := by decide +kernel
theorem w_tables : (allAtoms (Jvm.Cond.code x code maxLocals ret :: tables_1)).before args0 about1 = true := by
  rw [allAtoms_all]
  show words1.all (fun c => c.before args0 about1) = true
  refine all_split ?_ w_codes
  rw [← List.take_append_drop 24 words1, List.all_append, w_t1, ← List.take_append_drop 24 (words1.drop 24), List.all_append, w_t2, ← List.take_append_drop 24 ((words1.drop 24).drop 24), List.all_append, w_t3, ← List.take_append_drop 24 (((words1.drop 24).drop 24).drop 24), List.all_append, w_t4, ← List.take_append_drop 24 ((((words1.drop 24).drop 24).drop 24).drop 24), List.all_append, w_t5, ← List.take_append_drop 24 (((((words1.drop 24).drop 24).drop 24).drop 24).drop 24), List.all_append, w_t6, ← List.take_append_drop 24 ((((((words1.drop 24).drop 24).drop 24).drop 24).drop 24).drop 24), List.all_append, w_t7, ← List.take_append_drop 24 (((((((words1.drop 24).drop 24).drop 24).drop 24).drop 24).drop 24).drop 24), List.all_append, w_t8, ← List.take_append_drop 24 ((((((((words1.drop 24).drop 24).drop 24).drop 24).drop 24).drop 24).drop 24).drop 24), List.all_append, w_t9, w_t10]
  rfl
set_option maxRecDepth 65536 in
theorem w_rest : rest_1_c.before args0 about1 = true := by decide +kernel
set_option maxRecDepth 65536 in
theorem w_case : (Jvm.Cond.and given_1 narrow_1).before args0 about1 = true := by decide +kernel
set_option maxRecDepth 65536 in
theorem w_consts : constsHeld consts_1 about1 := Jvm.Lit.constsHeldB_iff.mp (by decide +kernel)
theorem w_applies : (headSpec (Jvm.Cond.code x code maxLocals ret :: tables_1) room_1).applies x e0.platform about1 = true :=
  (Spec.applies_iff w_frames).mpr ⟨w_running, w_runnable, w_alone, w_named, w_hears, w_ripe, w_room, w_tables⟩
theorem atStart : AtStart classFile x code maxLocals ret World_1 tables_1 room_1 Calls_1 rest_1 Pre_1 launch0 p0 e0 about1 theMethod args0 below0 :=
  ⟨lists_1, trivial, launch0.admits_env _ _ _, launch0.least_env, fairChoices_fair.cas, fairChoices_fair.clock, w_frames, w_args, w_heap, w_applies, ⟨w_consts, trivial⟩, w_rest, w_case⟩
end start1
theorem witness_1 : WitnessClaimed_1 := ⟨start1.p0, start1.e0, start1.about1, start1.theMethod, start1.args0, start1.below0, start1.atStart⟩
end Jvm.Pilot.@@N@@
