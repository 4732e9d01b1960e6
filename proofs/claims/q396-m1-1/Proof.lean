import JvmDerived
import JvmDerived.Pilot.@@N@@Statement
import JvmDerived.Pilot.@@N@@Code
set_option linter.unusedVariables false
set_option linter.unusedSimpArgs false
namespace Jvm.RoadKit
open Sem ClassFile Op Lib Jvm.Stand Jvm.Free Jvm.LawKit
section Own
variable {p : Program} {l : Launch} {e : Env} {R : Room} {s : State} {m : MethodId} {args : Array Value} {below : List Frame} {meth : Method} {c : Code} {T A B : State} {locs : List Loc} {cells slots K N : Nat} {P : State → Outcome → Prop} {Q : Option Value → Heap → List Loc → Prop}
/-- the run that stands at A comes to an end of which P holds -/
def Go (p : Program) (e : Env) (below : List Frame) (P : State → Outcome → Prop) (A : State) : Prop := ∃ s₂ o, Steps p.tables e below A s₂ ∧ s₂.status = .running ∧ Ended s₂ below o ∧ P s₂ o
def PostW (s : State) (K N : Nat) (Q : Option Value → Heap → List Loc → Prop) : State → Outcome → Prop := fun s₂ o => ∃ v L, o = .returned v ∧ Q v s₂.heap L ∧ FrameEnd s o s₂ L K N
theorem Go.by (h : ∀ t, Steps p.tables e below B t → Steps p.tables e below A t) (k : Go p e below P B) : Go p e below P A := by
  obtain ⟨s₂, o, h1, h2⟩ := k
  exact ⟨s₂, o, h _ h1, h2⟩
abbrev vi (n : Int32) : Slot := .val (.int n)
abbrev vr (a : Addr) : Slot := .val (.ref a)
abbrev St (T : State) (m : MethodId) (pc : Nat) (L : Array Slot) (S : List Value) : State := T.setTop (mkF m pc L S)
theorem gy (B : State) (h : ∀ t, Steps p.tables e below B t → Steps p.tables e below A t) (k : Go p e below P B) : Go p e below P A := Go.by h k
theorem Go.to (h : Steps p.tables e below A B) (k : Go p e below P B) : Go p e below P A := Go.by (fun _ q => h.trans q) k
theorem Go.cast {g g' : JFrame} (q : g = g') (k : Go p e below P (T.setTop g')) : Go p e below P (T.setTop g) := q ▸ k
theorem Go.ret (X : Stand p l e R s m args below meth c T locs cells slots) (hx : p.tables.exec = Jvm.exec) (hlk : meth.locks = false) {pc : Nat} {Ls : Array Slot} {w : Value} {t : FieldType} {i : Instr} {rest : List Value} (hret : meth.sig.returnType = some t) (hn : narrow t w = w)
    (hi : (i = .ireturn ∧ (t = .int ∨ t = .boolean ∨ t = .byte ∨ t = .char ∨ t = .short) ∧ ∃ z, w = .int z) ∨ (i = .lreturn ∧ t = .long ∧ ∃ z, w = .long z) ∨ (i = .dreturn ∧ t = .double ∧ ∃ z, w = .double z) ∨ (i = .freturn ∧ t = .float ∧ ∃ z, w = .float z) ∨ (i = .areturn ∧ t.isReference = true ∧ w.isRef = true))
    (hd : decode c.code pc = .ok (i, 1)) (hc : cells ≤ K) (hs : slots ≤ N) (hQ : Q (some w) T.heap locs) : Go p e below (PostW s K N Q) (T.setTop (mkF m pc Ls (w :: rest))) := by
  obtain ⟨fs, hr, hrun, hended, hW, hsame⟩ := X.leave (v := some w) (fun h => by rw [hret] at h; cases h) hlk
  exact ⟨_, _, retOut X hx hret hn hi hd hr, hrun, hended, _, _, rfl, hQ, ⟨_, rfl⟩, hW, hsame.mono hc hs⟩
theorem Go.retZ (X : Stand p l e R s m args below meth c T locs cells slots) (hx : p.tables.exec = Jvm.exec) (hlk : meth.locks = false) {pc : Nat} {Ls : Array Slot} {z : Int32} {t : FieldType} {rest : List Value} (hret : meth.sig.returnType = some t) (ht : t = .boolean ∨ t = .byte ∨ t = .char ∨ t = .short)
    (hd : decode c.code pc = .ok (.ireturn, 1)) (hc : cells ≤ K) (hs : slots ≤ N) (hQ : Q (some (.int (nar t z))) T.heap locs) : Go p e below (PostW s K N Q) (T.setTop (mkF m pc Ls (.int z :: rest))) := by
  obtain ⟨fs, hr, hrun, hended, hW, hsame⟩ := X.leave (v := some (.int (nar t z))) (fun h => by rw [hret] at h; cases h) hlk
  exact ⟨_, _, retN X hx hret ht hd hr, hrun, hended, _, _, rfl, hQ, ⟨_, rfl⟩, hW, hsame.mono hc hs⟩
theorem own_cat {w : Value} (h : w.isRef = true) : w.category = 1 := by cases w <;> first | rfl | (simp [Value.isRef] at h)
theorem own_narR {w : Value} {t : FieldType} (h : w.isRef = true) (ht : t.isReference = true) : narrow t w = w := by cases t <;> first | (cases ht; done) | (cases w <;> first | rfl | (simp [Value.isRef] at h))
theorem own_fitR {w : Value} {t : FieldType} (h : w.isRef = true) (ht : t.isReference = true) : fits t w = true := by cases t <;> first | (cases ht; done) | (cases w <;> first | rfl | (simp [Value.isRef] at h))
theorem own_a {P : Value → Prop} {x : Value} {r : List Value} (h : P x) (k : ∀ v ∈ r, P v) : ∀ v ∈ x :: r, P v := List.forall_mem_cons.2 ⟨h, k⟩
theorem own_push (acc : Array Slot) {v : Value} (h : v.category = 1) : (if v.category = 2 then (acc.push (.val v)).push .second else acc.push (.val v)) = acc.push (.val v) := by rw [if_neg]; rw [h]; decide
theorem own_fold {xs : List Value} (h : ∀ v ∈ xs, v.category = 1) : ∀ acc : Array Slot, xs.foldl (fun acc v => if v.category = 2 then (acc.push (.val v)).push .second else acc.push (.val v)) acc = acc ++ (xs.map Slot.val).toArray := by
  induction xs with
  | nil => intro acc; simp
  | cons x r ih =>
    intro acc
    rw [List.foldl_cons, own_push acc (h x (List.mem_cons_self ..)), ih (fun v q => h v (List.mem_cons_of_mem _ q))]
    simp
theorem own_ent (m : MethodId) {xs : List Value} {n : Nat} {k : Nat} (h : ∀ v ∈ xs, v.category = 1) (hn : n = xs.length + k) : entryFrame m xs.toArray n = mkF m 0 ((xs.map Slot.val) ++ List.replicate k Slot.unset).toArray [] := by
  have e : xs.toArray.foldl (init := #[]) (fun acc v => if v.category = 2 then (acc.push (.val v)).push .second else acc.push (.val v)) = (xs.map Slot.val).toArray := by
    rw [List.foldl_toArray, own_fold h]; simp
  have z : n - (xs.map Slot.val).toArray.size = k := by simp; omega
  have q : argsToLocals xs.toArray n = ((xs.map Slot.val) ++ List.replicate k Slot.unset).toArray := by
    show (xs.toArray.foldl _ #[]) ++ Array.replicate (n - (xs.toArray.foldl _ #[]).size) Slot.unset = _
    rw [e, z]; simp
  show ({ method := m, pc := 0, locals := argsToLocals xs.toArray n, stack := [], locked := none } : JFrame) = _
  rw [q]
theorem Go.retV (X : Stand p l e R s m args below meth c T locs cells slots) (hx : p.tables.exec = Jvm.exec) (hlk : meth.locks = false) {pc : Nat} {Ls : Array Slot} (hret : meth.sig.returnType = none)
    (hd : decode c.code pc = .ok (.return_, 1)) (hc : cells ≤ K) (hs : slots ≤ N) (hQ : Q none T.heap locs) : Go p e below (PostW s K N Q) (T.setTop (mkF m pc Ls [])) := by
  obtain ⟨fs, hr, hrun, hended, hW, hsame⟩ := X.leave (v := none) (fun _ => rfl) hlk
  exact ⟨_, _, X.returnOut hx hret hd hr, hrun, hended, _, _, rfl, hQ, ⟨_, rfl⟩, hW, hsame.mono hc hs⟩
theorem wd {L : List Cond} {a0 : Array Value} {Z : State} (hw : ∀ d ∈ L, d.before a0 Z = true) (i : Nat) {d : Cond} (h : L[i]? = some d) : d.before a0 Z = true := hw d (List.mem_of_getElem? h)
/-- a callee's contract, as the walks here say it -/
abbrev Met (l : Launch) (Z : State) (y : MethodName) (bytes : ByteArray) (maxL : Nat) (ret : Option FieldType) (ws : List Cond) (rm : Room) (as' : Array Value) (h0 : Heap) (Q : Option Value → Heap → List Loc → Prop) : Prop :=
  MetFree l y (head1 (Cond.code y bytes maxL ret :: ws) rm) (fun a U => a = as' ∧ Z.Warmed39 U.vm ∧ U.heap = h0) (fun _ _ _ _ _ => True) (fun _ U o U' => ∃ v L, o = .returned v ∧ Q v U'.heap L ∧ FrameEnd U o U' L rm.cells rm.slots)
theorem Met.enter {Z : State} {y : MethodName} {bytes : ByteArray} {maxL : Nat} {ret : Option FieldType} {ws : List Cond} {rm : Room} {as' : Array Value} {h0 : Heap} {f0 : MethodId → JFrame} (hpl : plainFor y = true) (hf0 : ∀ m, entryFrame m as' maxL = f0 m)
    (body : ∀ (p : Program) (e : Env) (s : State) (m : MethodId) (below : List Frame) (meth : Method) (c : Code) (s₁ : State), p.tables.exec = Jvm.exec → c.code = bytes → c.maxLocals = maxL → s.vm.findClass y.cls = some m.cls → meth.name = y.name → meth.sig.returnType = ret → meth.locks = false → Z.Warmed39 s.vm → Stand p l e rm s m as' below meth c s₁ [] 0 0 → s₁.heap = h0 → Go p e below (PostW s rm.cells rm.slots Q) (s₁.setTop (f0 m))) : Met l Z y bytes maxL ret ws rm as' h0 Q := by
  refine MetFree.of_bodySF hpl hisR ?_
  intro p e s m args below meth c s₁ Bd hml0 hP hK
  obtain ⟨rfl, hZ, hh⟩ := hP
  have q := body p e s m below meth c s₁ Bd.exec Bd.bytes hml0 (findClass_of_methodNamed Bd.named) (name_of_methodNamed Bd.named Bd.method).1 Bd.returns Bd.notSynchronized hZ (Stand.of_body Bd) (by rw [← hh, Bd.state]; rfl)
  rw [← hf0] at q
  exact q
end Own
section OwnC
variable {p : Program} {l : Launch} {e : Env} {R : Room} {s : State} {m : MethodId} {args : Array Value} {below : List Frame} {meth : Method} {c : Code} {T : State} {locs : List Loc} {cells slots : Nat} {P : State → Outcome → Prop} {Q : Option Value → Heap → List Loc → Prop} {Z : State} {a0 : Array Value} {h : Heap} {n0 : Nat} {Q' : Option Value → Heap → Prop}
theorem goS (X : Stand p l e R s m args below meth c T locs cells slots) (hx : p.tables.exec = Jvm.exec) (hZ : Z.Warmed39 s.vm) {own : String} {index : Nat} {y : MethodName} {bytes : ByteArray} {maxL : Nat} {ret : Option FieldType} (hown : s.vm.findClass own = some m.cls)
    (w1 : (Cond.methodLink own index y).before a0 Z = true) (ww : (Cond.static y).before a0 Z = true ∧ (Cond.initialized y.cls).before a0 Z = true ∧ (Cond.code y bytes maxL ret).before a0 Z = true) (n cells' slots' : Nat) {rm : Room} {as' : Array Value} (hM : Met l Z y bytes maxL ret [] rm as' h (fun v h L => Fr n0 L ∧ Q' v h)) (N : Fr n0 locs) (eT : T.heap = h)
    {sig : MethodDescriptor} (hpd : parseMethodDescriptor y.desc = some sig) {g : JFrame} {ML : Nat} (hml : c.maxLocals = ML) (hd : decode c.code g.pc = .ok (.invokestatic index, 3)) (k : ∀ v T' L, Stand p l e R s m args below meth c T' (locs ++ L) cells' slots' → Fr n0 (locs ++ L) → Q' v T'.heap → Go p e below P (T'.setTop { g with pc := g.pc + 3, stack := v.toList ++ g.stack.drop n }))
    (hg : g.method = m := by rfl) (hsize : g.locals.size = ML := by rfl) (hy : y.cls ≠ "java/lang/invoke/MethodHandle" ∧ y.cls ≠ "java/lang/invoke/VarHandle" := by decide) (hlen : ((g.stack.take n).reverse).length = sig.parameters.length := by rfl) (has : ((g.stack.take n).reverse).toArray = as' := by rfl)
    (hf : rm.frames + 1 ≤ R.frames := by decide) (hl : 2 * g.monitorRoom + ((g.stack.drop n).map fun v => v.category).sum + (maxL + 11) + rm.locals ≤ R.locals := by exact Nat.le_of_ble_eq_true rfl) (hc : cells + rm.cells = cells' := by rfl) (hs : slots + rm.slots = slots' := by rfl) (hc' : cells' ≤ R.cells := by decide) (hs' : slots' ≤ R.slots := by decide) : Go p e below P (T.setTop g) := by
  obtain ⟨w2, w3, w4⟩ := ww
  subst hc hs
  obtain ⟨v, vm₁, ⟨T', L', k', n'⟩, -, X', ⟨L, hQ, l1, y1, z1⟩, st⟩ := Jvm.LawKit.callS X hx (y := y) hown (mvT hZ w1) (mvT hZ w2) (mvT hZ w3) (mvT hZ w4) hy (backOf (W := 2 * g.monitorRoom + ((g.stack.drop n).map fun v => v.category).sum) (Q := fun v h L => Fr n0 L ∧ Q' v h) hM hZ w4 w3 hf hl) (g := g) hg (by rw [hml]; exact hsize) (argsL := (g.stack.take n).reverse) (rest := g.stack.drop n)
    (fun sig' h' => by rw [hpd] at h'; cases h'; exact hlen) (by rw [List.reverse_reverse, List.take_append_drop]) (Nat.le_refl _) hd (fun _ _ => ⟨has, eT, hc', hs'⟩)
  dsimp only [Pt.U, Pt.locs, Pt.cells, Pt.slots] at X' l1 y1 z1 st hQ
  subst l1 y1 z1
  exact Go.by st (k v T' L X' (Fr.app N hQ.1) hQ.2)
theorem goV (X : Stand p l e R s m args below meth c T locs cells slots) (hx : p.tables.exec = Jvm.exec) (hZ : Z.Warmed39 s.vm) {own C : String} {index : Nat} {y : MethodName} {bytes : ByteArray} {maxL : Nat} {ret : Option FieldType} (hown : s.vm.findClass own = some m.cls)
    (w1 : (Cond.methodLink own index y).before a0 Z = true) (ww : (Cond.declares y).before a0 Z = true ∧ (Cond.selects C y y).before a0 Z = true ∧ (Cond.instanceMethod y).before a0 Z = true ∧ (Cond.initialized y.cls).before a0 Z = true ∧ (Cond.code y bytes maxL ret).before a0 Z = true) {a : Addr} (E : Exa Z h a C) (n cells' slots' : Nat) {rm : Room} {as' : Array Value} (hM : Met l Z y bytes maxL ret [] rm as' h (fun v h L => Fr n0 L ∧ Q' v h)) (N : Fr n0 locs) (eT : T.heap = h)
    {sig : MethodDescriptor} (hpd : parseMethodDescriptor y.desc = some sig) {g : JFrame} {ML : Nat} (hml : c.maxLocals = ML) (hd : decode c.code g.pc = .ok (.invokevirtual index, 3)) (k : ∀ v T' L, Stand p l e R s m args below meth c T' (locs ++ L) cells' slots' → Fr n0 (locs ++ L) → Q' v T'.heap → Go p e below P (T'.setTop { g with pc := g.pc + 3, stack := v.toList ++ g.stack.drop (n + 1) }))
    (hg : g.method = m := by rfl) (hsize : g.locals.size = ML := by rfl) (hy : y.cls ≠ "java/lang/invoke/MethodHandle" ∧ y.cls ≠ "java/lang/invoke/VarHandle" := by decide) (hlen : ((g.stack.take n).reverse).length = sig.parameters.length := by rfl) (hat : g.stack = (g.stack.take n) ++ Value.ref a :: g.stack.drop (n + 1) := by rfl) (has : (Value.ref a :: (g.stack.take n).reverse).toArray = as' := by rfl)
    (hf : rm.frames + 1 ≤ R.frames := by decide) (hl : 2 * g.monitorRoom + ((g.stack.drop (n + 1)).map fun v => v.category).sum + (maxL + 11) + rm.locals ≤ R.locals := by exact Nat.le_of_ble_eq_true rfl) (hc : cells + rm.cells = cells' := by rfl) (hs : slots + rm.slots = slots' := by rfl) (hc' : cells' ≤ R.cells := by decide) (hs' : slots' ≤ R.slots := by decide) : Go p e below P (T.setTop g) := by
  obtain ⟨w2, w5, w6, w3, w4⟩ := ww
  subst hc hs
  obtain ⟨cq, kq, qa, -, qc⟩ := isOf hZ eT E
  obtain ⟨v, vm₁, ⟨T', L', k', n'⟩, -, X', ⟨L, hQ, l1, y1, z1⟩, st⟩ := X.virtualBack hx (y := y) (z := y) hown (mvT hZ w1) (mvT hZ w2) (notFace_of_selects (args := #[]) (mvT hZ w5)) (mvT hZ w5) (mvT hZ w6) hy (backOf (W := 2 * g.monitorRoom + ((g.stack.drop (n + 1)).map fun v => v.category).sum) (Q := fun v h L => Fr n0 L ∧ Q' v h) hM hZ w4 w3 hf hl) qa qc (g := g) hg (by rw [hml]; exact hsize) (Steps.refl _) (argsL := (g.stack.take n).reverse) (rest := g.stack.drop (n + 1))
    (fun sig' h' => by rw [hpd] at h'; cases h'; exact hlen) (by rw [List.reverse_reverse]; exact hat) (Nat.le_refl _) hd (fun _ _ => ⟨has, eT, hc', hs'⟩)
  dsimp only [Pt.U, Pt.locs, Pt.cells, Pt.slots] at X' l1 y1 z1 st hQ
  subst l1 y1 z1
  exact Go.to st (k v T' L X' (Fr.app N hQ.1) hQ.2)
theorem goI (X : Stand p l e R s m args below meth c T locs cells slots) (hx : p.tables.exec = Jvm.exec) (hZ : Z.Warmed39 s.vm) {own : String} {index : Nat} {y : MethodName} {bytes : ByteArray} {maxL : Nat} (hown : s.vm.findClass own = some m.cls)
    (w1 : (Cond.methodLink own index y).before a0 Z = true) (ww : (Cond.instanceMethod y).before a0 Z = true ∧ (Cond.initialized y.cls).before a0 Z = true ∧ (Cond.code y bytes maxL none).before a0 Z = true) (n cells' slots' : Nat) {rm : Room} {as' : Array Value} (hM : Met l Z y bytes maxL none [] rm as' h (fun v h L => Fr n0 L ∧ Q' v h)) (N : Fr n0 locs) (eT : T.heap = h)
    {sig : MethodDescriptor} (hpd : parseMethodDescriptor y.desc = some sig) {g : JFrame} {ML : Nat} (hml : c.maxLocals = ML) (hd : decode c.code g.pc = .ok (.invokespecial index, 3)) (k : ∀ v T' L, Stand p l e R s m args below meth c T' (locs ++ L) cells' slots' → Fr n0 (locs ++ L) → Q' v T'.heap → Go p e below P (T'.setTop { g with pc := g.pc + 3, stack := v.toList ++ g.stack.drop (n + 1) }))
    {a : Addr} (hat : g.stack = (g.stack.take n) ++ Value.ref a :: g.stack.drop (n + 1) := by rfl) (hn : y.name = "<init>" := by rfl)
    (hg : g.method = m := by rfl) (hsize : g.locals.size = ML := by rfl) (hy : y.cls ≠ "java/lang/invoke/MethodHandle" ∧ y.cls ≠ "java/lang/invoke/VarHandle" := by decide) (hlen : ((g.stack.take n).reverse).length = sig.parameters.length := by rfl) (has : (Value.ref a :: (g.stack.take n).reverse).toArray = as' := by rfl)
    (hf : rm.frames + 1 ≤ R.frames := by decide) (hl : 2 * g.monitorRoom + ((g.stack.drop (n + 1)).map fun v => v.category).sum + (maxL + 11) + rm.locals ≤ R.locals := by exact Nat.le_of_ble_eq_true rfl) (hc : cells + rm.cells = cells' := by rfl) (hs : slots + rm.slots = slots' := by rfl) (hc' : cells' ≤ R.cells := by decide) (hs' : slots' ≤ R.slots := by decide) : Go p e below P (T.setTop g) := by
  obtain ⟨w6, w3, w4⟩ := ww
  subst hc hs
  obtain ⟨v, vm₁, ⟨T', L', k', n'⟩, -, X', ⟨L, hQ, l1, y1, z1⟩, st⟩ := X.specialBack hx (y := y) hn hown (mvT hZ w1) (mvT hZ w6) (mvT hZ w4) hy (backOf (W := 2 * g.monitorRoom + ((g.stack.drop (n + 1)).map fun v => v.category).sum) (Q := fun v h L => Fr n0 L ∧ Q' v h) hM hZ w4 w3 hf hl) (g := g) hg (by rw [hml]; exact hsize) (Steps.refl _) (a := a) (argsL := (g.stack.take n).reverse) (rest := g.stack.drop (n + 1))
    (fun sig' h' => by rw [hpd] at h'; cases h'; exact hlen) (by rw [List.reverse_reverse]; exact hat) (Nat.le_refl _) hd (fun _ _ => ⟨has, eT, hc', hs'⟩)
  dsimp only [Pt.U, Pt.locs, Pt.cells, Pt.slots] at X' l1 y1 z1 st hQ
  subst l1 y1 z1
  exact Go.to st (k v T' L X' (Fr.app N hQ.1) hQ.2)
theorem gz {B : State} (X : Stand p l e R s m args below meth c B locs cells slots) (pc : Nat) (L : Array Slot) (S : List Value) (h : ∀ t, Steps p.tables e below (B.setTop (mkF m pc L S)) t → Steps p.tables e below T t) (k : Go p e below P (B.setTop (mkF m pc L S))) : Go p e below P T := Go.by h k
theorem lN (X : Stand p l e R s m args below meth c T locs cells slots) (hx : p.tables.exec = Jvm.exec) {target : State} {g : JFrame} {k : Fin 4} {v : Int32} (hd : decode c.code g.pc = .ok (.iload_n k, 1)) (hl : g.locals[k.val]? = some (.val (.int v))) (hr : Steps p.tables e below (T.setTop { g with pc := g.pc + 1, stack := .int v :: g.stack }) target) (hg : g.method = m := by rfl) : Steps p.tables e below (T.setTop g) target := XS.iloadN X.here hx hg hd hl hr
theorem lI (X : Stand p l e R s m args below meth c T locs cells slots) (hx : p.tables.exec = Jvm.exec) {target : State} {g : JFrame} {k : Nat} {v : Int32} (hd : decode c.code g.pc = .ok (.iload k, 2)) (hl : g.locals[k]? = some (.val (.int v))) (hr : Steps p.tables e below (T.setTop { g with pc := g.pc + 2, stack := .int v :: g.stack }) target) (hg : g.method = m := by rfl) : Steps p.tables e below (T.setTop g) target := XS.iload X.here hx hg hd hl hr
theorem aN (X : Stand p l e R s m args below meth c T locs cells slots) (hx : p.tables.exec = Jvm.exec) {target : State} {g : JFrame} {k : Fin 4} {v : Value} (hd : decode c.code g.pc = .ok (.aload_n k, 1)) (hl : g.locals[k.val]? = some (.val v)) (hv : v.isRef = true) (hr : Steps p.tables e below (T.setTop { g with pc := g.pc + 1, stack := v :: g.stack }) target) (hg : g.method = m := by rfl) : Steps p.tables e below (T.setTop g) target := XS.aloadN X.here hx hg hd hl hv hr
theorem aI (X : Stand p l e R s m args below meth c T locs cells slots) (hx : p.tables.exec = Jvm.exec) {target : State} {g : JFrame} {k : Nat} {v : Value} (hd : decode c.code g.pc = .ok (.aload k, 2)) (hl : g.locals[k]? = some (.val v)) (hv : v.isRef = true) (hr : Steps p.tables e below (T.setTop { g with pc := g.pc + 2, stack := v :: g.stack }) target) (hg : g.method = m := by rfl) : Steps p.tables e below (T.setTop g) target := XS.aload X.here hx hg hd hl hv hr
theorem kC (X : Stand p l e R s m args below meth c T locs cells slots) (hx : p.tables.exec = Jvm.exec) {target : State} {g : JFrame} {i : Int} (hd : decode c.code g.pc = .ok (.iconst i, 1)) (hr : Steps p.tables e below (T.setTop { g with pc := g.pc + 1, stack := .int (Int32.ofInt i) :: g.stack }) target) (hg : g.method = m := by rfl) : Steps p.tables e below (T.setTop g) target := XS.iconst X.here hx hg hd hr
theorem sN (X : Stand p l e R s m args below meth c T locs cells slots) (hx : p.tables.exec = Jvm.exec) {target : State} {g : JFrame} {k : Fin 4} {x : Int32} {rest : List Value} {o : Slot} (hd : decode c.code g.pc = .ok (.istore_n k, 1)) (hs : g.stack = .int x :: rest) (hold : g.locals[k.val]? = some o) (ho : o = .unset ∨ ∃ w, o = .val w ∧ w.category = 1) (hr : Steps p.tables e below (T.setTop { g with pc := g.pc + 1, stack := rest, locals := g.locals.setIfInBounds k.val (.val (.int x)) }) target) (hg : g.method = m := by rfl) : Steps p.tables e below (T.setTop g) target := XS.istoreN X.here hx hg hd hs (XS.store1 hold ho rfl) hr
theorem sI (X : Stand p l e R s m args below meth c T locs cells slots) (hx : p.tables.exec = Jvm.exec) {target : State} {g : JFrame} {k : Nat} {x : Int32} {rest : List Value} {o : Slot} (hd : decode c.code g.pc = .ok (.istore k, 2)) (hs : g.stack = .int x :: rest) (hold : g.locals[k]? = some o) (ho : o = .unset ∨ ∃ w, o = .val w ∧ w.category = 1) (hr : Steps p.tables e below (T.setTop { g with pc := g.pc + 2, stack := rest, locals := g.locals.setIfInBounds k (.val (.int x)) }) target) (hg : g.method = m := by rfl) : Steps p.tables e below (T.setTop g) target := XS.istore X.here hx hg hd hs (XS.store1 hold ho rfl) hr
theorem tN (X : Stand p l e R s m args below meth c T locs cells slots) (hx : p.tables.exec = Jvm.exec) {target : State} {g : JFrame} {k : Fin 4} {x : Value} {rest : List Value} {o : Slot} (hd : decode c.code g.pc = .ok (.astore_n k, 1)) (hs : g.stack = x :: rest) (hv : x.isRef = true) (hold : g.locals[k.val]? = some o) (ho : o = .unset ∨ ∃ w, o = .val w ∧ w.category = 1) (hr : Steps p.tables e below (T.setTop { g with pc := g.pc + 1, stack := rest, locals := g.locals.setIfInBounds k.val (.val x) }) target) (hg : g.method = m := by rfl) : Steps p.tables e below (T.setTop g) target := XS.astoreN X.here hx hg hd hs hv (XS.store1 hold ho (own_cat hv)) hr
theorem tI (X : Stand p l e R s m args below meth c T locs cells slots) (hx : p.tables.exec = Jvm.exec) {target : State} {g : JFrame} {k : Nat} {x : Value} {rest : List Value} {o : Slot} (hd : decode c.code g.pc = .ok (.astore k, 2)) (hs : g.stack = x :: rest) (hv : x.isRef = true) (hold : g.locals[k]? = some o) (ho : o = .unset ∨ ∃ w, o = .val w ∧ w.category = 1) (hr : Steps p.tables e below (T.setTop { g with pc := g.pc + 2, stack := rest, locals := g.locals.setIfInBounds k (.val x) }) target) (hg : g.method = m := by rfl) : Steps p.tables e below (T.setTop g) target := XS.astore X.here hx hg hd hs hv (XS.store1 hold ho (own_cat hv)) hr
theorem pI (X : Stand p l e R s m args below meth c T locs cells slots) (hx : p.tables.exec = Jvm.exec) {target : State} {g : JFrame} {x y : Int32} {rest : List Value} (hd : decode c.code g.pc = .ok (.iadd, 1)) (hs : g.stack = .int y :: .int x :: rest) (hr : Steps p.tables e below (T.setTop { g with pc := g.pc + 1, stack := .int (x + y) :: rest }) target) (hg : g.method = m := by rfl) : Steps p.tables e below (T.setTop g) target := XS.iadd X.here hx hg hd hs hr
theorem cN (X : Stand p l e R s m args below meth c T locs cells slots) (hx : p.tables.exec = Jvm.exec) {target : State} {g : JFrame} {cd : ClassFile.Cond} {o : Int} {x y : Int32} {rest : List Value} (hd : decode c.code g.pc = .ok (.if_icmp cd o, 3)) (hs : g.stack = .int y :: .int x :: rest) (hc : if_icmp.holds cd x y = false) (hr : Steps p.tables e below (T.setTop { g with pc := g.pc + 3, stack := rest }) target) (hg : g.method = m := by rfl) : Steps p.tables e below (T.setTop g) target := XS.icmpNo X.here hx hg hd hs hc hr
theorem fN (X : Stand p l e R s m args below meth c T locs cells slots) (hx : p.tables.exec = Jvm.exec) {target : State} {g : JFrame} {cd : ClassFile.Cond} {o : Int} {x : Int32} {rest : List Value} (hd : decode c.code g.pc = .ok (.ifCond cd o, 3)) (hs : g.stack = .int x :: rest) (hc : ifCond.holds cd x = false) (hr : Steps p.tables e below (T.setTop { g with pc := g.pc + 3, stack := rest }) target) (hg : g.method = m := by rfl) : Steps p.tables e below (T.setTop g) target := XS.ifNo X.here hx hg hd hs hc hr
theorem cY (X : Stand p l e R s m args below meth c T locs cells slots) (hx : p.tables.exec = Jvm.exec) {target : State} {g : JFrame} {cd : ClassFile.Cond} {o : Int} {x y : Int32} {rest : List Value} (pc0 pc' : Nat) (hpc : g.pc = pc0) (hd : decode c.code g.pc = .ok (.if_icmp cd o, 3)) (hs : g.stack = .int y :: .int x :: rest) (hc : if_icmp.holds cd x y = true) (hr : Steps p.tables e below (T.setTop { g with pc := pc', stack := rest }) target) (ho : 0 ≤ (pc0 : Int) + o := by decide) (hp : ((pc0 : Int) + o).toNat = pc' := by decide) (hg : g.method = m := by rfl) : Steps p.tables e below (T.setTop g) target := XS.icmpYes X.here hx hg hpc hd hs hc ho hp hr
theorem fY (X : Stand p l e R s m args below meth c T locs cells slots) (hx : p.tables.exec = Jvm.exec) {target : State} {g : JFrame} {cd : ClassFile.Cond} {o : Int} {x : Int32} {rest : List Value} (pc0 pc' : Nat) (hpc : g.pc = pc0) (hd : decode c.code g.pc = .ok (.ifCond cd o, 3)) (hs : g.stack = .int x :: rest) (hc : ifCond.holds cd x = true) (hr : Steps p.tables e below (T.setTop { g with pc := pc', stack := rest }) target) (ho : 0 ≤ (pc0 : Int) + o := by decide) (hp : ((pc0 : Int) + o).toNat = pc' := by decide) (hg : g.method = m := by rfl) : Steps p.tables e below (T.setTop g) target := XS.ifYes X.here hx hg hpc hd hs hc ho hp hr
theorem gT (X : Stand p l e R s m args below meth c T locs cells slots) (hx : p.tables.exec = Jvm.exec) {target : State} {g : JFrame} {o : Int} (pc0 pc' : Nat) (hpc : g.pc = pc0) (hd : decode c.code g.pc = .ok (.goto o, 3)) (hr : Steps p.tables e below (T.setTop { g with pc := pc' }) target) (ho : 0 ≤ (pc0 : Int) + o := by decide) (hp : ((pc0 : Int) + o).toNat = pc' := by decide) (hg : g.method = m := by rfl) : Steps p.tables e below (T.setTop g) target := XS.goto X.here hx hg hpc hd ho hp hr
theorem Go.retA {K N : Nat} (X : Stand p l e R s m args below meth c T locs cells slots) (hx : p.tables.exec = Jvm.exec) (hlk : meth.locks = false) {pc : Nat} {Ls : Array Slot} {a : Value} {t : FieldType} {rest : List Value} (hret : meth.sig.returnType = some t) (hd : decode c.code pc = .ok (.areturn, 1)) (hQ : Q (some a) T.heap locs) (hv : a.isRef = true := by rfl) (hn : narrow t a = a := by rfl) (ht : t.isReference = true := by rfl) (hc : cells ≤ K := by decide) (hs : slots ≤ N := by decide) : Go p e below (PostW s K N Q) (T.setTop (mkF m pc Ls (a :: rest))) := Go.ret X hx hlk hret hn (Or.inr (Or.inr (Or.inr (Or.inr ⟨rfl, ht, hv⟩)))) hd hc hs hQ
theorem Go.retJ {K N : Nat} (X : Stand p l e R s m args below meth c T locs cells slots) (hx : p.tables.exec = Jvm.exec) (hlk : meth.locks = false) {pc : Nat} {Ls : Array Slot} {z : Int32} {t : FieldType} {rest : List Value} (hret : meth.sig.returnType = some t) (hd : decode c.code pc = .ok (.ireturn, 1)) (hQ : Q (some (.int z)) T.heap locs) (hn : narrow t (.int z) = .int z := by rfl) (ht : t = .int ∨ t = .boolean ∨ t = .byte ∨ t = .char ∨ t = .short := by simp) (hc : cells ≤ K := by decide) (hs : slots ≤ N := by decide) : Go p e below (PostW s K N Q) (T.setTop (mkF m pc Ls (.int z :: rest))) := Go.ret X hx hlk hret hn (Or.inl ⟨rfl, ht, _, rfl⟩) hd hc hs hQ
end OwnC
end Jvm.RoadKit
namespace Jvm.Pilot.@@N@@
open Jvm Jvm.ClassFile Sem Op Lib Jvm.Free Jvm.Stand Jvm.LawKit Jvm.RoadKit Bundle Jvm.Pilot.@@N@@.Jvm.D
set_option maxRecDepth 65536
set_option maxHeartbeats 40000000
abbrev Dk (b : ByteArray) (c : Code) : Prop := ∀ {i : Nat} {r : Except DecodeError (Instr × Nat)}, decode b i = r → decode c.code i = r
abbrev FV (Z : State) (h : Heap) (a t : Addr) : Prop := Fld Z h a "java/lang/String" "value" "[B" (.ref t)
abbrev FC (Z : State) (h : Heap) (a : Addr) (v : Int32) : Prop := Fld Z h a "java/lang/String" "coder" "B" (.int v)
abbrev XT (Z : State) (h : Heap) (a : Addr) : Prop := Exa Z h a "java/lang/String"
abbrev S0 (Z : State) (x : Int32) : Prop := Sta Z Z.heap "java/lang/String" "COMPACT_STRINGS" "Z" (.int x)
abbrev S1 (Z : State) (x : Addr) : Prop := Sta Z Z.heap "com/example/aurel/aurel/catalog/ProductType" "CONSUMABLE" "Lcom/example/aurel/aurel/catalog/ProductType;" (.ref x)
abbrev S2 (Z : State) (x : Addr) : Prop := Sta Z Z.heap "com/example/aurel/aurel/catalog/ProductType" "NON_CONSUMABLE" "Lcom/example/aurel/aurel/catalog/ProductType;" (.ref x)
abbrev S3 (Z : State) (x : Addr) : Prop := Sta Z Z.heap "com/example/aurel/aurel/catalog/ProductType" "AUTO_RENEWING_SUBSCRIPTION" "Lcom/example/aurel/aurel/catalog/ProductType;" (.ref x)
abbrev S4 (Z : State) (x : Addr) : Prop := Sta Z Z.heap "com/example/aurel/aurel/catalog/ProductType" "NON_RENEWING_SUBSCRIPTION" "Lcom/example/aurel/aurel/catalog/ProductType;" (.ref x)
abbrev B0 : ByteArray := jdk_30_method_1_code
abbrev B1 : ByteArray := jdk_42_method_149_code
abbrev B2 : ByteArray := jdk_42_method_3_code
abbrev B3 : ByteArray := jdk_52_method_15_code
abbrev B4 : ByteArray := jdk_52_method_16_code
abbrev B5 : ByteArray := jdk_52_method_21_code
abbrev B6 : ByteArray := method_2_code
abbrev B7 : ByteArray := prog_25_method_10_code
abbrev B8 : ByteArray := prog_25_method_11_code
abbrev B9 : ByteArray := prog_25_method_12_code
abbrev B10 : ByteArray := prog_25_method_13_code
abbrev B11 : ByteArray := prog_25_method_14_code
abbrev B12 : ByteArray := prog_25_method_15_code
abbrev B13 : ByteArray := prog_25_method_16_code
abbrev B14 : ByteArray := prog_25_method_17_code
abbrev B15 : ByteArray := prog_25_method_18_code
abbrev B16 : ByteArray := prog_25_method_1_code
abbrev B17 : ByteArray := prog_25_method_2_code
abbrev B18 : ByteArray := prog_25_method_6_code
abbrev B19 : ByteArray := prog_25_method_7_code
abbrev B20 : ByteArray := prog_25_method_8_code
abbrev B21 : ByteArray := prog_25_method_9_code
abbrev B22 : ByteArray := prog_27_method_1_code
abbrev DK (b : ByteArray) (i : Nat) (x : Instr) (n : Nat) : Prop := decode b i = .ok (x, n)
abbrev HW (a0 : Array Value) (Z : State) : Prop := ∀ d ∈ tables_1, d.before a0 Z = true
abbrev Y0 : MethodName := ⟨"com/example/aurel/aurel/orders/Order", "<init>", "(Ljava/lang/String;Ljava/lang/String;Ljava/lang/String;Ljava/lang/String;Ljava/lang/String;Ljava/lang/String;Lcom/example/aurel/aurel/catalog/ProductType;JJLjava/lang/String;ZJLcom/example/aurel/aurel/orders/PaidPeriod;)V"⟩
abbrev Y1 : MethodName := ⟨"com/example/aurel/aurel/orders/Order", "applicationId", "()Ljava/lang/String;"⟩
abbrev Y2 : MethodName := ⟨"com/example/aurel/aurel/orders/Order", "currency", "()Ljava/lang/String;"⟩
abbrev Y3 : MethodName := ⟨"com/example/aurel/aurel/orders/Order", "deliveryConfirmed", "()Z"⟩
abbrev Y4 : MethodName := ⟨"com/example/aurel/aurel/orders/Order", "packageName", "()Ljava/lang/String;"⟩
abbrev Y5 : MethodName := ⟨"com/example/aurel/aurel/orders/Order", "paidPeriod", "()Lcom/example/aurel/aurel/orders/PaidPeriod;"⟩
abbrev Y6 : MethodName := ⟨"com/example/aurel/aurel/orders/Order", "price", "()J"⟩
abbrev Y7 : MethodName := ⟨"com/example/aurel/aurel/orders/Order", "productId", "()Ljava/lang/String;"⟩
abbrev Y8 : MethodName := ⟨"com/example/aurel/aurel/orders/Order", "productType", "()Lcom/example/aurel/aurel/catalog/ProductType;"⟩
abbrev Y9 : MethodName := ⟨"com/example/aurel/aurel/orders/Order", "purchaseOrderId", "()Ljava/lang/String;"⟩
abbrev Y10 : MethodName := ⟨"com/example/aurel/aurel/orders/Order", "purchaseTime", "()J"⟩
abbrev Y11 : MethodName := ⟨"com/example/aurel/aurel/orders/Order", "purchaseToken", "()Ljava/lang/String;"⟩
abbrev Y12 : MethodName := ⟨"com/example/aurel/aurel/orders/Order", "sequence", "()J"⟩
abbrev Y13 : MethodName := ⟨"com/example/aurel/aurel/orders/Order", "userId", "()Ljava/lang/String;"⟩
abbrev Y14 : MethodName := ⟨"com/example/aurel/aurel/orders/Order", "withDeliveryConfirmed", "()Lcom/example/aurel/aurel/orders/Order;"⟩
abbrev Y15 : MethodName := ⟨"com/example/aurel/aurel/orders/OrderWithDeliveryConfirmedPinLaw", "type", "(I)Lcom/example/aurel/aurel/catalog/ProductType;"⟩
abbrev Y16 : MethodName := ⟨"com/example/aurel/aurel/orders/PaidPeriod", "<init>", "(Ljava/lang/String;Ljava/lang/String;J)V"⟩
abbrev Y17 : MethodName := ⟨"java/lang/Record", "<init>", "()V"⟩
abbrev Y18 : MethodName := ⟨"java/lang/String", "<init>", "([C)V"⟩
abbrev Y19 : MethodName := ⟨"java/lang/String", "<init>", "([CIILjava/lang/Void;)V"⟩
abbrev Y20 : MethodName := ⟨"java/lang/StringUTF16", "coderFromArrayLen", "([BI)B"⟩
abbrev Y21 : MethodName := ⟨"java/lang/StringUTF16", "compress", "([CII)[B"⟩
abbrev Y22 : MethodName := ⟨"java/lang/StringUTF16", "compress", "([CI[BII)I"⟩
theorem own_eqk {args : Array Value} {first s : State} {o : Option Outcome} {idx : List Nat} {t : Term} {k : Int32} (h : (Jvm.Cond.eq t (Term.int k)).value args first o s idx = some true) : t.eval args first o idx s = some (.int k) := by
  obtain ⟨x, y, ex, ey, -, k2⟩ := cmp_v (Or.inl h)
  have e2 : y = .int k := Option.some.inj (ey.symm.trans (Term.int_eval k))
  subst e2
  obtain ⟨z, rfl⟩ := k2
  have := gotT (Cond.eq_ints ex (Term.int_eval k)) h
  rw [ex, this]

theorem own_ch (x : Int32) : ¬ (255 : Int32) < (x &&& (255 : Int32)).toUInt32.toUInt16.toUInt32.toInt32 := by
  rw [i2c_mask]
  have q := c_mask x 255 8 (by decide) (by decide)
  have z : (255 : Int32).toInt = 255 := by decide
  rw [Int32.lt_iff_toInt_lt, z]
  omega
theorem own_ch0 (x : Int32) : ¬ (x &&& (255 : Int32)).toUInt32.toUInt16.toUInt32.toInt32 < (0 : Int32) := by
  rw [i2c_mask]
  have q := c_mask x 255 8 (by decide) (by decide)
  have z : (0 : Int32).toInt = 0 := by decide
  rw [Int32.lt_iff_toInt_lt, z]
  omega
theorem own_nar (x : Int32) : nar .char ((x &&& (255 : Int32)).toUInt32.toUInt16.toUInt32.toInt32) = (x &&& (255 : Int32)) := by
  show ((x &&& (255 : Int32)).toUInt32.toUInt16.toUInt32.toInt32).toUInt32.toUInt16.toUInt32.toInt32 = _
  rw [i2c_mask, i2c_mask]
theorem own_chn (x : Int32) : ¬ (255 : Int32) < nar .char ((x &&& (255 : Int32)).toUInt32.toUInt16.toUInt32.toInt32) := by
  rw [own_nar]
  have q := c_mask x 255 8 (by decide) (by decide)
  have z : (255 : Int32).toInt = 255 := by decide
  rw [Int32.lt_iff_toInt_lt, z]
  omega

theorem ef_rm_Record_init (m : MethodId) (x0 : Addr) : entryFrame m #[(.ref x0)] 1 = mkF m 0 #[vr x0] [] := by first | (simp [entryFrame, mkF, argsToLocals, Value.category]; done) | rfl
theorem d9_0 : DK B0 0 (.aload_n 0) 1 := by decide +kernel
theorem d9_1 : DK B0 1 (.invokespecial 1) 3 := by decide +kernel
theorem d9_4 : DK B0 4 .return_ 1 := by decide +kernel
theorem pn5 : plainName "java/lang/Record" = true := by first | (simp [plainName, overriddenIn]; done) | decide +kernel
theorem rm_Record_init {l : Launch} {Z : State} {a0 : Array Value} (hw : HW a0 Z) (a1 : Addr) (h0 : Heap) (n0 : Nat) (Z0 : n0 ≤ h0.size) :
    Met l Z Y17 B0 1 none [] ({ frames := 1, cells := 0, slots := 0, locals := 12 } : Room) #[(.ref a1)] h0 (fun vv h L => Fr n0 L ∧ vv = none ∧ h = h0) := by
  refine Met.enter (f0 := fun m => mkF m 0 #[vr a1] []) (plainFor_of_name pn5) (fun m => ef_rm_Record_init m a1) ?_
  intro p e s m below meth c s₁ hx hby (hml : c.maxLocals = 1) (hown : s.vm.findClass "java/lang/Record" = some m.cls) hnm hret hlk hZ X0 e0
  have dk : Dk B0 c := fun h => hb hby h
  have W := @wd _ _ _ hw
  have N0 := Fr.nil n0
  refine gz X0 1 #[vr a1] [(.ref a1)] (fun _ k => aN X0 hx (dk d9_0) rfl rfl k) ?_
  obtain ⟨T10, X10, e10, st10⟩ := initO X0 hx hZ hown (W 48 rfl) (W 12 rfl) (W 13 rfl) e0 (g := (mkF m 1 #[vr a1] [(.ref a1)])) rfl (by rw [hml]; rfl) rfl (dk d9_1) (by decide) (W := 0) (by show 2 * 0 + _ ≤ _; exact Nat.le_of_eq rfl) (by decide)
  refine gz X10 4 #[vr a1] [] (fun _ k => st10 _ k) ?_
  refine Go.retV X10 hx hlk hret (dk d9_4) (by decide) (by decide) ?_
  rw [e10]
  exact ⟨N0, rfl, rfl⟩
theorem ef_rm_cmp5_2 (m : MethodId) (x0 : Addr) (x2 : Addr) : entryFrame m #[(.ref x0), (.int 0), (.ref x2), (.int 0), (.int 2)] 7 = mkF m 0 #[vr x0, vi 0, vr x2, vi 0, vi 2, .unset, .unset] [] := by first | (simp [entryFrame, mkF, argsToLocals, Value.category]; done) | rfl
theorem d5_0 : DK B5 0 (.iconst 0) 1 := by decide +kernel
theorem d5_1 : DK B5 1 (.istore 5) 2 := by decide +kernel
theorem d5_3 : DK B5 3 (.iload 5) 2 := by decide +kernel
theorem d5_5 : DK B5 5 (.iload 4) 2 := by decide +kernel
theorem d5_7 : DK B5 7 (.if_icmp .ge 37) 3 := by decide +kernel
theorem d5_10 : DK B5 10 (.aload_n 0) 1 := by decide +kernel
theorem d5_11 : DK B5 11 (.iload_n 1) 1 := by decide +kernel
theorem d5_12 : DK B5 12 .caload 1 := by decide +kernel
theorem d5_13 : DK B5 13 (.istore 6) 2 := by decide +kernel
theorem d5_15 : DK B5 15 (.iload 6) 2 := by decide +kernel
theorem d5_17 : DK B5 17 (.sipush 255) 3 := by decide +kernel
theorem d5_20 : DK B5 20 (.if_icmp .le 6) 3 := by decide +kernel
theorem d5_26 : DK B5 26 (.aload_n 2) 1 := by decide +kernel
theorem d5_27 : DK B5 27 (.iload_n 3) 1 := by decide +kernel
theorem d5_28 : DK B5 28 (.iload 6) 2 := by decide +kernel
theorem d5_30 : DK B5 30 .i2b 1 := by decide +kernel
theorem d5_31 : DK B5 31 .bastore 1 := by decide +kernel
theorem d5_32 : DK B5 32 (.iinc 1 1) 3 := by decide +kernel
theorem d5_35 : DK B5 35 (.iinc 3 1) 3 := by decide +kernel
theorem d5_38 : DK B5 38 (.iinc 5 1) 3 := by decide +kernel
theorem d5_41 : DK B5 41 (.goto (-38)) 3 := by decide +kernel
theorem d5_44 : DK B5 44 (.iload 4) 2 := by decide +kernel
theorem d5_46 : DK B5 46 .ireturn 1 := by decide +kernel
theorem pn3 : plainName "java/lang/StringUTF16" = true := by first | (simp [plainName, overriddenIn]; done) | decide +kernel
theorem rm_cmp5_2 {l : Launch} {Z : State} {a0 : Array Value} (hw : HW a0 Z) (a1 : Addr) (b1 : Addr) (ka : ClassId) (kb : ClassId) (c0 : Int32) (c1 : Int32) (h0 : Heap) (n0 : Nat) (Z0 : n0 ≤ h0.size) (pr0 : Old Z n0 h0) (pr1 : Arv Z h0 a1 ka .char (2 : Int32) [(.int c0), (.int c1)] (.int 0)) (pr2 : Arv Z h0 b1 kb .byte (2 : Int32) [(.int 0), (.int 0)] (.int 0)) (pr3 : n0 ≤ b1) (pr4 : a1 ≠ b1) (hc0 : ¬ ((255 : Int32) < c0)) (hc1 : ¬ ((255 : Int32) < c1)) :
    Met l Z Y22 B5 7 (some .int) [] ({ frames := 0, cells := 0, slots := 0, locals := 0 } : Room) #[(.ref a1), (.int 0), (.ref b1), (.int 0), (.int 2)] h0 (fun vv h L => Fr n0 L ∧ vv = some (.int 2) ∧ Keep h0 h [b1] ∧ Arv Z h b1 kb .byte (2 : Int32) [(.int (nar .byte (c0.toInt8.toInt32))), (.int (nar .byte (c1.toInt8.toInt32)))] (.int 0)) := by
  refine Met.enter (f0 := fun m => mkF m 0 #[vr a1, vi 0, vr b1, vi 0, vi 2, .unset, .unset] []) (plainFor_of_name pn3) (fun m => ef_rm_cmp5_2 m a1 b1) ?_
  intro p e s m below meth c s₁ hx hby (hml : c.maxLocals = 7) (hown : s.vm.findClass "java/lang/StringUTF16" = some m.cls) hnm hret hlk hZ X0 e0
  have dk : Dk B5 c := fun h => hb hby h
  have W := @wd _ _ _ hw
  have N0 := Fr.nil n0
  refine gz X0 12 #[vr a1, vi 0, vr b1, vi 0, vi 2, vi 0, .unset] [(.int 0), (.ref a1)] (fun _ k => kC X0 hx (dk d5_0) (sI X0 hx (dk d5_1) rfl rfl (.inl rfl) (lI X0 hx (dk d5_3) rfl (lI X0 hx (dk d5_5) rfl (cN X0 hx (dk d5_7) rfl (tlt (by decide)).2.1 (aN X0 hx (dk d5_10) rfl rfl (lN X0 hx (dk d5_11) rfl k))))))) ?_
  obtain ⟨cl10, Ar10, q10, S10, N_10, Hs10, G10⟩ := id pr1
  have hin11 : ¬ ((0 : Int32) < 0 ∨ cl10.slots.size ≤ ((0 : Int32)).toNatClampNeg) := inb_of S10 ⟨by decide, by decide⟩
  have hat11 : cl10.slots[((0 : Int32)).toNatClampNeg]? = some (.int c0) := Hs10.at hin11 rfl
  refine gz X0 13 #[vr a1, vi 0, vr b1, vi 0, vi 2, vi 0, .unset] [(.int c0)] (fun _ k => X0.caload hx (j := (0 : Int32)) (v := (.int c0)) (by rw [e0]; exact Ar10.1) (State.isArrayOf_alike hZ.alike Ar10.2.1) Ar10.2.2 hin11 hat11 (g := (mkF m 12 #[vr a1, vi 0, vr b1, vi 0, vi 2, vi 0, .unset] [(.int 0), (.ref a1)])) rfl rfl (dk d5_12) _ k) ?_
  refine gz X0 31 #[vr a1, vi 0, vr b1, vi 0, vi 2, vi 0, vi c0] [(.int (c0.toInt8.toInt32)), (.int 0), (.ref b1)] (fun _ k => sI X0 hx (dk d5_13) rfl rfl (.inl rfl) (lI X0 hx (dk d5_15) rfl (XS.sipush X0.here hx rfl (dk d5_17) (cY X0 hx 20 26 rfl (dk d5_20) rfl (flt hc0).2.2.2 (aN X0 hx (dk d5_26) rfl rfl (lN X0 hx (dk d5_27) rfl (lI X0 hx (dk d5_28) rfl (XS.i2b X0.here hx rfl (dk d5_30) rfl k)))))))) ?_
  obtain ⟨cl12, Ar12, q12, S12, N_12, Hs12, G12⟩ := id pr2
  have hin13 : ¬ ((0 : Int32) < 0 ∨ cl12.slots.size ≤ ((0 : Int32)).toNatClampNeg) := inb_of S12 ⟨by decide, by decide⟩
  obtain ⟨T13, h13, X13, e13, W13, st13⟩ := stB X0 hx hZ e0 Ar12 (j := (0 : Int32)) hin13 (g := (mkF m 31 #[vr a1, vi 0, vr b1, vi 0, vi 2, vi 0, vi c0] [(.int (c0.toInt8.toInt32)), (.int 0), (.ref b1)])) rfl rfl (dk d5_31)
  have O14 := pr0.wr W13 pr3
  have Z14 : n0 ≤ h13.size := Nat.le_trans Z0 (Keep.of_wr W13).1
  have V13 : Arv Z h13 b1 kb .byte (2 : Int32) [(.int (nar .byte (c0.toInt8.toInt32))), (.int 0)] (.int 0) := Arv.set Ar12 q12 S12 N_12 Hs12 G12 (fits_nar_byte _) W13 0 rfl (Nat.le_of_ble_eq_true rfl)
  have N13 := Fr.snoc X13 N0 pr3
  refine gz X13 12 #[vr a1, vi 1, vr b1, vi 1, vi 2, vi 1, vi c0] [(.int 1), (.ref a1)] (fun _ k => st13 _ (XS.iinc X13.here hx rfl (dk d5_32) rfl (l' := #[vr a1, vi 1, vr b1, vi 0, vi 2, vi 0, vi c0]) rfl (XS.iinc X13.here hx rfl (dk d5_35) rfl (l' := #[vr a1, vi 1, vr b1, vi 1, vi 2, vi 0, vi c0]) rfl (XS.iinc X13.here hx rfl (dk d5_38) rfl (l' := #[vr a1, vi 1, vr b1, vi 1, vi 2, vi 1, vi c0]) rfl (gT X13 hx 41 3 rfl (dk d5_41) (lI X13 hx (dk d5_3) rfl (lI X13 hx (dk d5_5) rfl (cN X13 hx (dk d5_7) rfl (tlt (by decide)).2.1 (aN X13 hx (dk d5_10) rfl rfl (lN X13 hx (dk d5_11) rfl k)))))))))) ?_
  obtain ⟨cl15, Ar15, q15, S15, N_15, Hs15, G15⟩ := id (pr1.other W13 pr4)
  have hin16 : ¬ ((1 : Int32) < 0 ∨ cl15.slots.size ≤ ((1 : Int32)).toNatClampNeg) := inb_of S15 ⟨by decide, by decide⟩
  have hat16 : cl15.slots[((1 : Int32)).toNatClampNeg]? = some (.int c1) := Hs15.at hin16 rfl
  refine gz X13 13 #[vr a1, vi 1, vr b1, vi 1, vi 2, vi 1, vi c0] [(.int c1)] (fun _ k => X13.caload hx (j := (1 : Int32)) (v := (.int c1)) (by rw [e13]; exact Ar15.1) (State.isArrayOf_alike hZ.alike Ar15.2.1) Ar15.2.2 hin16 hat16 (g := (mkF m 12 #[vr a1, vi 1, vr b1, vi 1, vi 2, vi 1, vi c0] [(.int 1), (.ref a1)])) rfl rfl (dk d5_12) _ k) ?_
  refine gz X13 31 #[vr a1, vi 1, vr b1, vi 1, vi 2, vi 1, vi c1] [(.int (c1.toInt8.toInt32)), (.int 1), (.ref b1)] (fun _ k => sI X13 hx (dk d5_13) rfl rfl (.inr ⟨_, rfl, rfl⟩) (lI X13 hx (dk d5_15) rfl (XS.sipush X13.here hx rfl (dk d5_17) (cY X13 hx 20 26 rfl (dk d5_20) rfl (flt hc1).2.2.2 (aN X13 hx (dk d5_26) rfl rfl (lN X13 hx (dk d5_27) rfl (lI X13 hx (dk d5_28) rfl (XS.i2b X13.here hx rfl (dk d5_30) rfl k)))))))) ?_
  obtain ⟨cl17, Ar17, q17, S17, N_17, Hs17, G17⟩ := id V13
  have hin18 : ¬ ((1 : Int32) < 0 ∨ cl17.slots.size ≤ ((1 : Int32)).toNatClampNeg) := inb_of S17 ⟨by decide, by decide⟩
  obtain ⟨T18, h18, X18, e18, W18, st18⟩ := stB X13 hx hZ e13 Ar17 (j := (1 : Int32)) hin18 (g := (mkF m 31 #[vr a1, vi 1, vr b1, vi 1, vi 2, vi 1, vi c1] [(.int (c1.toInt8.toInt32)), (.int 1), (.ref b1)])) rfl rfl (dk d5_31)
  have O19 := O14.wr W18 pr3
  have Z19 : n0 ≤ h18.size := Nat.le_trans Z14 (Keep.of_wr W18).1
  have V18 : Arv Z h18 b1 kb .byte (2 : Int32) [(.int (nar .byte (c0.toInt8.toInt32))), (.int (nar .byte (c1.toInt8.toInt32)))] (.int 0) := Arv.set Ar17 q17 S17 N_17 Hs17 G17 (fits_nar_byte _) W18 1 rfl (Nat.le_of_ble_eq_true rfl)
  have N18 := Fr.snoc X18 N13 pr3
  refine gz X18 46 #[vr a1, vi 2, vr b1, vi 2, vi 2, vi 2, vi c1] [(.int 2)] (fun _ k => st18 _ (XS.iinc X18.here hx rfl (dk d5_32) rfl (l' := #[vr a1, vi 2, vr b1, vi 1, vi 2, vi 1, vi c1]) rfl (XS.iinc X18.here hx rfl (dk d5_35) rfl (l' := #[vr a1, vi 2, vr b1, vi 2, vi 2, vi 1, vi c1]) rfl (XS.iinc X18.here hx rfl (dk d5_38) rfl (l' := #[vr a1, vi 2, vr b1, vi 2, vi 2, vi 2, vi c1]) rfl (gT X18 hx 41 3 rfl (dk d5_41) (lI X18 hx (dk d5_3) rfl (lI X18 hx (dk d5_5) rfl (cY X18 hx 7 44 rfl (dk d5_7) rfl (flt (by decide)).2.1 (lI X18 hx (dk d5_44) rfl k))))))))) ?_
  refine Go.retJ X18 hx hlk (t := .int) hret (dk d5_46) ?_
  rw [e18]
  exact ⟨N18, rfl, (((Keep.refl h0 [b1]).wr W13 (Or.inl (List.mem_of_getElem? (i := 0) rfl))).wr W18 (Or.inl (List.mem_of_getElem? (i := 0) rfl))), V18⟩
theorem ef_rm_cmp3_2 (m : MethodId) (x0 : Addr) : entryFrame m #[(.ref x0), (.int 0), (.int 2)] 6 = mkF m 0 #[vr x0, vi 0, vi 2, .unset, .unset, .unset] [] := by first | (simp [entryFrame, mkF, argsToLocals, Value.category]; done) | rfl
theorem d4_0 : DK B4 0 (.iload_n 2) 1 := by decide +kernel
theorem d4_1 : DK B4 1 (.newarray .byte) 2 := by decide +kernel
theorem d4_3 : DK B4 3 (.astore_n 3) 1 := by decide +kernel
theorem d4_4 : DK B4 4 (.aload_n 0) 1 := by decide +kernel
theorem d4_5 : DK B4 5 (.iload_n 1) 1 := by decide +kernel
theorem d4_6 : DK B4 6 (.aload_n 3) 1 := by decide +kernel
theorem d4_7 : DK B4 7 (.iconst 0) 1 := by decide +kernel
theorem d4_8 : DK B4 8 (.iload_n 2) 1 := by decide +kernel
theorem d4_9 : DK B4 9 (.invokestatic 115) 3 := by decide +kernel
theorem pd_0 : parseMethodDescriptor "([CI[BII)I" = some ⟨[(.array .char), .int, (.array .byte), .int, .int], some .int⟩ := by decide +kernel
theorem m0 {Z : State} {a0 : Array Value} (hw : HW a0 Z) : (Jvm.Cond.static Y22).before a0 Z = true ∧ (Jvm.Cond.initialized "java/lang/StringUTF16").before a0 Z = true ∧ (Jvm.Cond.code Y22 B5 (7 : Nat) (Option.some Jvm.ClassFile.FieldType.int)).before a0 Z = true := ⟨(wd hw 21 rfl), (wd hw 17 rfl), (wd hw 22 rfl)⟩
theorem d4_12 : DK B4 12 (.istore 4) 2 := by decide +kernel
theorem d4_14 : DK B4 14 (.iload 4) 2 := by decide +kernel
theorem d4_16 : DK B4 16 (.iload_n 2) 1 := by decide +kernel
theorem d4_17 : DK B4 17 (.if_icmp .eq 40) 3 := by decide +kernel
theorem d4_57 : DK B4 57 (.aload_n 3) 1 := by decide +kernel
theorem d4_58 : DK B4 58 .areturn 1 := by decide +kernel
theorem rm_cmp3_2 {l : Launch} {Z : State} {a0 : Array Value} (hw : HW a0 Z) (a1 : Addr) (ka : ClassId) (c0 : Int32) (c1 : Int32) (h0 : Heap) (n0 : Nat) (Z0 : n0 ≤ h0.size) (pr0 : Old Z n0 h0) (pr1 : Arv Z h0 a1 ka .char (2 : Int32) [(.int c0), (.int c1)] (.int 0)) (hc0 : ¬ ((255 : Int32) < c0)) (hc1 : ¬ ((255 : Int32) < c1)) :
    Met l Z Y21 B4 6 (some (.array .byte)) [] ({ frames := 1, cells := 1, slots := 2, locals := 18 } : Room) #[(.ref a1), (.int 0), (.int 2)] h0 (fun vv h L => Fr n0 L ∧ ∃ b : Addr, ∃ k : ClassId, vv = some (.ref b) ∧ Keep h0 h [] ∧ Arv Z h b k .byte (2 : Int32) [(.int (nar .byte (c0.toInt8.toInt32))), (.int (nar .byte (c1.toInt8.toInt32)))] (.int 0) ∧ h0.size ≤ b) := by
  refine Met.enter (f0 := fun m => mkF m 0 #[vr a1, vi 0, vi 2, .unset, .unset, .unset] []) (plainFor_of_name pn3) (fun m => ef_rm_cmp3_2 m a1) ?_
  intro p e s m below meth c s₁ hx hby (hml : c.maxLocals = 6) (hown : s.vm.findClass "java/lang/StringUTF16" = some m.cls) hnm hret hlk hZ X0 e0
  have dk : Dk B4 c := fun h => hb hby h
  have W := @wd _ _ _ hw
  have N0 := Fr.nil n0
  refine gz X0 1 #[vr a1, vi 0, vi 2, .unset, .unset, .unset] [(.int 2)] (fun _ k => lN X0 hx (dk d4_0) rfl k) ?_
  obtain ⟨T10, h10, k10, X10, e10, E10, A10, st10⟩ := newP X0 hx hZ (W 19 rfl) e0 (g := (mkF m 1 #[vr a1, vi 0, vi 2, .unset, .unset, .unset] [(.int 2)])) rfl (dk d4_1) rfl (by decide) (cap := 2) (by decide) (by decide) (by decide) (by decide)
  obtain ⟨b10, g10⟩ : ∃ z, z = h0.size := ⟨_, rfl⟩
  rw [← g10] at A10 st10
  have sz_b10 : h0.size ≤ b10 := Nat.le_of_eq g10.symm
  have V10 : Arv Z h10 b10 k10 .byte (2 : Int32) [(.int 0), (.int 0)] (.int 0) := (Arv.new A10 (by decide)).pad (pad_rep [] (.int 0) 2)
  have O11 := pr0.ext E10
  have Z11 : n0 ≤ h10.size := Nat.le_trans Z0 E10.1
  refine gz X10 9 #[vr a1, vi 0, vi 2, vr b10, .unset, .unset] [(.int 2), (.int 0), (.ref b10), (.int 0), (.ref a1)] (fun _ k => st10 _ (tN X10 hx (dk d4_3) rfl rfl rfl (.inl rfl) (aN X10 hx (dk d4_4) rfl rfl (lN X10 hx (dk d4_5) rfl (aN X10 hx (dk d4_6) rfl rfl (kC X10 hx (dk d4_7) (lN X10 hx (dk d4_8) rfl k))))))) ?_
  refine goS X10 hx hZ hown (W 20 rfl) (m0 hw) 5 1 2 (rm_cmp5_2 hw a1 b10 ka k10 c0 c1 h10 n0 Z11 O11 (pr1.ext E10) V10 (Nat.le_trans Z0 sz_b10) (Nat.ne_of_lt (Nat.lt_of_lt_of_le pr1.lt sz_b10)) hc0 hc1) N0 e10 pd_0 hml (dk d4_9) ?_
  rintro _ T12 L12 X12 N12 ⟨rfl, K12, p12_0⟩
  have O13 := O11.keep K12 (allS (Nat.le_trans Z0 sz_b10) all0)
  have Z13 : n0 ≤ T12.heap.size := Nat.le_trans Z11 K12.1
  refine gz X12 58 #[vr a1, vi 0, vi 2, vr b10, vi 2, .unset] [(.ref b10)] (fun _ k => sI X12 hx (dk d4_12) rfl rfl (.inl rfl) (lI X12 hx (dk d4_14) rfl (lN X12 hx (dk d4_16) rfl (cY X12 hx 17 57 rfl (dk d4_17) rfl (teq (by decide)).1 (aN X12 hx (dk d4_57) rfl rfl k))))) ?_
  refine Go.retA X12 hx hlk (t := (.array .byte)) hret (dk d4_58) ?_
  exact ⟨N12, b10, k10, rfl, (((Keep.refl h0 []).ext E10).trans K12 (allS (Or.inr (Nat.le_trans (Nat.le_refl _) sz_b10)) all0)), p12_0, (Nat.le_trans (Nat.le_refl _) sz_b10)⟩
theorem ef_rm_cfal_2 (m : MethodId) (x0 : Addr) : entryFrame m #[(.ref x0), (.int 2)] 2 = mkF m 0 #[vr x0, vi 2] [] := by first | (simp [entryFrame, mkF, argsToLocals, Value.category]; done) | rfl
theorem d6_0 : DK B3 0 (.iload_n 1) 1 := by decide +kernel
theorem d6_1 : DK B3 1 (.aload_n 0) 1 := by decide +kernel
theorem d6_2 : DK B3 2 .arraylength 1 := by decide +kernel
theorem d6_3 : DK B3 3 .isub 1 := by decide +kernel
theorem d6_4 : DK B3 4 (.bipush 31) 2 := by decide +kernel
theorem d6_6 : DK B3 6 .iushr 1 := by decide +kernel
theorem d6_7 : DK B3 7 .i2b 1 := by decide +kernel
theorem d6_8 : DK B3 8 .ireturn 1 := by decide +kernel
theorem rm_cfal_2 {l : Launch} {Z : State} {a0 : Array Value} (hw : HW a0 Z) (b1 : Addr) (kb : ClassId) (c0 : Int32) (c1 : Int32) (h0 : Heap) (n0 : Nat) (Z0 : n0 ≤ h0.size) (pr0 : Arv Z h0 b1 kb .byte (2 : Int32) [(.int (nar .byte (c0.toInt8.toInt32))), (.int (nar .byte (c1.toInt8.toInt32)))] (.int 0)) :
    Met l Z Y20 B3 2 (some .byte) [] ({ frames := 0, cells := 0, slots := 0, locals := 0 } : Room) #[(.ref b1), (.int 2)] h0 (fun vv h L => Fr n0 L ∧ vv = some (.int 0) ∧ h = h0) := by
  refine Met.enter (f0 := fun m => mkF m 0 #[vr b1, vi 2] []) (plainFor_of_name pn3) (fun m => ef_rm_cfal_2 m b1) ?_
  intro p e s m below meth c s₁ hx hby (hml : c.maxLocals = 2) (hown : s.vm.findClass "java/lang/StringUTF16" = some m.cls) hnm hret hlk hZ X0 e0
  have dk : Dk B3 c := fun h => hb hby h
  have W := @wd _ _ _ hw
  have N0 := Fr.nil n0
  refine gz X0 2 #[vr b1, vi 2] [(.ref b1), (.int 2)] (fun _ k => lN X0 hx (dk d6_0) rfl (aN X0 hx (dk d6_1) rfl rfl k)) ?_
  obtain ⟨cl10, Ar10, q10, S10, N_10, Hs10, G10⟩ := id pr0
  refine gz X0 3 #[vr b1, vi 2] [(.int 2), (.int 2)] (fun _ k => X0.arraylength hx (by rw [e0]; exact Ar10.1) (State.isArrayOf_alike hZ.alike Ar10.2.1) (g := (mkF m 2 #[vr b1, vi 2] [(.ref b1), (.int 2)])) rfl rfl (dk d6_2) _ (by rw [len_of S10 N_10]; exact k)) ?_
  refine gz X0 8 #[vr b1, vi 2] [(.int 0)] (fun _ k => XS.isub X0.here hx rfl (dk d6_3) rfl (XS.bipush X0.here hx rfl (dk d6_4) (XS.iushr X0.here hx rfl (dk d6_6) rfl (XS.i2b X0.here hx rfl (dk d6_7) rfl k)))) ?_
  refine Go.retJ X0 hx hlk (t := .byte) hret (dk d6_8) ?_
  rw [e0]
  exact ⟨N0, rfl, rfl⟩
theorem ef_rm_sV_2 (m : MethodId) (x0 : Addr) (x1 : Addr) : entryFrame m #[(.ref x0), (.ref x1), (.int 0), (.int 2), .null] 6 = mkF m 0 #[vr x0, vr x1, vi 0, vi 2, .val .null, .unset] [] := by first | (simp [entryFrame, mkF, argsToLocals, Value.category]; done) | rfl
theorem d2_0 : DK B1 0 (.aload_n 0) 1 := by decide +kernel
theorem d2_1 : DK B1 1 (.invokespecial 1) 3 := by decide +kernel
theorem d2_4 : DK B1 4 (.iload_n 3) 1 := by decide +kernel
theorem d2_5 : DK B1 5 (.ifCond .ne 22) 3 := by decide +kernel
theorem d2_27 : DK B1 27 (.getstatic 38) 3 := by decide +kernel
theorem d2_30 : DK B1 30 (.ifCond .eq 28) 3 := by decide +kernel
theorem d2_33 : DK B1 33 (.aload_n 1) 1 := by decide +kernel
theorem d2_34 : DK B1 34 (.iload_n 2) 1 := by decide +kernel
theorem d2_35 : DK B1 35 (.iload_n 3) 1 := by decide +kernel
theorem d2_36 : DK B1 36 (.invokestatic 177) 3 := by decide +kernel
theorem pd_1 : parseMethodDescriptor "([CII)[B" = some ⟨[(.array .char), .int, .int], some (.array .byte)⟩ := by decide +kernel
theorem m1 {Z : State} {a0 : Array Value} (hw : HW a0 Z) : (Jvm.Cond.static Y21).before a0 Z = true ∧ (Jvm.Cond.initialized "java/lang/StringUTF16").before a0 Z = true ∧ (Jvm.Cond.code Y21 B4 (6 : Nat) (Option.some (Jvm.ClassFile.FieldType.array Jvm.ClassFile.FieldType.byte))).before a0 Z = true := ⟨(wd hw 16 rfl), (wd hw 17 rfl), (wd hw 18 rfl)⟩
theorem d2_39 : DK B1 39 (.astore 5) 2 := by decide +kernel
theorem d2_41 : DK B1 41 (.aload_n 0) 1 := by decide +kernel
theorem d2_42 : DK B1 42 (.aload 5) 2 := by decide +kernel
theorem d2_44 : DK B1 44 (.iload_n 3) 1 := by decide +kernel
theorem d2_45 : DK B1 45 (.invokestatic 47) 3 := by decide +kernel
theorem pd_2 : parseMethodDescriptor "([BI)B" = some ⟨[(.array .byte), .int], some .byte⟩ := by decide +kernel
theorem m2 {Z : State} {a0 : Array Value} (hw : HW a0 Z) : (Jvm.Cond.static Y20).before a0 Z = true ∧ (Jvm.Cond.initialized "java/lang/StringUTF16").before a0 Z = true ∧ (Jvm.Cond.code Y20 B3 (2 : Nat) (Option.some Jvm.ClassFile.FieldType.byte)).before a0 Z = true := ⟨(wd hw 24 rfl), (wd hw 17 rfl), (wd hw 25 rfl)⟩
theorem d2_48 : DK B1 48 (.putfield 15) 3 := by decide +kernel
theorem d2_51 : DK B1 51 (.aload_n 0) 1 := by decide +kernel
theorem d2_52 : DK B1 52 (.aload 5) 2 := by decide +kernel
theorem d2_54 : DK B1 54 (.putfield 9) 3 := by decide +kernel
theorem d2_57 : DK B1 57 .return_ 1 := by decide +kernel
theorem pn4 : plainName "java/lang/String" = true := by first | (simp [plainName, overriddenIn]; done) | decide +kernel
theorem rm_sV_2 {l : Launch} {Z : State} {a0 : Array Value} (hw : HW a0 Z) (a1 : Addr) (v1 : Addr) (ka : ClassId) (c0 : Int32) (c1 : Int32) (cs : Int32) (h0 : Heap) (n0 : Nat) (Z0 : n0 ≤ h0.size) (pr0 : Old Z n0 h0) (pr1 : S0 Z cs) (hcs : ¬ (cs = (0 : Int32))) (pr3 : XT Z h0 a1) (pr4 : Fld Z h0 a1 "java/lang/String" "value" "[B" .null) (pr5 : FC Z h0 a1 0) (pr6 : n0 ≤ a1) (pr7 : Arv Z h0 v1 ka .char (2 : Int32) [(.int c0), (.int c1)] (.int 0)) (hc0 : ¬ ((255 : Int32) < c0)) (hc1 : ¬ ((255 : Int32) < c1)) :
    Met l Z Y19 B1 6 none [] ({ frames := 2, cells := 1, slots := 2, locals := 35 } : Room) #[(.ref a1), (.ref v1), (.int 0), (.int 2), .null] h0 (fun vv h L => Fr n0 L ∧ ∃ t : Addr, ∃ k : ClassId, vv = none ∧ Keep h0 h [a1] ∧ XT Z h a1 ∧ FV Z h a1 t ∧ FC Z h a1 0 ∧ Arv Z h t k .byte (2 : Int32) [(.int (nar .byte (c0.toInt8.toInt32))), (.int (nar .byte (c1.toInt8.toInt32)))] (.int 0) ∧ h0.size ≤ t) := by
  refine Met.enter (f0 := fun m => mkF m 0 #[vr a1, vr v1, vi 0, vi 2, .val .null, .unset] []) (plainFor_of_name pn4) (fun m => ef_rm_sV_2 m a1 v1) ?_
  intro p e s m below meth c s₁ hx hby (hml : c.maxLocals = 6) (hown : s.vm.findClass "java/lang/String" = some m.cls) hnm hret hlk hZ X0 e0
  have dk : Dk B1 c := fun h => hb hby h
  have W := @wd _ _ _ hw
  have N0 := Fr.nil n0
  refine gz X0 1 #[vr a1, vr v1, vi 0, vi 2, .val .null, .unset] [(.ref a1)] (fun _ k => aN X0 hx (dk d2_0) rfl rfl k) ?_
  obtain ⟨T10, X10, e10, st10⟩ := initO X0 hx hZ hown (W 11 rfl) (W 12 rfl) (W 13 rfl) e0 (g := (mkF m 1 #[vr a1, vr v1, vi 0, vi 2, .val .null, .unset] [(.ref a1)])) rfl (by rw [hml]; rfl) rfl (dk d2_1) (by decide) (W := 0) (by show 2 * 0 + _ ≤ _; exact Nat.le_of_eq rfl) (by decide)
  refine gz X10 27 #[vr a1, vr v1, vi 0, vi 2, .val .null, .unset] [] (fun _ k => st10 _ (lN X10 hx (dk d2_4) rfl (fY X10 hx 5 27 rfl (dk d2_5) rfl ((if0 _ _).trans (feq (by decide)).2) k))) ?_
  obtain ⟨T11, X11, e11, st11⟩ := getS2 X10 hx hZ hown (host := "") (Or.inl (W 14 rfl)) Via.refl e10 (pr1.ext pr0.2) (g := (mkF m 27 #[vr a1, vr v1, vi 0, vi 2, .val .null, .unset] [])) rfl (dk d2_27)
  refine gz X11 36 #[vr a1, vr v1, vi 0, vi 2, .val .null, .unset] [(.int 2), (.int 0), (.ref v1)] (fun _ k => st11 _ (fN X11 hx (dk d2_30) rfl ((if0 _ _).trans (feq hcs).1) (aN X11 hx (dk d2_33) rfl rfl (lN X11 hx (dk d2_34) rfl (lN X11 hx (dk d2_35) rfl k))))) ?_
  refine goS X11 hx hZ hown (W 15 rfl) (m1 hw) 3 1 2 (rm_cmp3_2 hw v1 ka c0 c1 h0 n0 Z0 pr0 pr7 hc0 hc1) N0 e11 pd_1 hml (dk d2_36) ?_
  rintro _ T12 L12 X12 N12 ⟨b12, k12, rfl, K12, p12_0, p12_1⟩
  have O13 := pr0.keep K12 all0
  have Z13 : n0 ≤ T12.heap.size := Nat.le_trans Z0 K12.1
  have sz_b12 : h0.size ≤ b12 := p12_1
  refine gz X12 45 #[vr a1, vr v1, vi 0, vi 2, .val .null, vr b12] [(.int 2), (.ref b12), (.ref a1)] (fun _ k => tI X12 hx (dk d2_39) rfl rfl rfl (.inl rfl) (aN X12 hx (dk d2_41) rfl rfl (aI X12 hx (dk d2_42) rfl rfl (lN X12 hx (dk d2_44) rfl k)))) ?_
  refine goS X12 hx hZ hown (W 23 rfl) (m2 hw) 2 1 2 (rm_cfal_2 hw b12 k12 c0 c1 T12.heap n0 Z13 p12_0) N12 rfl pd_2 hml (dk d2_45) ?_
  rintro _ T14 L14 X14 N14 ⟨rfl, hh14⟩
  obtain ⟨T15, h15, X15, e15, W15, st15⟩ := putFN X14 hx hZ hown (W 26 rfl) Via.refl hh14 (pr5.keep K12 nin0) (pr3.keep K12) (Or.inr ⟨(W 27 rfl), rfl, hnm⟩) (W 2 rfl) (ty := .byte) (v' := (.int 0)) (by decide) rfl rfl (g := (mkF m 48 #[vr a1, vr v1, vi 0, vi 2, .val .null, vr b12] [(.int 0), (.ref a1)])) rfl rfl (dk d2_48)
  have N15 := Fr.snoc X15 N14 pr6
  have O16 := O13.wr W15 pr6
  have Z16 : n0 ≤ h15.size := Nat.le_trans Z13 (Keep.of_wr W15).1
  have F15 := (pr5.keep K12 nin0).same W15
  refine gz X15 54 #[vr a1, vr v1, vi 0, vi 2, .val .null, vr b12] [(.ref b12), (.ref a1)] (fun _ k => st15 _ (aN X15 hx (dk d2_51) rfl rfl (aI X15 hx (dk d2_52) rfl rfl k))) ?_
  have f17 := ((pr4.keep K12 nin0).other W15 (Or.inr (slot_ne (Or.inr (W 29 rfl)) (Or.inr (W 27 rfl)) (by decide) (t := (.array .byte)) (t' := .byte) (by decide) (by decide))))
  obtain ⟨T18, h18, X18, e18, W18, st18⟩ := putF X15 hx hZ hown (host := "") (Or.inl (W 28 rfl)) Via.refl e15 f17 ((pr3.keep K12).wr W15) (Or.inr ⟨(W 29 rfl), rfl, hnm⟩) (W 2 rfl) (ty := (.array .byte)) (by decide) rfl rfl (g := (mkF m 54 #[vr a1, vr v1, vi 0, vi 2, .val .null, vr b12] [(.ref b12), (.ref a1)])) rfl rfl (dk d2_54)
  have N18 := Fr.snoc X18 N15 pr6
  have O19 := O16.wr W18 pr6
  have Z19 : n0 ≤ h18.size := Nat.le_trans Z16 (Keep.of_wr W18).1
  have F18 := f17.same W18
  refine gz X18 57 #[vr a1, vr v1, vi 0, vi 2, .val .null, vr b12] [] (fun _ k => st18 _ k) ?_
  refine Go.retV X18 hx hlk hret (dk d2_57) (by decide) (by decide) ?_
  rw [e18]
  exact ⟨N18, b12, k12, rfl, ((((Keep.refl h0 [a1]).trans K12 all0).wr W15 (Or.inl (List.mem_of_getElem? (i := 0) rfl))).wr W18 (Or.inl (List.mem_of_getElem? (i := 0) rfl))), (((pr3.keep K12).wr W15).wr W18), F18, (F15.other W18 (Or.inr (slot_ne (Or.inr (W 27 rfl)) (Or.inr (W 29 rfl)) (by decide) (t := .byte) (t' := (.array .byte)) (by decide) (by decide)))), ((p12_0.other W15 (Ne.symm (Nat.ne_of_lt (Nat.lt_of_lt_of_le pr3.lt sz_b12)))).other W18 (Ne.symm (Nat.ne_of_lt (Nat.lt_of_lt_of_le pr3.lt sz_b12)))), (Nat.le_trans (Nat.le_refl _) sz_b12)⟩
theorem ef_rm_sC_2 (m : MethodId) (x0 : Addr) (x1 : Addr) : entryFrame m #[(.ref x0), (.ref x1)] 2 = mkF m 0 #[vr x0, vr x1] [] := by first | (simp [entryFrame, mkF, argsToLocals, Value.category]; done) | rfl
theorem d1_0 : DK B2 0 (.aload_n 0) 1 := by decide +kernel
theorem d1_1 : DK B2 1 (.aload_n 1) 1 := by decide +kernel
theorem d1_2 : DK B2 2 (.iconst 0) 1 := by decide +kernel
theorem d1_3 : DK B2 3 (.aload_n 1) 1 := by decide +kernel
theorem d1_4 : DK B2 4 .arraylength 1 := by decide +kernel
theorem d1_5 : DK B2 5 .aconst_null 1 := by decide +kernel
theorem d1_6 : DK B2 6 (.invokespecial 27) 3 := by decide +kernel
theorem pd_3 : parseMethodDescriptor "([CIILjava/lang/Void;)V" = some ⟨[(.array .char), .int, .int, (.object "java/lang/Void")], none⟩ := by decide +kernel
theorem m3 {Z : State} {a0 : Array Value} (hw : HW a0 Z) : (Jvm.Cond.instanceMethod Y19).before a0 Z = true ∧ (Jvm.Cond.initialized "java/lang/String").before a0 Z = true ∧ (Jvm.Cond.code Y19 B1 (6 : Nat) (Option.none : Option Jvm.ClassFile.FieldType)).before a0 Z = true := ⟨(wd hw 8 rfl), (wd hw 3 rfl), (wd hw 10 rfl)⟩
theorem d1_9 : DK B2 9 .return_ 1 := by decide +kernel
theorem rm_sC_2 {l : Launch} {Z : State} {a0 : Array Value} (hw : HW a0 Z) (a1 : Addr) (v1 : Addr) (ka : ClassId) (c0 : Int32) (c1 : Int32) (cs : Int32) (h0 : Heap) (n0 : Nat) (Z0 : n0 ≤ h0.size) (pr0 : Old Z n0 h0) (pr1 : S0 Z cs) (hcs : ¬ (cs = (0 : Int32))) (pr3 : XT Z h0 a1) (pr4 : Fld Z h0 a1 "java/lang/String" "value" "[B" .null) (pr5 : FC Z h0 a1 0) (pr6 : n0 ≤ a1) (pr7 : Arv Z h0 v1 ka .char (2 : Int32) [(.int c0), (.int c1)] (.int 0)) (hc0 : ¬ ((255 : Int32) < c0)) (hc1 : ¬ ((255 : Int32) < c1)) :
    Met l Z Y18 B2 2 none [] ({ frames := 3, cells := 1, slots := 2, locals := 52 } : Room) #[(.ref a1), (.ref v1)] h0 (fun vv h L => Fr n0 L ∧ ∃ t : Addr, ∃ k : ClassId, vv = none ∧ Keep h0 h [a1] ∧ XT Z h a1 ∧ FV Z h a1 t ∧ FC Z h a1 0 ∧ Arv Z h t k .byte (2 : Int32) [(.int (nar .byte (c0.toInt8.toInt32))), (.int (nar .byte (c1.toInt8.toInt32)))] (.int 0) ∧ h0.size ≤ t) := by
  refine Met.enter (f0 := fun m => mkF m 0 #[vr a1, vr v1] []) (plainFor_of_name pn4) (fun m => ef_rm_sC_2 m a1 v1) ?_
  intro p e s m below meth c s₁ hx hby (hml : c.maxLocals = 2) (hown : s.vm.findClass "java/lang/String" = some m.cls) hnm hret hlk hZ X0 e0
  have dk : Dk B2 c := fun h => hb hby h
  have W := @wd _ _ _ hw
  have N0 := Fr.nil n0
  refine gz X0 4 #[vr a1, vr v1] [(.ref v1), (.int 0), (.ref v1), (.ref a1)] (fun _ k => aN X0 hx (dk d1_0) rfl rfl (aN X0 hx (dk d1_1) rfl rfl (kC X0 hx (dk d1_2) (aN X0 hx (dk d1_3) rfl rfl k)))) ?_
  obtain ⟨cl10, Ar10, q10, S10, N_10, Hs10, G10⟩ := id pr7
  refine gz X0 5 #[vr a1, vr v1] [(.int 2), (.int 0), (.ref v1), (.ref a1)] (fun _ k => X0.arraylength hx (by rw [e0]; exact Ar10.1) (State.isArrayOf_alike hZ.alike Ar10.2.1) (g := (mkF m 4 #[vr a1, vr v1] [(.ref v1), (.int 0), (.ref v1), (.ref a1)])) rfl rfl (dk d1_4) _ (by rw [len_of S10 N_10]; exact k)) ?_
  refine gz X0 6 #[vr a1, vr v1] [.null, (.int 2), (.int 0), (.ref v1), (.ref a1)] (fun _ k => XS.aconstNull X0.here hx rfl (dk d1_5) k) ?_
  refine goI X0 hx hZ hown (W 7 rfl) (m3 hw) 4 1 2 (rm_sV_2 hw a1 v1 ka c0 c1 cs h0 n0 Z0 pr0 pr1 hcs pr3 pr4 pr5 pr6 pr7 hc0 hc1) N0 e0 pd_3 hml (dk d1_6) ?_
  rintro _ T11 L11 X11 N11 ⟨t11, k11, rfl, K11, p11_0, p11_1, p11_2, p11_3, p11_4⟩
  have O12 := pr0.keep K11 (allS pr6 all0)
  have Z12 : n0 ≤ T11.heap.size := Nat.le_trans Z0 K11.1
  have sz_t11 : h0.size ≤ t11 := p11_4
  refine gz X11 9 #[vr a1, vr v1] [] (fun _ k => k) ?_
  refine Go.retV X11 hx hlk hret (dk d1_9) (by decide) (by decide) ?_
  exact ⟨N11, t11, k11, rfl, ((Keep.refl h0 [a1]).trans K11 (allS (Or.inl (List.mem_of_getElem? (i := 0) rfl)) all0)), p11_0, p11_1, p11_2, p11_3, (Nat.le_trans (Nat.le_refl _) sz_t11)⟩
theorem ef_rm_type (m : MethodId) (x0 : Int32) : entryFrame m #[(.int x0)] 1 = mkF m 0 #[vi x0] [] := by first | (simp [entryFrame, mkF, argsToLocals, Value.category]; done) | rfl
theorem d7_0 : DK B6 0 (.iload_n 0) 1 := by decide +kernel
theorem d7_1 : DK B6 1 (.ifCond .ne 7) 3 := by decide +kernel
theorem d7_4 : DK B6 4 (.getstatic 7) 3 := by decide +kernel
theorem d7_7 : DK B6 7 .areturn 1 := by decide +kernel
theorem d7_8 : DK B6 8 (.iload_n 0) 1 := by decide +kernel
theorem d7_9 : DK B6 9 (.iconst 1) 1 := by decide +kernel
theorem d7_10 : DK B6 10 (.if_icmp .ne 7) 3 := by decide +kernel
theorem d7_13 : DK B6 13 (.getstatic 13) 3 := by decide +kernel
theorem d7_16 : DK B6 16 .areturn 1 := by decide +kernel
theorem d7_17 : DK B6 17 (.iload_n 0) 1 := by decide +kernel
theorem d7_18 : DK B6 18 (.iconst 2) 1 := by decide +kernel
theorem d7_19 : DK B6 19 (.if_icmp .ne 7) 3 := by decide +kernel
theorem d7_22 : DK B6 22 (.getstatic 16) 3 := by decide +kernel
theorem d7_25 : DK B6 25 .areturn 1 := by decide +kernel
theorem d7_26 : DK B6 26 (.getstatic 19) 3 := by decide +kernel
theorem d7_29 : DK B6 29 .areturn 1 := by decide +kernel
theorem pn0 : plainName "com/example/aurel/aurel/orders/OrderWithDeliveryConfirmedPinLaw" = true := by first | (simp [plainName, overriddenIn]; done) | decide +kernel
theorem rm_type {l : Launch} {Z : State} {a0 : Array Value} (hw : HW a0 Z) (p1 : Int32) (w0 : Addr) (w1 : Addr) (w2 : Addr) (w3 : Addr) (h0 : Heap) (n0 : Nat) (Z0 : n0 ≤ h0.size) (pr0 : Old Z n0 h0) (pr1 : S1 Z w0) (pr2 : S2 Z w1) (pr3 : S3 Z w2) (pr4 : S4 Z w3) :
    Met l Z Y15 B6 1 (some (.object "com/example/aurel/aurel/catalog/ProductType")) [] ({ frames := 0, cells := 0, slots := 0, locals := 0 } : Room) #[(.int p1)] h0 (fun vv h L => Fr n0 L ∧ ∃ o : Addr, vv = some (.ref o) ∧ h = h0) := by
  refine Met.enter (f0 := fun m => mkF m 0 #[vi p1] []) (plainFor_of_name pn0) (fun m => ef_rm_type m p1) ?_
  intro p e s m below meth c s₁ hx hby (hml : c.maxLocals = 1) (hown : s.vm.findClass "com/example/aurel/aurel/orders/OrderWithDeliveryConfirmedPinLaw" = some m.cls) hnm hret hlk hZ X0 e0
  have dk : Dk B6 c := fun h => hb hby h
  have W := @wd _ _ _ hw
  have N0 := Fr.nil n0
  refine gz X0 1 #[vi p1] [(.int p1)] (fun _ k => lN X0 hx (dk d7_0) rfl k) ?_
  by_cases c10 : p1 = (0 : Int32)
  · skip
    refine gz X0 4 #[vi p1] [] (fun _ k => fN X0 hx (dk d7_1) rfl ((if0 _ _).trans (teq c10).2) k) ?_
    obtain ⟨T11, X11, e11, st11⟩ := getS2 X0 hx hZ hown (host := "") (Or.inl (W 164 rfl)) Via.refl e0 (pr1.ext pr0.2) (g := (mkF m 4 #[vi p1] [])) rfl (dk d7_4)
    refine gz X11 7 #[vi p1] [(.ref w0)] (fun _ k => st11 _ k) ?_
    refine Go.retA X11 hx hlk (t := (.object "com/example/aurel/aurel/catalog/ProductType")) hret (dk d7_7) ?_
    rw [e11]
    exact ⟨N0, w0, rfl, rfl⟩
  · skip
    refine gz X0 10 #[vi p1] [(.int 1), (.int p1)] (fun _ k => fY X0 hx 1 8 rfl (dk d7_1) rfl ((if0 _ _).trans (feq c10).2) (lN X0 hx (dk d7_8) rfl (kC X0 hx (dk d7_9) k))) ?_
    by_cases c12 : p1 = (1 : Int32)
    · skip
      refine gz X0 13 #[vi p1] [] (fun _ k => cN X0 hx (dk d7_10) rfl (teq c12).2 k) ?_
      obtain ⟨T13, X13, e13, st13⟩ := getS2 X0 hx hZ hown (host := "") (Or.inl (W 147 rfl)) Via.refl e0 (pr2.ext pr0.2) (g := (mkF m 13 #[vi p1] [])) rfl (dk d7_13)
      refine gz X13 16 #[vi p1] [(.ref w1)] (fun _ k => st13 _ k) ?_
      refine Go.retA X13 hx hlk (t := (.object "com/example/aurel/aurel/catalog/ProductType")) hret (dk d7_16) ?_
      rw [e13]
      exact ⟨N0, w1, rfl, rfl⟩
    · skip
      refine gz X0 19 #[vi p1] [(.int 2), (.int p1)] (fun _ k => cY X0 hx 10 17 rfl (dk d7_10) rfl (feq c12).2 (lN X0 hx (dk d7_17) rfl (kC X0 hx (dk d7_18) k))) ?_
      by_cases c14 : p1 = (2 : Int32)
      · skip
        refine gz X0 22 #[vi p1] [] (fun _ k => cN X0 hx (dk d7_19) rfl (teq c14).2 k) ?_
        obtain ⟨T15, X15, e15, st15⟩ := getS2 X0 hx hZ hown (host := "") (Or.inl (W 162 rfl)) Via.refl e0 (pr3.ext pr0.2) (g := (mkF m 22 #[vi p1] [])) rfl (dk d7_22)
        refine gz X15 25 #[vi p1] [(.ref w2)] (fun _ k => st15 _ k) ?_
        refine Go.retA X15 hx hlk (t := (.object "com/example/aurel/aurel/catalog/ProductType")) hret (dk d7_25) ?_
        rw [e15]
        exact ⟨N0, w2, rfl, rfl⟩
      · skip
        refine gz X0 26 #[vi p1] [] (fun _ k => cY X0 hx 19 26 rfl (dk d7_19) rfl (feq c14).2 k) ?_
        obtain ⟨T16, X16, e16, st16⟩ := getS2 X0 hx hZ hown (host := "") (Or.inl (W 34 rfl)) Via.refl e0 (pr4.ext pr0.2) (g := (mkF m 26 #[vi p1] [])) rfl (dk d7_26)
        refine gz X16 29 #[vi p1] [(.ref w3)] (fun _ k => st16 _ k) ?_
        refine Go.retA X16 hx hlk (t := (.object "com/example/aurel/aurel/catalog/ProductType")) hret (dk d7_29) ?_
        rw [e16]
        exact ⟨N0, w3, rfl, rfl⟩
theorem ef_rm_pp (m : MethodId) (x0 : Addr) (x1 : Addr) (x2 : Addr) (x3 : Int64) : entryFrame m #[(.ref x0), (.ref x1), (.ref x2), (.long x3)] 5 = mkF m 0 #[vr x0, vr x1, vr x2, .val (.long x3), .second] [] := by first | (simp [entryFrame, mkF, argsToLocals, Value.category]; done) | rfl
theorem d24_0 : DK B22 0 (.aload_n 0) 1 := by decide +kernel
theorem d24_1 : DK B22 1 (.invokespecial 1) 3 := by decide +kernel
theorem pd_4 : parseMethodDescriptor "()V" = some ⟨[], none⟩ := by decide +kernel
theorem m4 {Z : State} {a0 : Array Value} (hw : HW a0 Z) : (Jvm.Cond.instanceMethod Y17).before a0 Z = true ∧ (Jvm.Cond.initialized "java/lang/Record").before a0 Z = true ∧ (Jvm.Cond.code Y17 B0 (1 : Nat) (Option.none : Option Jvm.ClassFile.FieldType)).before a0 Z = true := ⟨(wd hw 44 rfl), (wd hw 46 rfl), (wd hw 47 rfl)⟩
theorem d24_4 : DK B22 4 (.aload_n 0) 1 := by decide +kernel
theorem d24_5 : DK B22 5 (.aload_n 1) 1 := by decide +kernel
theorem d24_6 : DK B22 6 (.putfield 7) 3 := by decide +kernel
theorem d24_9 : DK B22 9 (.aload_n 0) 1 := by decide +kernel
theorem d24_10 : DK B22 10 (.aload_n 2) 1 := by decide +kernel
theorem d24_11 : DK B22 11 (.putfield 13) 3 := by decide +kernel
theorem d24_14 : DK B22 14 (.aload_n 0) 1 := by decide +kernel
theorem d24_15 : DK B22 15 (.lload_n 3) 1 := by decide +kernel
theorem d24_16 : DK B22 16 (.putfield 16) 3 := by decide +kernel
theorem d24_19 : DK B22 19 .return_ 1 := by decide +kernel
theorem pn1 : plainName "com/example/aurel/aurel/orders/PaidPeriod" = true := by first | (simp [plainName, overriddenIn]; done) | decide +kernel
theorem rm_pp {l : Launch} {Z : State} {a0 : Array Value} (hw : HW a0 Z) (a1 : Addr) (x1 : Addr) (x2 : Addr) (x3 : Int64) (h0 : Heap) (n0 : Nat) (Z0 : n0 ≤ h0.size) (pr0 : Old Z n0 h0) (pr1 : Exa Z h0 a1 "com/example/aurel/aurel/orders/PaidPeriod") (pr2 : Fld Z h0 a1 "com/example/aurel/aurel/orders/PaidPeriod" "subGroupId" "Ljava/lang/String;" .null) (pr3 : Fld Z h0 a1 "com/example/aurel/aurel/orders/PaidPeriod" "subscriptionId" "Ljava/lang/String;" .null) (pr4 : Fld Z h0 a1 "com/example/aurel/aurel/orders/PaidPeriod" "expiresTime" "J" (.long (0 : Int64))) (pr5 : n0 ≤ a1) :
    Met l Z Y16 B22 5 none [] ({ frames := 2, cells := 0, slots := 0, locals := 24 } : Room) #[(.ref a1), (.ref x1), (.ref x2), (.long x3)] h0 (fun vv h L => Fr n0 L ∧ vv = none ∧ Keep h0 h [a1] ∧ Exa Z h a1 "com/example/aurel/aurel/orders/PaidPeriod" ∧ Fld Z h a1 "com/example/aurel/aurel/orders/PaidPeriod" "subGroupId" "Ljava/lang/String;" (.ref x1) ∧ Fld Z h a1 "com/example/aurel/aurel/orders/PaidPeriod" "subscriptionId" "Ljava/lang/String;" (.ref x2) ∧ Fld Z h a1 "com/example/aurel/aurel/orders/PaidPeriod" "expiresTime" "J" (.long x3)) := by
  refine Met.enter (f0 := fun m => mkF m 0 #[vr a1, vr x1, vr x2, .val (.long x3), .second] []) (plainFor_of_name pn1) (fun m => ef_rm_pp m a1 x1 x2 x3) ?_
  intro p e s m below meth c s₁ hx hby (hml : c.maxLocals = 5) (hown : s.vm.findClass "com/example/aurel/aurel/orders/PaidPeriod" = some m.cls) hnm hret hlk hZ X0 e0
  have dk : Dk B22 c := fun h => hb hby h
  have W := @wd _ _ _ hw
  have N0 := Fr.nil n0
  refine gz X0 1 #[vr a1, vr x1, vr x2, .val (.long x3), .second] [(.ref a1)] (fun _ k => aN X0 hx (dk d24_0) rfl rfl k) ?_
  refine goI X0 hx hZ hown (W 155 rfl) (m4 hw) 0 0 0 (rm_Record_init hw a1 h0 n0 Z0 ) N0 e0 pd_4 hml (dk d24_1) ?_
  rintro _ T10 L10 X10 N10 ⟨rfl, hh10⟩
  refine gz X10 6 #[vr a1, vr x1, vr x2, .val (.long x3), .second] [(.ref x1), (.ref a1)] (fun _ k => aN X10 hx (dk d24_4) rfl rfl (aN X10 hx (dk d24_5) rfl rfl k)) ?_
  obtain ⟨T11, h11, X11, e11, W11, st11⟩ := putF X10 hx hZ hown (host := "") (Or.inl (W 156 rfl)) Via.refl hh10 pr2 pr1 (Or.inr ⟨(W 157 rfl), rfl, hnm⟩) (W 150 rfl) (ty := (.object "java/lang/String")) (by decide) rfl rfl (g := (mkF m 6 #[vr a1, vr x1, vr x2, .val (.long x3), .second] [(.ref x1), (.ref a1)])) rfl rfl (dk d24_6)
  have N11 := Fr.snoc X11 N10 pr5
  have O12 := pr0.wr W11 pr5
  have Z12 : n0 ≤ h11.size := Nat.le_trans Z0 (Keep.of_wr W11).1
  have F11 := pr2.same W11
  refine gz X11 11 #[vr a1, vr x1, vr x2, .val (.long x3), .second] [(.ref x2), (.ref a1)] (fun _ k => st11 _ (aN X11 hx (dk d24_9) rfl rfl (aN X11 hx (dk d24_10) rfl rfl k))) ?_
  have f13 := (pr3.other W11 (Or.inr (slot_ne (Or.inr (W 159 rfl)) (Or.inr (W 157 rfl)) (by decide) (t := (.object "java/lang/String")) (t' := (.object "java/lang/String")) (by decide) (by decide))))
  obtain ⟨T14, h14, X14, e14, W14, st14⟩ := putF X11 hx hZ hown (host := "") (Or.inl (W 158 rfl)) Via.refl e11 f13 (pr1.wr W11) (Or.inr ⟨(W 159 rfl), rfl, hnm⟩) (W 150 rfl) (ty := (.object "java/lang/String")) (by decide) rfl rfl (g := (mkF m 11 #[vr a1, vr x1, vr x2, .val (.long x3), .second] [(.ref x2), (.ref a1)])) rfl rfl (dk d24_11)
  have N14 := Fr.snoc X14 N11 pr5
  have O15 := O12.wr W14 pr5
  have Z15 : n0 ≤ h14.size := Nat.le_trans Z12 (Keep.of_wr W14).1
  have F14 := f13.same W14
  refine gz X14 16 #[vr a1, vr x1, vr x2, .val (.long x3), .second] [(.long x3), (.ref a1)] (fun _ k => st14 _ (aN X14 hx (dk d24_14) rfl rfl (XS.lloadN X14.here hx rfl (dk d24_15) rfl k))) ?_
  have f16 := ((pr4.other W11 (Or.inr (slot_ne (Or.inr (W 161 rfl)) (Or.inr (W 157 rfl)) (by decide) (t := .long) (t' := (.object "java/lang/String")) (by decide) (by decide)))).other W14 (Or.inr (slot_ne (Or.inr (W 161 rfl)) (Or.inr (W 159 rfl)) (by decide) (t := .long) (t' := (.object "java/lang/String")) (by decide) (by decide))))
  obtain ⟨T17, h17, X17, e17, W17, st17⟩ := putF X14 hx hZ hown (host := "") (Or.inl (W 160 rfl)) Via.refl e14 f16 ((pr1.wr W11).wr W14) (Or.inr ⟨(W 161 rfl), rfl, hnm⟩) (W 150 rfl) (ty := .long) (by decide) rfl rfl (g := (mkF m 16 #[vr a1, vr x1, vr x2, .val (.long x3), .second] [(.long x3), (.ref a1)])) rfl rfl (dk d24_16)
  have N17 := Fr.snoc X17 N14 pr5
  have O18 := O15.wr W17 pr5
  have Z18 : n0 ≤ h17.size := Nat.le_trans Z15 (Keep.of_wr W17).1
  have F17 := f16.same W17
  refine gz X17 19 #[vr a1, vr x1, vr x2, .val (.long x3), .second] [] (fun _ k => st17 _ k) ?_
  refine Go.retV X17 hx hlk hret (dk d24_19) (by decide) (by decide) ?_
  rw [e17]
  exact ⟨N17, rfl, ((((Keep.refl h0 [a1]).wr W11 (Or.inl (List.mem_of_getElem? (i := 0) rfl))).wr W14 (Or.inl (List.mem_of_getElem? (i := 0) rfl))).wr W17 (Or.inl (List.mem_of_getElem? (i := 0) rfl))), (((pr1.wr W11).wr W14).wr W17), ((F11.other W14 (Or.inr (slot_ne (Or.inr (W 157 rfl)) (Or.inr (W 159 rfl)) (by decide) (t := (.object "java/lang/String")) (t' := (.object "java/lang/String")) (by decide) (by decide)))).other W17 (Or.inr (slot_ne (Or.inr (W 157 rfl)) (Or.inr (W 161 rfl)) (by decide) (t := (.object "java/lang/String")) (t' := .long) (by decide) (by decide)))), (F14.other W17 (Or.inr (slot_ne (Or.inr (W 159 rfl)) (Or.inr (W 161 rfl)) (by decide) (t := (.object "java/lang/String")) (t' := .long) (by decide) (by decide)))), F17⟩
theorem ef_rm_ord_r (m : MethodId) (x0 : Addr) (x1 : Addr) (x2 : Addr) (x3 : Addr) (x4 : Addr) (x5 : Addr) (x6 : Addr) (x7 : Addr) (x8 : Int64) (x9 : Int64) (x10 : Addr) (x11 : Int32) (x12 : Int64) (x13 : Addr) : entryFrame m #[(.ref x0), (.ref x1), (.ref x2), (.ref x3), (.ref x4), (.ref x5), (.ref x6), (.ref x7), (.long x8), (.long x9), (.ref x10), (.int x11), (.long x12), (.ref x13)] 17 = mkF m 0 #[vr x0, vr x1, vr x2, vr x3, vr x4, vr x5, vr x6, vr x7, .val (.long x8), .second, .val (.long x9), .second, vr x10, vi x11, .val (.long x12), .second, vr x13] [] := by first | (simp [entryFrame, mkF, argsToLocals, Value.category]; done) | rfl
theorem d8_0 : DK B16 0 (.aload_n 0) 1 := by decide +kernel
theorem d8_1 : DK B16 1 (.invokespecial 1) 3 := by decide +kernel
theorem d8_4 : DK B16 4 (.aload_n 0) 1 := by decide +kernel
theorem d8_5 : DK B16 5 (.aload_n 1) 1 := by decide +kernel
theorem d8_6 : DK B16 6 (.putfield 7) 3 := by decide +kernel
theorem d8_9 : DK B16 9 (.aload_n 0) 1 := by decide +kernel
theorem d8_10 : DK B16 10 (.aload_n 2) 1 := by decide +kernel
theorem d8_11 : DK B16 11 (.putfield 13) 3 := by decide +kernel
theorem d8_14 : DK B16 14 (.aload_n 0) 1 := by decide +kernel
theorem d8_15 : DK B16 15 (.aload_n 3) 1 := by decide +kernel
theorem d8_16 : DK B16 16 (.putfield 16) 3 := by decide +kernel
theorem d8_19 : DK B16 19 (.aload_n 0) 1 := by decide +kernel
theorem d8_20 : DK B16 20 (.aload 4) 2 := by decide +kernel
theorem d8_22 : DK B16 22 (.putfield 19) 3 := by decide +kernel
theorem d8_25 : DK B16 25 (.aload_n 0) 1 := by decide +kernel
theorem d8_26 : DK B16 26 (.aload 5) 2 := by decide +kernel
theorem d8_28 : DK B16 28 (.putfield 22) 3 := by decide +kernel
theorem d8_31 : DK B16 31 (.aload_n 0) 1 := by decide +kernel
theorem d8_32 : DK B16 32 (.aload 6) 2 := by decide +kernel
theorem d8_34 : DK B16 34 (.putfield 25) 3 := by decide +kernel
theorem d8_37 : DK B16 37 (.aload_n 0) 1 := by decide +kernel
theorem d8_38 : DK B16 38 (.aload 7) 2 := by decide +kernel
theorem d8_40 : DK B16 40 (.putfield 28) 3 := by decide +kernel
theorem d8_43 : DK B16 43 (.aload_n 0) 1 := by decide +kernel
theorem d8_44 : DK B16 44 (.lload 8) 2 := by decide +kernel
theorem d8_46 : DK B16 46 (.putfield 32) 3 := by decide +kernel
theorem d8_49 : DK B16 49 (.aload_n 0) 1 := by decide +kernel
theorem d8_50 : DK B16 50 (.lload 10) 2 := by decide +kernel
theorem d8_52 : DK B16 52 (.putfield 36) 3 := by decide +kernel
theorem d8_55 : DK B16 55 (.aload_n 0) 1 := by decide +kernel
theorem d8_56 : DK B16 56 (.aload 12) 2 := by decide +kernel
theorem d8_58 : DK B16 58 (.putfield 39) 3 := by decide +kernel
theorem d8_61 : DK B16 61 (.aload_n 0) 1 := by decide +kernel
theorem d8_62 : DK B16 62 (.iload 13) 2 := by decide +kernel
theorem d8_64 : DK B16 64 (.putfield 42) 3 := by decide +kernel
theorem d8_67 : DK B16 67 (.aload_n 0) 1 := by decide +kernel
theorem d8_68 : DK B16 68 (.lload 14) 2 := by decide +kernel
theorem d8_70 : DK B16 70 (.putfield 46) 3 := by decide +kernel
theorem d8_73 : DK B16 73 (.aload_n 0) 1 := by decide +kernel
theorem d8_74 : DK B16 74 (.aload 16) 2 := by decide +kernel
theorem d8_76 : DK B16 76 (.putfield 49) 3 := by decide +kernel
theorem d8_79 : DK B16 79 .return_ 1 := by decide +kernel
theorem pn2 : plainName "com/example/aurel/aurel/orders/Order" = true := by first | (simp [plainName, overriddenIn]; done) | decide +kernel
theorem rm_ord_r {l : Launch} {Z : State} {a0 : Array Value} (hw : HW a0 Z) (a1 : Addr) (x0 : Addr) (x1 : Addr) (x2 : Addr) (x3 : Addr) (x4 : Addr) (x5 : Addr) (x6 : Addr) (x7 : Int64) (x8 : Int64) (x9 : Addr) (x10 : Int32) (x11 : Int64) (x12 : Addr) (h0 : Heap) (n0 : Nat) (Z0 : n0 ≤ h0.size) (pr0 : Old Z n0 h0) (pr1 : Exa Z h0 a1 "com/example/aurel/aurel/orders/Order") (pr2 : Fld Z h0 a1 "com/example/aurel/aurel/orders/Order" "purchaseOrderId" "Ljava/lang/String;" .null) (pr3 : Fld Z h0 a1 "com/example/aurel/aurel/orders/Order" "purchaseToken" "Ljava/lang/String;" .null) (pr4 : Fld Z h0 a1 "com/example/aurel/aurel/orders/Order" "userId" "Ljava/lang/String;" .null) (pr5 : Fld Z h0 a1 "com/example/aurel/aurel/orders/Order" "applicationId" "Ljava/lang/String;" .null) (pr6 : Fld Z h0 a1 "com/example/aurel/aurel/orders/Order" "packageName" "Ljava/lang/String;" .null) (pr7 : Fld Z h0 a1 "com/example/aurel/aurel/orders/Order" "productId" "Ljava/lang/String;" .null) (pr8 : Fld Z h0 a1 "com/example/aurel/aurel/orders/Order" "productType" "Lcom/example/aurel/aurel/catalog/ProductType;" .null) (pr9 : Fld Z h0 a1 "com/example/aurel/aurel/orders/Order" "purchaseTime" "J" (.long (0 : Int64))) (pr10 : Fld Z h0 a1 "com/example/aurel/aurel/orders/Order" "price" "J" (.long (0 : Int64))) (pr11 : Fld Z h0 a1 "com/example/aurel/aurel/orders/Order" "currency" "Ljava/lang/String;" .null) (pr12 : Fld Z h0 a1 "com/example/aurel/aurel/orders/Order" "deliveryConfirmed" "Z" (.int 0)) (pr13 : Fld Z h0 a1 "com/example/aurel/aurel/orders/Order" "sequence" "J" (.long (0 : Int64))) (pr14 : Fld Z h0 a1 "com/example/aurel/aurel/orders/Order" "paidPeriod" "Lcom/example/aurel/aurel/orders/PaidPeriod;" .null) (pr15 : n0 ≤ a1) :
    Met l Z Y0 B16 17 none [] ({ frames := 2, cells := 0, slots := 0, locals := 24 } : Room) #[(.ref a1), (.ref x0), (.ref x1), (.ref x2), (.ref x3), (.ref x4), (.ref x5), (.ref x6), (.long x7), (.long x8), (.ref x9), (.int x10), (.long x11), (.ref x12)] h0 (fun vv h L => Fr n0 L ∧ vv = none ∧ Keep h0 h [a1] ∧ Exa Z h a1 "com/example/aurel/aurel/orders/Order" ∧ Fld Z h a1 "com/example/aurel/aurel/orders/Order" "purchaseOrderId" "Ljava/lang/String;" (.ref x0) ∧ Fld Z h a1 "com/example/aurel/aurel/orders/Order" "purchaseToken" "Ljava/lang/String;" (.ref x1) ∧ Fld Z h a1 "com/example/aurel/aurel/orders/Order" "userId" "Ljava/lang/String;" (.ref x2) ∧ Fld Z h a1 "com/example/aurel/aurel/orders/Order" "applicationId" "Ljava/lang/String;" (.ref x3) ∧ Fld Z h a1 "com/example/aurel/aurel/orders/Order" "packageName" "Ljava/lang/String;" (.ref x4) ∧ Fld Z h a1 "com/example/aurel/aurel/orders/Order" "productId" "Ljava/lang/String;" (.ref x5) ∧ Fld Z h a1 "com/example/aurel/aurel/orders/Order" "productType" "Lcom/example/aurel/aurel/catalog/ProductType;" (.ref x6) ∧ Fld Z h a1 "com/example/aurel/aurel/orders/Order" "purchaseTime" "J" (.long x7) ∧ Fld Z h a1 "com/example/aurel/aurel/orders/Order" "price" "J" (.long x8) ∧ Fld Z h a1 "com/example/aurel/aurel/orders/Order" "currency" "Ljava/lang/String;" (.ref x9) ∧ Fld Z h a1 "com/example/aurel/aurel/orders/Order" "deliveryConfirmed" "Z" (.int (nar .boolean x10)) ∧ Fld Z h a1 "com/example/aurel/aurel/orders/Order" "sequence" "J" (.long x11) ∧ Fld Z h a1 "com/example/aurel/aurel/orders/Order" "paidPeriod" "Lcom/example/aurel/aurel/orders/PaidPeriod;" (.ref x12)) := by
  refine Met.enter (f0 := fun m => mkF m 0 #[vr a1, vr x0, vr x1, vr x2, vr x3, vr x4, vr x5, vr x6, .val (.long x7), .second, .val (.long x8), .second, vr x9, vi x10, .val (.long x11), .second, vr x12] []) (plainFor_of_name pn2) (fun m => ef_rm_ord_r m a1 x0 x1 x2 x3 x4 x5 x6 x7 x8 x9 x10 x11 x12) ?_
  intro p e s m below meth c s₁ hx hby (hml : c.maxLocals = 17) (hown : s.vm.findClass "com/example/aurel/aurel/orders/Order" = some m.cls) hnm hret hlk hZ X0 e0
  have dk : Dk B16 c := fun h => hb hby h
  have W := @wd _ _ _ hw
  have N0 := Fr.nil n0
  refine gz X0 1 #[vr a1, vr x0, vr x1, vr x2, vr x3, vr x4, vr x5, vr x6, .val (.long x7), .second, .val (.long x8), .second, vr x9, vi x10, .val (.long x11), .second, vr x12] [(.ref a1)] (fun _ k => aN X0 hx (dk d8_0) rfl rfl k) ?_
  refine goI X0 hx hZ hown (W 43 rfl) (m4 hw) 0 0 0 (rm_Record_init hw a1 h0 n0 Z0 ) N0 e0 pd_4 hml (dk d8_1) ?_
  rintro _ T10 L10 X10 N10 ⟨rfl, hh10⟩
  refine gz X10 6 #[vr a1, vr x0, vr x1, vr x2, vr x3, vr x4, vr x5, vr x6, .val (.long x7), .second, .val (.long x8), .second, vr x9, vi x10, .val (.long x11), .second, vr x12] [(.ref x0), (.ref a1)] (fun _ k => aN X10 hx (dk d8_4) rfl rfl (aN X10 hx (dk d8_5) rfl rfl k)) ?_
  obtain ⟨T11, h11, X11, e11, W11, st11⟩ := putF X10 hx hZ hown (host := "") (Or.inl (W 49 rfl)) Via.refl hh10 pr2 pr1 (Or.inr ⟨(W 50 rfl), rfl, hnm⟩) (W 38 rfl) (ty := (.object "java/lang/String")) (by decide) rfl rfl (g := (mkF m 6 #[vr a1, vr x0, vr x1, vr x2, vr x3, vr x4, vr x5, vr x6, .val (.long x7), .second, .val (.long x8), .second, vr x9, vi x10, .val (.long x11), .second, vr x12] [(.ref x0), (.ref a1)])) rfl rfl (dk d8_6)
  have N11 := Fr.snoc X11 N10 pr15
  have O12 := pr0.wr W11 pr15
  have Z12 : n0 ≤ h11.size := Nat.le_trans Z0 (Keep.of_wr W11).1
  have F11 := pr2.same W11
  refine gz X11 11 #[vr a1, vr x0, vr x1, vr x2, vr x3, vr x4, vr x5, vr x6, .val (.long x7), .second, .val (.long x8), .second, vr x9, vi x10, .val (.long x11), .second, vr x12] [(.ref x1), (.ref a1)] (fun _ k => st11 _ (aN X11 hx (dk d8_9) rfl rfl (aN X11 hx (dk d8_10) rfl rfl k))) ?_
  have f13 := (pr3.other W11 (Or.inr (slot_ne (Or.inr (W 52 rfl)) (Or.inr (W 50 rfl)) (by decide) (t := (.object "java/lang/String")) (t' := (.object "java/lang/String")) (by decide) (by decide))))
  obtain ⟨T14, h14, X14, e14, W14, st14⟩ := putF X11 hx hZ hown (host := "") (Or.inl (W 51 rfl)) Via.refl e11 f13 (pr1.wr W11) (Or.inr ⟨(W 52 rfl), rfl, hnm⟩) (W 38 rfl) (ty := (.object "java/lang/String")) (by decide) rfl rfl (g := (mkF m 11 #[vr a1, vr x0, vr x1, vr x2, vr x3, vr x4, vr x5, vr x6, .val (.long x7), .second, .val (.long x8), .second, vr x9, vi x10, .val (.long x11), .second, vr x12] [(.ref x1), (.ref a1)])) rfl rfl (dk d8_11)
  have N14 := Fr.snoc X14 N11 pr15
  have O15 := O12.wr W14 pr15
  have Z15 : n0 ≤ h14.size := Nat.le_trans Z12 (Keep.of_wr W14).1
  have F14 := f13.same W14
  refine gz X14 16 #[vr a1, vr x0, vr x1, vr x2, vr x3, vr x4, vr x5, vr x6, .val (.long x7), .second, .val (.long x8), .second, vr x9, vi x10, .val (.long x11), .second, vr x12] [(.ref x2), (.ref a1)] (fun _ k => st14 _ (aN X14 hx (dk d8_14) rfl rfl (aN X14 hx (dk d8_15) rfl rfl k))) ?_
  have f16 := ((pr4.other W11 (Or.inr (slot_ne (Or.inr (W 54 rfl)) (Or.inr (W 50 rfl)) (by decide) (t := (.object "java/lang/String")) (t' := (.object "java/lang/String")) (by decide) (by decide)))).other W14 (Or.inr (slot_ne (Or.inr (W 54 rfl)) (Or.inr (W 52 rfl)) (by decide) (t := (.object "java/lang/String")) (t' := (.object "java/lang/String")) (by decide) (by decide))))
  obtain ⟨T17, h17, X17, e17, W17, st17⟩ := putF X14 hx hZ hown (host := "") (Or.inl (W 53 rfl)) Via.refl e14 f16 ((pr1.wr W11).wr W14) (Or.inr ⟨(W 54 rfl), rfl, hnm⟩) (W 38 rfl) (ty := (.object "java/lang/String")) (by decide) rfl rfl (g := (mkF m 16 #[vr a1, vr x0, vr x1, vr x2, vr x3, vr x4, vr x5, vr x6, .val (.long x7), .second, .val (.long x8), .second, vr x9, vi x10, .val (.long x11), .second, vr x12] [(.ref x2), (.ref a1)])) rfl rfl (dk d8_16)
  have N17 := Fr.snoc X17 N14 pr15
  have O18 := O15.wr W17 pr15
  have Z18 : n0 ≤ h17.size := Nat.le_trans Z15 (Keep.of_wr W17).1
  have F17 := f16.same W17
  refine gz X17 22 #[vr a1, vr x0, vr x1, vr x2, vr x3, vr x4, vr x5, vr x6, .val (.long x7), .second, .val (.long x8), .second, vr x9, vi x10, .val (.long x11), .second, vr x12] [(.ref x3), (.ref a1)] (fun _ k => st17 _ (aN X17 hx (dk d8_19) rfl rfl (aI X17 hx (dk d8_20) rfl rfl k))) ?_
  have f19 := (((pr5.other W11 (Or.inr (slot_ne (Or.inr (W 56 rfl)) (Or.inr (W 50 rfl)) (by decide) (t := (.object "java/lang/String")) (t' := (.object "java/lang/String")) (by decide) (by decide)))).other W14 (Or.inr (slot_ne (Or.inr (W 56 rfl)) (Or.inr (W 52 rfl)) (by decide) (t := (.object "java/lang/String")) (t' := (.object "java/lang/String")) (by decide) (by decide)))).other W17 (Or.inr (slot_ne (Or.inr (W 56 rfl)) (Or.inr (W 54 rfl)) (by decide) (t := (.object "java/lang/String")) (t' := (.object "java/lang/String")) (by decide) (by decide))))
  obtain ⟨T20, h20, X20, e20, W20, st20⟩ := putF X17 hx hZ hown (host := "") (Or.inl (W 55 rfl)) Via.refl e17 f19 (((pr1.wr W11).wr W14).wr W17) (Or.inr ⟨(W 56 rfl), rfl, hnm⟩) (W 38 rfl) (ty := (.object "java/lang/String")) (by decide) rfl rfl (g := (mkF m 22 #[vr a1, vr x0, vr x1, vr x2, vr x3, vr x4, vr x5, vr x6, .val (.long x7), .second, .val (.long x8), .second, vr x9, vi x10, .val (.long x11), .second, vr x12] [(.ref x3), (.ref a1)])) rfl rfl (dk d8_22)
  have N20 := Fr.snoc X20 N17 pr15
  have O21 := O18.wr W20 pr15
  have Z21 : n0 ≤ h20.size := Nat.le_trans Z18 (Keep.of_wr W20).1
  have F20 := f19.same W20
  refine gz X20 28 #[vr a1, vr x0, vr x1, vr x2, vr x3, vr x4, vr x5, vr x6, .val (.long x7), .second, .val (.long x8), .second, vr x9, vi x10, .val (.long x11), .second, vr x12] [(.ref x4), (.ref a1)] (fun _ k => st20 _ (aN X20 hx (dk d8_25) rfl rfl (aI X20 hx (dk d8_26) rfl rfl k))) ?_
  have f22 := ((((pr6.other W11 (Or.inr (slot_ne (Or.inr (W 58 rfl)) (Or.inr (W 50 rfl)) (by decide) (t := (.object "java/lang/String")) (t' := (.object "java/lang/String")) (by decide) (by decide)))).other W14 (Or.inr (slot_ne (Or.inr (W 58 rfl)) (Or.inr (W 52 rfl)) (by decide) (t := (.object "java/lang/String")) (t' := (.object "java/lang/String")) (by decide) (by decide)))).other W17 (Or.inr (slot_ne (Or.inr (W 58 rfl)) (Or.inr (W 54 rfl)) (by decide) (t := (.object "java/lang/String")) (t' := (.object "java/lang/String")) (by decide) (by decide)))).other W20 (Or.inr (slot_ne (Or.inr (W 58 rfl)) (Or.inr (W 56 rfl)) (by decide) (t := (.object "java/lang/String")) (t' := (.object "java/lang/String")) (by decide) (by decide))))
  have f23 := ((((pr1.wr W11).wr W14).wr W17).wr W20)
  obtain ⟨T24, h24, X24, e24, W24, st24⟩ := putF X20 hx hZ hown (host := "") (Or.inl (W 57 rfl)) Via.refl e20 f22 f23 (Or.inr ⟨(W 58 rfl), rfl, hnm⟩) (W 38 rfl) (ty := (.object "java/lang/String")) (by decide) rfl rfl (g := (mkF m 28 #[vr a1, vr x0, vr x1, vr x2, vr x3, vr x4, vr x5, vr x6, .val (.long x7), .second, .val (.long x8), .second, vr x9, vi x10, .val (.long x11), .second, vr x12] [(.ref x4), (.ref a1)])) rfl rfl (dk d8_28)
  have N24 := Fr.snoc X24 N20 pr15
  have O25 := O21.wr W24 pr15
  have Z25 : n0 ≤ h24.size := Nat.le_trans Z21 (Keep.of_wr W24).1
  have F24 := f22.same W24
  refine gz X24 34 #[vr a1, vr x0, vr x1, vr x2, vr x3, vr x4, vr x5, vr x6, .val (.long x7), .second, .val (.long x8), .second, vr x9, vi x10, .val (.long x11), .second, vr x12] [(.ref x5), (.ref a1)] (fun _ k => st24 _ (aN X24 hx (dk d8_31) rfl rfl (aI X24 hx (dk d8_32) rfl rfl k))) ?_
  have f26 := (((((pr7.other W11 (Or.inr (slot_ne (Or.inr (W 60 rfl)) (Or.inr (W 50 rfl)) (by decide) (t := (.object "java/lang/String")) (t' := (.object "java/lang/String")) (by decide) (by decide)))).other W14 (Or.inr (slot_ne (Or.inr (W 60 rfl)) (Or.inr (W 52 rfl)) (by decide) (t := (.object "java/lang/String")) (t' := (.object "java/lang/String")) (by decide) (by decide)))).other W17 (Or.inr (slot_ne (Or.inr (W 60 rfl)) (Or.inr (W 54 rfl)) (by decide) (t := (.object "java/lang/String")) (t' := (.object "java/lang/String")) (by decide) (by decide)))).other W20 (Or.inr (slot_ne (Or.inr (W 60 rfl)) (Or.inr (W 56 rfl)) (by decide) (t := (.object "java/lang/String")) (t' := (.object "java/lang/String")) (by decide) (by decide)))).other W24 (Or.inr (slot_ne (Or.inr (W 60 rfl)) (Or.inr (W 58 rfl)) (by decide) (t := (.object "java/lang/String")) (t' := (.object "java/lang/String")) (by decide) (by decide))))
  obtain ⟨T27, h27, X27, e27, W27, st27⟩ := putF X24 hx hZ hown (host := "") (Or.inl (W 59 rfl)) Via.refl e24 f26 (f23.wr W24) (Or.inr ⟨(W 60 rfl), rfl, hnm⟩) (W 38 rfl) (ty := (.object "java/lang/String")) (by decide) rfl rfl (g := (mkF m 34 #[vr a1, vr x0, vr x1, vr x2, vr x3, vr x4, vr x5, vr x6, .val (.long x7), .second, .val (.long x8), .second, vr x9, vi x10, .val (.long x11), .second, vr x12] [(.ref x5), (.ref a1)])) rfl rfl (dk d8_34)
  have N27 := Fr.snoc X27 N24 pr15
  have O28 := O25.wr W27 pr15
  have Z28 : n0 ≤ h27.size := Nat.le_trans Z25 (Keep.of_wr W27).1
  have F27 := f26.same W27
  refine gz X27 40 #[vr a1, vr x0, vr x1, vr x2, vr x3, vr x4, vr x5, vr x6, .val (.long x7), .second, .val (.long x8), .second, vr x9, vi x10, .val (.long x11), .second, vr x12] [(.ref x6), (.ref a1)] (fun _ k => st27 _ (aN X27 hx (dk d8_37) rfl rfl (aI X27 hx (dk d8_38) rfl rfl k))) ?_
  have f29 := ((((((pr8.other W11 (Or.inr (slot_ne (Or.inr (W 62 rfl)) (Or.inr (W 50 rfl)) (by decide) (t := (.object "com/example/aurel/aurel/catalog/ProductType")) (t' := (.object "java/lang/String")) (by decide) (by decide)))).other W14 (Or.inr (slot_ne (Or.inr (W 62 rfl)) (Or.inr (W 52 rfl)) (by decide) (t := (.object "com/example/aurel/aurel/catalog/ProductType")) (t' := (.object "java/lang/String")) (by decide) (by decide)))).other W17 (Or.inr (slot_ne (Or.inr (W 62 rfl)) (Or.inr (W 54 rfl)) (by decide) (t := (.object "com/example/aurel/aurel/catalog/ProductType")) (t' := (.object "java/lang/String")) (by decide) (by decide)))).other W20 (Or.inr (slot_ne (Or.inr (W 62 rfl)) (Or.inr (W 56 rfl)) (by decide) (t := (.object "com/example/aurel/aurel/catalog/ProductType")) (t' := (.object "java/lang/String")) (by decide) (by decide)))).other W24 (Or.inr (slot_ne (Or.inr (W 62 rfl)) (Or.inr (W 58 rfl)) (by decide) (t := (.object "com/example/aurel/aurel/catalog/ProductType")) (t' := (.object "java/lang/String")) (by decide) (by decide)))).other W27 (Or.inr (slot_ne (Or.inr (W 62 rfl)) (Or.inr (W 60 rfl)) (by decide) (t := (.object "com/example/aurel/aurel/catalog/ProductType")) (t' := (.object "java/lang/String")) (by decide) (by decide))))
  obtain ⟨T30, h30, X30, e30, W30, st30⟩ := putF X27 hx hZ hown (host := "") (Or.inl (W 61 rfl)) Via.refl e27 f29 ((f23.wr W24).wr W27) (Or.inr ⟨(W 62 rfl), rfl, hnm⟩) (W 38 rfl) (ty := (.object "com/example/aurel/aurel/catalog/ProductType")) (by decide) rfl rfl (g := (mkF m 40 #[vr a1, vr x0, vr x1, vr x2, vr x3, vr x4, vr x5, vr x6, .val (.long x7), .second, .val (.long x8), .second, vr x9, vi x10, .val (.long x11), .second, vr x12] [(.ref x6), (.ref a1)])) rfl rfl (dk d8_40)
  have N30 := Fr.snoc X30 N27 pr15
  have O31 := O28.wr W30 pr15
  have Z31 : n0 ≤ h30.size := Nat.le_trans Z28 (Keep.of_wr W30).1
  have F30 := f29.same W30
  refine gz X30 46 #[vr a1, vr x0, vr x1, vr x2, vr x3, vr x4, vr x5, vr x6, .val (.long x7), .second, .val (.long x8), .second, vr x9, vi x10, .val (.long x11), .second, vr x12] [(.long x7), (.ref a1)] (fun _ k => st30 _ (aN X30 hx (dk d8_43) rfl rfl (XS.lload X30.here hx rfl (dk d8_44) rfl k))) ?_
  have f32 := (((((((pr9.other W11 (Or.inr (slot_ne (Or.inr (W 64 rfl)) (Or.inr (W 50 rfl)) (by decide) (t := .long) (t' := (.object "java/lang/String")) (by decide) (by decide)))).other W14 (Or.inr (slot_ne (Or.inr (W 64 rfl)) (Or.inr (W 52 rfl)) (by decide) (t := .long) (t' := (.object "java/lang/String")) (by decide) (by decide)))).other W17 (Or.inr (slot_ne (Or.inr (W 64 rfl)) (Or.inr (W 54 rfl)) (by decide) (t := .long) (t' := (.object "java/lang/String")) (by decide) (by decide)))).other W20 (Or.inr (slot_ne (Or.inr (W 64 rfl)) (Or.inr (W 56 rfl)) (by decide) (t := .long) (t' := (.object "java/lang/String")) (by decide) (by decide)))).other W24 (Or.inr (slot_ne (Or.inr (W 64 rfl)) (Or.inr (W 58 rfl)) (by decide) (t := .long) (t' := (.object "java/lang/String")) (by decide) (by decide)))).other W27 (Or.inr (slot_ne (Or.inr (W 64 rfl)) (Or.inr (W 60 rfl)) (by decide) (t := .long) (t' := (.object "java/lang/String")) (by decide) (by decide)))).other W30 (Or.inr (slot_ne (Or.inr (W 64 rfl)) (Or.inr (W 62 rfl)) (by decide) (t := .long) (t' := (.object "com/example/aurel/aurel/catalog/ProductType")) (by decide) (by decide))))
  obtain ⟨T33, h33, X33, e33, W33, st33⟩ := putF X30 hx hZ hown (host := "") (Or.inl (W 63 rfl)) Via.refl e30 f32 (((f23.wr W24).wr W27).wr W30) (Or.inr ⟨(W 64 rfl), rfl, hnm⟩) (W 38 rfl) (ty := .long) (by decide) rfl rfl (g := (mkF m 46 #[vr a1, vr x0, vr x1, vr x2, vr x3, vr x4, vr x5, vr x6, .val (.long x7), .second, .val (.long x8), .second, vr x9, vi x10, .val (.long x11), .second, vr x12] [(.long x7), (.ref a1)])) rfl rfl (dk d8_46)
  have N33 := Fr.snoc X33 N30 pr15
  have O34 := O31.wr W33 pr15
  have Z34 : n0 ≤ h33.size := Nat.le_trans Z31 (Keep.of_wr W33).1
  have F33 := f32.same W33
  refine gz X33 52 #[vr a1, vr x0, vr x1, vr x2, vr x3, vr x4, vr x5, vr x6, .val (.long x7), .second, .val (.long x8), .second, vr x9, vi x10, .val (.long x11), .second, vr x12] [(.long x8), (.ref a1)] (fun _ k => st33 _ (aN X33 hx (dk d8_49) rfl rfl (XS.lload X33.here hx rfl (dk d8_50) rfl k))) ?_
  have f35 := ((((((((pr10.other W11 (Or.inr (slot_ne (Or.inr (W 66 rfl)) (Or.inr (W 50 rfl)) (by decide) (t := .long) (t' := (.object "java/lang/String")) (by decide) (by decide)))).other W14 (Or.inr (slot_ne (Or.inr (W 66 rfl)) (Or.inr (W 52 rfl)) (by decide) (t := .long) (t' := (.object "java/lang/String")) (by decide) (by decide)))).other W17 (Or.inr (slot_ne (Or.inr (W 66 rfl)) (Or.inr (W 54 rfl)) (by decide) (t := .long) (t' := (.object "java/lang/String")) (by decide) (by decide)))).other W20 (Or.inr (slot_ne (Or.inr (W 66 rfl)) (Or.inr (W 56 rfl)) (by decide) (t := .long) (t' := (.object "java/lang/String")) (by decide) (by decide)))).other W24 (Or.inr (slot_ne (Or.inr (W 66 rfl)) (Or.inr (W 58 rfl)) (by decide) (t := .long) (t' := (.object "java/lang/String")) (by decide) (by decide)))).other W27 (Or.inr (slot_ne (Or.inr (W 66 rfl)) (Or.inr (W 60 rfl)) (by decide) (t := .long) (t' := (.object "java/lang/String")) (by decide) (by decide)))).other W30 (Or.inr (slot_ne (Or.inr (W 66 rfl)) (Or.inr (W 62 rfl)) (by decide) (t := .long) (t' := (.object "com/example/aurel/aurel/catalog/ProductType")) (by decide) (by decide)))).other W33 (Or.inr (slot_ne (Or.inr (W 66 rfl)) (Or.inr (W 64 rfl)) (by decide) (t := .long) (t' := .long) (by decide) (by decide))))
  have f36 := ((((f23.wr W24).wr W27).wr W30).wr W33)
  obtain ⟨T37, h37, X37, e37, W37, st37⟩ := putF X33 hx hZ hown (host := "") (Or.inl (W 65 rfl)) Via.refl e33 f35 f36 (Or.inr ⟨(W 66 rfl), rfl, hnm⟩) (W 38 rfl) (ty := .long) (by decide) rfl rfl (g := (mkF m 52 #[vr a1, vr x0, vr x1, vr x2, vr x3, vr x4, vr x5, vr x6, .val (.long x7), .second, .val (.long x8), .second, vr x9, vi x10, .val (.long x11), .second, vr x12] [(.long x8), (.ref a1)])) rfl rfl (dk d8_52)
  have N37 := Fr.snoc X37 N33 pr15
  have O38 := O34.wr W37 pr15
  have Z38 : n0 ≤ h37.size := Nat.le_trans Z34 (Keep.of_wr W37).1
  have F37 := f35.same W37
  refine gz X37 58 #[vr a1, vr x0, vr x1, vr x2, vr x3, vr x4, vr x5, vr x6, .val (.long x7), .second, .val (.long x8), .second, vr x9, vi x10, .val (.long x11), .second, vr x12] [(.ref x9), (.ref a1)] (fun _ k => st37 _ (aN X37 hx (dk d8_55) rfl rfl (aI X37 hx (dk d8_56) rfl rfl k))) ?_
  have f39 := (((((((((pr11.other W11 (Or.inr (slot_ne (Or.inr (W 68 rfl)) (Or.inr (W 50 rfl)) (by decide) (t := (.object "java/lang/String")) (t' := (.object "java/lang/String")) (by decide) (by decide)))).other W14 (Or.inr (slot_ne (Or.inr (W 68 rfl)) (Or.inr (W 52 rfl)) (by decide) (t := (.object "java/lang/String")) (t' := (.object "java/lang/String")) (by decide) (by decide)))).other W17 (Or.inr (slot_ne (Or.inr (W 68 rfl)) (Or.inr (W 54 rfl)) (by decide) (t := (.object "java/lang/String")) (t' := (.object "java/lang/String")) (by decide) (by decide)))).other W20 (Or.inr (slot_ne (Or.inr (W 68 rfl)) (Or.inr (W 56 rfl)) (by decide) (t := (.object "java/lang/String")) (t' := (.object "java/lang/String")) (by decide) (by decide)))).other W24 (Or.inr (slot_ne (Or.inr (W 68 rfl)) (Or.inr (W 58 rfl)) (by decide) (t := (.object "java/lang/String")) (t' := (.object "java/lang/String")) (by decide) (by decide)))).other W27 (Or.inr (slot_ne (Or.inr (W 68 rfl)) (Or.inr (W 60 rfl)) (by decide) (t := (.object "java/lang/String")) (t' := (.object "java/lang/String")) (by decide) (by decide)))).other W30 (Or.inr (slot_ne (Or.inr (W 68 rfl)) (Or.inr (W 62 rfl)) (by decide) (t := (.object "java/lang/String")) (t' := (.object "com/example/aurel/aurel/catalog/ProductType")) (by decide) (by decide)))).other W33 (Or.inr (slot_ne (Or.inr (W 68 rfl)) (Or.inr (W 64 rfl)) (by decide) (t := (.object "java/lang/String")) (t' := .long) (by decide) (by decide)))).other W37 (Or.inr (slot_ne (Or.inr (W 68 rfl)) (Or.inr (W 66 rfl)) (by decide) (t := (.object "java/lang/String")) (t' := .long) (by decide) (by decide))))
  obtain ⟨T40, h40, X40, e40, W40, st40⟩ := putF X37 hx hZ hown (host := "") (Or.inl (W 67 rfl)) Via.refl e37 f39 (f36.wr W37) (Or.inr ⟨(W 68 rfl), rfl, hnm⟩) (W 38 rfl) (ty := (.object "java/lang/String")) (by decide) rfl rfl (g := (mkF m 58 #[vr a1, vr x0, vr x1, vr x2, vr x3, vr x4, vr x5, vr x6, .val (.long x7), .second, .val (.long x8), .second, vr x9, vi x10, .val (.long x11), .second, vr x12] [(.ref x9), (.ref a1)])) rfl rfl (dk d8_58)
  have N40 := Fr.snoc X40 N37 pr15
  have O41 := O38.wr W40 pr15
  have Z41 : n0 ≤ h40.size := Nat.le_trans Z38 (Keep.of_wr W40).1
  have F40 := f39.same W40
  refine gz X40 64 #[vr a1, vr x0, vr x1, vr x2, vr x3, vr x4, vr x5, vr x6, .val (.long x7), .second, .val (.long x8), .second, vr x9, vi x10, .val (.long x11), .second, vr x12] [(.int x10), (.ref a1)] (fun _ k => st40 _ (aN X40 hx (dk d8_61) rfl rfl (lI X40 hx (dk d8_62) rfl k))) ?_
  have f42 := ((((((((((pr12.other W11 (Or.inr (slot_ne (Or.inr (W 70 rfl)) (Or.inr (W 50 rfl)) (by decide) (t := .boolean) (t' := (.object "java/lang/String")) (by decide) (by decide)))).other W14 (Or.inr (slot_ne (Or.inr (W 70 rfl)) (Or.inr (W 52 rfl)) (by decide) (t := .boolean) (t' := (.object "java/lang/String")) (by decide) (by decide)))).other W17 (Or.inr (slot_ne (Or.inr (W 70 rfl)) (Or.inr (W 54 rfl)) (by decide) (t := .boolean) (t' := (.object "java/lang/String")) (by decide) (by decide)))).other W20 (Or.inr (slot_ne (Or.inr (W 70 rfl)) (Or.inr (W 56 rfl)) (by decide) (t := .boolean) (t' := (.object "java/lang/String")) (by decide) (by decide)))).other W24 (Or.inr (slot_ne (Or.inr (W 70 rfl)) (Or.inr (W 58 rfl)) (by decide) (t := .boolean) (t' := (.object "java/lang/String")) (by decide) (by decide)))).other W27 (Or.inr (slot_ne (Or.inr (W 70 rfl)) (Or.inr (W 60 rfl)) (by decide) (t := .boolean) (t' := (.object "java/lang/String")) (by decide) (by decide)))).other W30 (Or.inr (slot_ne (Or.inr (W 70 rfl)) (Or.inr (W 62 rfl)) (by decide) (t := .boolean) (t' := (.object "com/example/aurel/aurel/catalog/ProductType")) (by decide) (by decide)))).other W33 (Or.inr (slot_ne (Or.inr (W 70 rfl)) (Or.inr (W 64 rfl)) (by decide) (t := .boolean) (t' := .long) (by decide) (by decide)))).other W37 (Or.inr (slot_ne (Or.inr (W 70 rfl)) (Or.inr (W 66 rfl)) (by decide) (t := .boolean) (t' := .long) (by decide) (by decide)))).other W40 (Or.inr (slot_ne (Or.inr (W 70 rfl)) (Or.inr (W 68 rfl)) (by decide) (t := .boolean) (t' := (.object "java/lang/String")) (by decide) (by decide))))
  obtain ⟨T43, h43, X43, e43, W43, st43⟩ := putFN X40 hx hZ hown (W 69 rfl) Via.refl e40 f42 ((f36.wr W37).wr W40) (Or.inr ⟨(W 70 rfl), rfl, hnm⟩) (W 38 rfl) (ty := .boolean) (v' := (.int (nar .boolean x10))) (by decide) rfl (fits_nar_bool _) (g := (mkF m 64 #[vr a1, vr x0, vr x1, vr x2, vr x3, vr x4, vr x5, vr x6, .val (.long x7), .second, .val (.long x8), .second, vr x9, vi x10, .val (.long x11), .second, vr x12] [(.int x10), (.ref a1)])) rfl rfl (dk d8_64)
  have N43 := Fr.snoc X43 N40 pr15
  have O44 := O41.wr W43 pr15
  have Z44 : n0 ≤ h43.size := Nat.le_trans Z41 (Keep.of_wr W43).1
  have F43 := f42.same W43
  refine gz X43 70 #[vr a1, vr x0, vr x1, vr x2, vr x3, vr x4, vr x5, vr x6, .val (.long x7), .second, .val (.long x8), .second, vr x9, vi x10, .val (.long x11), .second, vr x12] [(.long x11), (.ref a1)] (fun _ k => st43 _ (aN X43 hx (dk d8_67) rfl rfl (XS.lload X43.here hx rfl (dk d8_68) rfl k))) ?_
  have f45 := (((((((((((pr13.other W11 (Or.inr (slot_ne (Or.inr (W 72 rfl)) (Or.inr (W 50 rfl)) (by decide) (t := .long) (t' := (.object "java/lang/String")) (by decide) (by decide)))).other W14 (Or.inr (slot_ne (Or.inr (W 72 rfl)) (Or.inr (W 52 rfl)) (by decide) (t := .long) (t' := (.object "java/lang/String")) (by decide) (by decide)))).other W17 (Or.inr (slot_ne (Or.inr (W 72 rfl)) (Or.inr (W 54 rfl)) (by decide) (t := .long) (t' := (.object "java/lang/String")) (by decide) (by decide)))).other W20 (Or.inr (slot_ne (Or.inr (W 72 rfl)) (Or.inr (W 56 rfl)) (by decide) (t := .long) (t' := (.object "java/lang/String")) (by decide) (by decide)))).other W24 (Or.inr (slot_ne (Or.inr (W 72 rfl)) (Or.inr (W 58 rfl)) (by decide) (t := .long) (t' := (.object "java/lang/String")) (by decide) (by decide)))).other W27 (Or.inr (slot_ne (Or.inr (W 72 rfl)) (Or.inr (W 60 rfl)) (by decide) (t := .long) (t' := (.object "java/lang/String")) (by decide) (by decide)))).other W30 (Or.inr (slot_ne (Or.inr (W 72 rfl)) (Or.inr (W 62 rfl)) (by decide) (t := .long) (t' := (.object "com/example/aurel/aurel/catalog/ProductType")) (by decide) (by decide)))).other W33 (Or.inr (slot_ne (Or.inr (W 72 rfl)) (Or.inr (W 64 rfl)) (by decide) (t := .long) (t' := .long) (by decide) (by decide)))).other W37 (Or.inr (slot_ne (Or.inr (W 72 rfl)) (Or.inr (W 66 rfl)) (by decide) (t := .long) (t' := .long) (by decide) (by decide)))).other W40 (Or.inr (slot_ne (Or.inr (W 72 rfl)) (Or.inr (W 68 rfl)) (by decide) (t := .long) (t' := (.object "java/lang/String")) (by decide) (by decide)))).other W43 (Or.inr (slot_ne (Or.inr (W 72 rfl)) (Or.inr (W 70 rfl)) (by decide) (t := .long) (t' := .boolean) (by decide) (by decide))))
  obtain ⟨T46, h46, X46, e46, W46, st46⟩ := putF X43 hx hZ hown (host := "") (Or.inl (W 71 rfl)) Via.refl e43 f45 (((f36.wr W37).wr W40).wr W43) (Or.inr ⟨(W 72 rfl), rfl, hnm⟩) (W 38 rfl) (ty := .long) (by decide) rfl rfl (g := (mkF m 70 #[vr a1, vr x0, vr x1, vr x2, vr x3, vr x4, vr x5, vr x6, .val (.long x7), .second, .val (.long x8), .second, vr x9, vi x10, .val (.long x11), .second, vr x12] [(.long x11), (.ref a1)])) rfl rfl (dk d8_70)
  have N46 := Fr.snoc X46 N43 pr15
  have O47 := O44.wr W46 pr15
  have Z47 : n0 ≤ h46.size := Nat.le_trans Z44 (Keep.of_wr W46).1
  have F46 := f45.same W46
  refine gz X46 76 #[vr a1, vr x0, vr x1, vr x2, vr x3, vr x4, vr x5, vr x6, .val (.long x7), .second, .val (.long x8), .second, vr x9, vi x10, .val (.long x11), .second, vr x12] [(.ref x12), (.ref a1)] (fun _ k => st46 _ (aN X46 hx (dk d8_73) rfl rfl (aI X46 hx (dk d8_74) rfl rfl k))) ?_
  have f48 := ((((((((((((pr14.other W11 (Or.inr (slot_ne (Or.inr (W 74 rfl)) (Or.inr (W 50 rfl)) (by decide) (t := (.object "com/example/aurel/aurel/orders/PaidPeriod")) (t' := (.object "java/lang/String")) (by decide) (by decide)))).other W14 (Or.inr (slot_ne (Or.inr (W 74 rfl)) (Or.inr (W 52 rfl)) (by decide) (t := (.object "com/example/aurel/aurel/orders/PaidPeriod")) (t' := (.object "java/lang/String")) (by decide) (by decide)))).other W17 (Or.inr (slot_ne (Or.inr (W 74 rfl)) (Or.inr (W 54 rfl)) (by decide) (t := (.object "com/example/aurel/aurel/orders/PaidPeriod")) (t' := (.object "java/lang/String")) (by decide) (by decide)))).other W20 (Or.inr (slot_ne (Or.inr (W 74 rfl)) (Or.inr (W 56 rfl)) (by decide) (t := (.object "com/example/aurel/aurel/orders/PaidPeriod")) (t' := (.object "java/lang/String")) (by decide) (by decide)))).other W24 (Or.inr (slot_ne (Or.inr (W 74 rfl)) (Or.inr (W 58 rfl)) (by decide) (t := (.object "com/example/aurel/aurel/orders/PaidPeriod")) (t' := (.object "java/lang/String")) (by decide) (by decide)))).other W27 (Or.inr (slot_ne (Or.inr (W 74 rfl)) (Or.inr (W 60 rfl)) (by decide) (t := (.object "com/example/aurel/aurel/orders/PaidPeriod")) (t' := (.object "java/lang/String")) (by decide) (by decide)))).other W30 (Or.inr (slot_ne (Or.inr (W 74 rfl)) (Or.inr (W 62 rfl)) (by decide) (t := (.object "com/example/aurel/aurel/orders/PaidPeriod")) (t' := (.object "com/example/aurel/aurel/catalog/ProductType")) (by decide) (by decide)))).other W33 (Or.inr (slot_ne (Or.inr (W 74 rfl)) (Or.inr (W 64 rfl)) (by decide) (t := (.object "com/example/aurel/aurel/orders/PaidPeriod")) (t' := .long) (by decide) (by decide)))).other W37 (Or.inr (slot_ne (Or.inr (W 74 rfl)) (Or.inr (W 66 rfl)) (by decide) (t := (.object "com/example/aurel/aurel/orders/PaidPeriod")) (t' := .long) (by decide) (by decide)))).other W40 (Or.inr (slot_ne (Or.inr (W 74 rfl)) (Or.inr (W 68 rfl)) (by decide) (t := (.object "com/example/aurel/aurel/orders/PaidPeriod")) (t' := (.object "java/lang/String")) (by decide) (by decide)))).other W43 (Or.inr (slot_ne (Or.inr (W 74 rfl)) (Or.inr (W 70 rfl)) (by decide) (t := (.object "com/example/aurel/aurel/orders/PaidPeriod")) (t' := .boolean) (by decide) (by decide)))).other W46 (Or.inr (slot_ne (Or.inr (W 74 rfl)) (Or.inr (W 72 rfl)) (by decide) (t := (.object "com/example/aurel/aurel/orders/PaidPeriod")) (t' := .long) (by decide) (by decide))))
  have f49 := ((((f36.wr W37).wr W40).wr W43).wr W46)
  obtain ⟨T50, h50, X50, e50, W50, st50⟩ := putF X46 hx hZ hown (host := "") (Or.inl (W 73 rfl)) Via.refl e46 f48 f49 (Or.inr ⟨(W 74 rfl), rfl, hnm⟩) (W 38 rfl) (ty := (.object "com/example/aurel/aurel/orders/PaidPeriod")) (by decide) rfl rfl (g := (mkF m 76 #[vr a1, vr x0, vr x1, vr x2, vr x3, vr x4, vr x5, vr x6, .val (.long x7), .second, .val (.long x8), .second, vr x9, vi x10, .val (.long x11), .second, vr x12] [(.ref x12), (.ref a1)])) rfl rfl (dk d8_76)
  have N50 := Fr.snoc X50 N46 pr15
  have O51 := O47.wr W50 pr15
  have Z51 : n0 ≤ h50.size := Nat.le_trans Z47 (Keep.of_wr W50).1
  have F50 := f48.same W50
  refine gz X50 79 #[vr a1, vr x0, vr x1, vr x2, vr x3, vr x4, vr x5, vr x6, .val (.long x7), .second, .val (.long x8), .second, vr x9, vi x10, .val (.long x11), .second, vr x12] [] (fun _ k => st50 _ k) ?_
  refine Go.retV X50 hx hlk hret (dk d8_79) (by decide) (by decide) ?_
  rw [e50]
  exact ⟨N50, rfl, ((((((((((((((Keep.refl h0 [a1]).wr W11 (Or.inl (List.mem_of_getElem? (i := 0) rfl))).wr W14 (Or.inl (List.mem_of_getElem? (i := 0) rfl))).wr W17 (Or.inl (List.mem_of_getElem? (i := 0) rfl))).wr W20 (Or.inl (List.mem_of_getElem? (i := 0) rfl))).wr W24 (Or.inl (List.mem_of_getElem? (i := 0) rfl))).wr W27 (Or.inl (List.mem_of_getElem? (i := 0) rfl))).wr W30 (Or.inl (List.mem_of_getElem? (i := 0) rfl))).wr W33 (Or.inl (List.mem_of_getElem? (i := 0) rfl))).wr W37 (Or.inl (List.mem_of_getElem? (i := 0) rfl))).wr W40 (Or.inl (List.mem_of_getElem? (i := 0) rfl))).wr W43 (Or.inl (List.mem_of_getElem? (i := 0) rfl))).wr W46 (Or.inl (List.mem_of_getElem? (i := 0) rfl))).wr W50 (Or.inl (List.mem_of_getElem? (i := 0) rfl))), (f49.wr W50), ((((((((((((F11.other W14 (Or.inr (slot_ne (Or.inr (W 50 rfl)) (Or.inr (W 52 rfl)) (by decide) (t := (.object "java/lang/String")) (t' := (.object "java/lang/String")) (by decide) (by decide)))).other W17 (Or.inr (slot_ne (Or.inr (W 50 rfl)) (Or.inr (W 54 rfl)) (by decide) (t := (.object "java/lang/String")) (t' := (.object "java/lang/String")) (by decide) (by decide)))).other W20 (Or.inr (slot_ne (Or.inr (W 50 rfl)) (Or.inr (W 56 rfl)) (by decide) (t := (.object "java/lang/String")) (t' := (.object "java/lang/String")) (by decide) (by decide)))).other W24 (Or.inr (slot_ne (Or.inr (W 50 rfl)) (Or.inr (W 58 rfl)) (by decide) (t := (.object "java/lang/String")) (t' := (.object "java/lang/String")) (by decide) (by decide)))).other W27 (Or.inr (slot_ne (Or.inr (W 50 rfl)) (Or.inr (W 60 rfl)) (by decide) (t := (.object "java/lang/String")) (t' := (.object "java/lang/String")) (by decide) (by decide)))).other W30 (Or.inr (slot_ne (Or.inr (W 50 rfl)) (Or.inr (W 62 rfl)) (by decide) (t := (.object "java/lang/String")) (t' := (.object "com/example/aurel/aurel/catalog/ProductType")) (by decide) (by decide)))).other W33 (Or.inr (slot_ne (Or.inr (W 50 rfl)) (Or.inr (W 64 rfl)) (by decide) (t := (.object "java/lang/String")) (t' := .long) (by decide) (by decide)))).other W37 (Or.inr (slot_ne (Or.inr (W 50 rfl)) (Or.inr (W 66 rfl)) (by decide) (t := (.object "java/lang/String")) (t' := .long) (by decide) (by decide)))).other W40 (Or.inr (slot_ne (Or.inr (W 50 rfl)) (Or.inr (W 68 rfl)) (by decide) (t := (.object "java/lang/String")) (t' := (.object "java/lang/String")) (by decide) (by decide)))).other W43 (Or.inr (slot_ne (Or.inr (W 50 rfl)) (Or.inr (W 70 rfl)) (by decide) (t := (.object "java/lang/String")) (t' := .boolean) (by decide) (by decide)))).other W46 (Or.inr (slot_ne (Or.inr (W 50 rfl)) (Or.inr (W 72 rfl)) (by decide) (t := (.object "java/lang/String")) (t' := .long) (by decide) (by decide)))).other W50 (Or.inr (slot_ne (Or.inr (W 50 rfl)) (Or.inr (W 74 rfl)) (by decide) (t := (.object "java/lang/String")) (t' := (.object "com/example/aurel/aurel/orders/PaidPeriod")) (by decide) (by decide)))), (((((((((((F14.other W17 (Or.inr (slot_ne (Or.inr (W 52 rfl)) (Or.inr (W 54 rfl)) (by decide) (t := (.object "java/lang/String")) (t' := (.object "java/lang/String")) (by decide) (by decide)))).other W20 (Or.inr (slot_ne (Or.inr (W 52 rfl)) (Or.inr (W 56 rfl)) (by decide) (t := (.object "java/lang/String")) (t' := (.object "java/lang/String")) (by decide) (by decide)))).other W24 (Or.inr (slot_ne (Or.inr (W 52 rfl)) (Or.inr (W 58 rfl)) (by decide) (t := (.object "java/lang/String")) (t' := (.object "java/lang/String")) (by decide) (by decide)))).other W27 (Or.inr (slot_ne (Or.inr (W 52 rfl)) (Or.inr (W 60 rfl)) (by decide) (t := (.object "java/lang/String")) (t' := (.object "java/lang/String")) (by decide) (by decide)))).other W30 (Or.inr (slot_ne (Or.inr (W 52 rfl)) (Or.inr (W 62 rfl)) (by decide) (t := (.object "java/lang/String")) (t' := (.object "com/example/aurel/aurel/catalog/ProductType")) (by decide) (by decide)))).other W33 (Or.inr (slot_ne (Or.inr (W 52 rfl)) (Or.inr (W 64 rfl)) (by decide) (t := (.object "java/lang/String")) (t' := .long) (by decide) (by decide)))).other W37 (Or.inr (slot_ne (Or.inr (W 52 rfl)) (Or.inr (W 66 rfl)) (by decide) (t := (.object "java/lang/String")) (t' := .long) (by decide) (by decide)))).other W40 (Or.inr (slot_ne (Or.inr (W 52 rfl)) (Or.inr (W 68 rfl)) (by decide) (t := (.object "java/lang/String")) (t' := (.object "java/lang/String")) (by decide) (by decide)))).other W43 (Or.inr (slot_ne (Or.inr (W 52 rfl)) (Or.inr (W 70 rfl)) (by decide) (t := (.object "java/lang/String")) (t' := .boolean) (by decide) (by decide)))).other W46 (Or.inr (slot_ne (Or.inr (W 52 rfl)) (Or.inr (W 72 rfl)) (by decide) (t := (.object "java/lang/String")) (t' := .long) (by decide) (by decide)))).other W50 (Or.inr (slot_ne (Or.inr (W 52 rfl)) (Or.inr (W 74 rfl)) (by decide) (t := (.object "java/lang/String")) (t' := (.object "com/example/aurel/aurel/orders/PaidPeriod")) (by decide) (by decide)))), ((((((((((F17.other W20 (Or.inr (slot_ne (Or.inr (W 54 rfl)) (Or.inr (W 56 rfl)) (by decide) (t := (.object "java/lang/String")) (t' := (.object "java/lang/String")) (by decide) (by decide)))).other W24 (Or.inr (slot_ne (Or.inr (W 54 rfl)) (Or.inr (W 58 rfl)) (by decide) (t := (.object "java/lang/String")) (t' := (.object "java/lang/String")) (by decide) (by decide)))).other W27 (Or.inr (slot_ne (Or.inr (W 54 rfl)) (Or.inr (W 60 rfl)) (by decide) (t := (.object "java/lang/String")) (t' := (.object "java/lang/String")) (by decide) (by decide)))).other W30 (Or.inr (slot_ne (Or.inr (W 54 rfl)) (Or.inr (W 62 rfl)) (by decide) (t := (.object "java/lang/String")) (t' := (.object "com/example/aurel/aurel/catalog/ProductType")) (by decide) (by decide)))).other W33 (Or.inr (slot_ne (Or.inr (W 54 rfl)) (Or.inr (W 64 rfl)) (by decide) (t := (.object "java/lang/String")) (t' := .long) (by decide) (by decide)))).other W37 (Or.inr (slot_ne (Or.inr (W 54 rfl)) (Or.inr (W 66 rfl)) (by decide) (t := (.object "java/lang/String")) (t' := .long) (by decide) (by decide)))).other W40 (Or.inr (slot_ne (Or.inr (W 54 rfl)) (Or.inr (W 68 rfl)) (by decide) (t := (.object "java/lang/String")) (t' := (.object "java/lang/String")) (by decide) (by decide)))).other W43 (Or.inr (slot_ne (Or.inr (W 54 rfl)) (Or.inr (W 70 rfl)) (by decide) (t := (.object "java/lang/String")) (t' := .boolean) (by decide) (by decide)))).other W46 (Or.inr (slot_ne (Or.inr (W 54 rfl)) (Or.inr (W 72 rfl)) (by decide) (t := (.object "java/lang/String")) (t' := .long) (by decide) (by decide)))).other W50 (Or.inr (slot_ne (Or.inr (W 54 rfl)) (Or.inr (W 74 rfl)) (by decide) (t := (.object "java/lang/String")) (t' := (.object "com/example/aurel/aurel/orders/PaidPeriod")) (by decide) (by decide)))), (((((((((F20.other W24 (Or.inr (slot_ne (Or.inr (W 56 rfl)) (Or.inr (W 58 rfl)) (by decide) (t := (.object "java/lang/String")) (t' := (.object "java/lang/String")) (by decide) (by decide)))).other W27 (Or.inr (slot_ne (Or.inr (W 56 rfl)) (Or.inr (W 60 rfl)) (by decide) (t := (.object "java/lang/String")) (t' := (.object "java/lang/String")) (by decide) (by decide)))).other W30 (Or.inr (slot_ne (Or.inr (W 56 rfl)) (Or.inr (W 62 rfl)) (by decide) (t := (.object "java/lang/String")) (t' := (.object "com/example/aurel/aurel/catalog/ProductType")) (by decide) (by decide)))).other W33 (Or.inr (slot_ne (Or.inr (W 56 rfl)) (Or.inr (W 64 rfl)) (by decide) (t := (.object "java/lang/String")) (t' := .long) (by decide) (by decide)))).other W37 (Or.inr (slot_ne (Or.inr (W 56 rfl)) (Or.inr (W 66 rfl)) (by decide) (t := (.object "java/lang/String")) (t' := .long) (by decide) (by decide)))).other W40 (Or.inr (slot_ne (Or.inr (W 56 rfl)) (Or.inr (W 68 rfl)) (by decide) (t := (.object "java/lang/String")) (t' := (.object "java/lang/String")) (by decide) (by decide)))).other W43 (Or.inr (slot_ne (Or.inr (W 56 rfl)) (Or.inr (W 70 rfl)) (by decide) (t := (.object "java/lang/String")) (t' := .boolean) (by decide) (by decide)))).other W46 (Or.inr (slot_ne (Or.inr (W 56 rfl)) (Or.inr (W 72 rfl)) (by decide) (t := (.object "java/lang/String")) (t' := .long) (by decide) (by decide)))).other W50 (Or.inr (slot_ne (Or.inr (W 56 rfl)) (Or.inr (W 74 rfl)) (by decide) (t := (.object "java/lang/String")) (t' := (.object "com/example/aurel/aurel/orders/PaidPeriod")) (by decide) (by decide)))), ((((((((F24.other W27 (Or.inr (slot_ne (Or.inr (W 58 rfl)) (Or.inr (W 60 rfl)) (by decide) (t := (.object "java/lang/String")) (t' := (.object "java/lang/String")) (by decide) (by decide)))).other W30 (Or.inr (slot_ne (Or.inr (W 58 rfl)) (Or.inr (W 62 rfl)) (by decide) (t := (.object "java/lang/String")) (t' := (.object "com/example/aurel/aurel/catalog/ProductType")) (by decide) (by decide)))).other W33 (Or.inr (slot_ne (Or.inr (W 58 rfl)) (Or.inr (W 64 rfl)) (by decide) (t := (.object "java/lang/String")) (t' := .long) (by decide) (by decide)))).other W37 (Or.inr (slot_ne (Or.inr (W 58 rfl)) (Or.inr (W 66 rfl)) (by decide) (t := (.object "java/lang/String")) (t' := .long) (by decide) (by decide)))).other W40 (Or.inr (slot_ne (Or.inr (W 58 rfl)) (Or.inr (W 68 rfl)) (by decide) (t := (.object "java/lang/String")) (t' := (.object "java/lang/String")) (by decide) (by decide)))).other W43 (Or.inr (slot_ne (Or.inr (W 58 rfl)) (Or.inr (W 70 rfl)) (by decide) (t := (.object "java/lang/String")) (t' := .boolean) (by decide) (by decide)))).other W46 (Or.inr (slot_ne (Or.inr (W 58 rfl)) (Or.inr (W 72 rfl)) (by decide) (t := (.object "java/lang/String")) (t' := .long) (by decide) (by decide)))).other W50 (Or.inr (slot_ne (Or.inr (W 58 rfl)) (Or.inr (W 74 rfl)) (by decide) (t := (.object "java/lang/String")) (t' := (.object "com/example/aurel/aurel/orders/PaidPeriod")) (by decide) (by decide)))), (((((((F27.other W30 (Or.inr (slot_ne (Or.inr (W 60 rfl)) (Or.inr (W 62 rfl)) (by decide) (t := (.object "java/lang/String")) (t' := (.object "com/example/aurel/aurel/catalog/ProductType")) (by decide) (by decide)))).other W33 (Or.inr (slot_ne (Or.inr (W 60 rfl)) (Or.inr (W 64 rfl)) (by decide) (t := (.object "java/lang/String")) (t' := .long) (by decide) (by decide)))).other W37 (Or.inr (slot_ne (Or.inr (W 60 rfl)) (Or.inr (W 66 rfl)) (by decide) (t := (.object "java/lang/String")) (t' := .long) (by decide) (by decide)))).other W40 (Or.inr (slot_ne (Or.inr (W 60 rfl)) (Or.inr (W 68 rfl)) (by decide) (t := (.object "java/lang/String")) (t' := (.object "java/lang/String")) (by decide) (by decide)))).other W43 (Or.inr (slot_ne (Or.inr (W 60 rfl)) (Or.inr (W 70 rfl)) (by decide) (t := (.object "java/lang/String")) (t' := .boolean) (by decide) (by decide)))).other W46 (Or.inr (slot_ne (Or.inr (W 60 rfl)) (Or.inr (W 72 rfl)) (by decide) (t := (.object "java/lang/String")) (t' := .long) (by decide) (by decide)))).other W50 (Or.inr (slot_ne (Or.inr (W 60 rfl)) (Or.inr (W 74 rfl)) (by decide) (t := (.object "java/lang/String")) (t' := (.object "com/example/aurel/aurel/orders/PaidPeriod")) (by decide) (by decide)))), ((((((F30.other W33 (Or.inr (slot_ne (Or.inr (W 62 rfl)) (Or.inr (W 64 rfl)) (by decide) (t := (.object "com/example/aurel/aurel/catalog/ProductType")) (t' := .long) (by decide) (by decide)))).other W37 (Or.inr (slot_ne (Or.inr (W 62 rfl)) (Or.inr (W 66 rfl)) (by decide) (t := (.object "com/example/aurel/aurel/catalog/ProductType")) (t' := .long) (by decide) (by decide)))).other W40 (Or.inr (slot_ne (Or.inr (W 62 rfl)) (Or.inr (W 68 rfl)) (by decide) (t := (.object "com/example/aurel/aurel/catalog/ProductType")) (t' := (.object "java/lang/String")) (by decide) (by decide)))).other W43 (Or.inr (slot_ne (Or.inr (W 62 rfl)) (Or.inr (W 70 rfl)) (by decide) (t := (.object "com/example/aurel/aurel/catalog/ProductType")) (t' := .boolean) (by decide) (by decide)))).other W46 (Or.inr (slot_ne (Or.inr (W 62 rfl)) (Or.inr (W 72 rfl)) (by decide) (t := (.object "com/example/aurel/aurel/catalog/ProductType")) (t' := .long) (by decide) (by decide)))).other W50 (Or.inr (slot_ne (Or.inr (W 62 rfl)) (Or.inr (W 74 rfl)) (by decide) (t := (.object "com/example/aurel/aurel/catalog/ProductType")) (t' := (.object "com/example/aurel/aurel/orders/PaidPeriod")) (by decide) (by decide)))), (((((F33.other W37 (Or.inr (slot_ne (Or.inr (W 64 rfl)) (Or.inr (W 66 rfl)) (by decide) (t := .long) (t' := .long) (by decide) (by decide)))).other W40 (Or.inr (slot_ne (Or.inr (W 64 rfl)) (Or.inr (W 68 rfl)) (by decide) (t := .long) (t' := (.object "java/lang/String")) (by decide) (by decide)))).other W43 (Or.inr (slot_ne (Or.inr (W 64 rfl)) (Or.inr (W 70 rfl)) (by decide) (t := .long) (t' := .boolean) (by decide) (by decide)))).other W46 (Or.inr (slot_ne (Or.inr (W 64 rfl)) (Or.inr (W 72 rfl)) (by decide) (t := .long) (t' := .long) (by decide) (by decide)))).other W50 (Or.inr (slot_ne (Or.inr (W 64 rfl)) (Or.inr (W 74 rfl)) (by decide) (t := .long) (t' := (.object "com/example/aurel/aurel/orders/PaidPeriod")) (by decide) (by decide)))), ((((F37.other W40 (Or.inr (slot_ne (Or.inr (W 66 rfl)) (Or.inr (W 68 rfl)) (by decide) (t := .long) (t' := (.object "java/lang/String")) (by decide) (by decide)))).other W43 (Or.inr (slot_ne (Or.inr (W 66 rfl)) (Or.inr (W 70 rfl)) (by decide) (t := .long) (t' := .boolean) (by decide) (by decide)))).other W46 (Or.inr (slot_ne (Or.inr (W 66 rfl)) (Or.inr (W 72 rfl)) (by decide) (t := .long) (t' := .long) (by decide) (by decide)))).other W50 (Or.inr (slot_ne (Or.inr (W 66 rfl)) (Or.inr (W 74 rfl)) (by decide) (t := .long) (t' := (.object "com/example/aurel/aurel/orders/PaidPeriod")) (by decide) (by decide)))), (((F40.other W43 (Or.inr (slot_ne (Or.inr (W 68 rfl)) (Or.inr (W 70 rfl)) (by decide) (t := (.object "java/lang/String")) (t' := .boolean) (by decide) (by decide)))).other W46 (Or.inr (slot_ne (Or.inr (W 68 rfl)) (Or.inr (W 72 rfl)) (by decide) (t := (.object "java/lang/String")) (t' := .long) (by decide) (by decide)))).other W50 (Or.inr (slot_ne (Or.inr (W 68 rfl)) (Or.inr (W 74 rfl)) (by decide) (t := (.object "java/lang/String")) (t' := (.object "com/example/aurel/aurel/orders/PaidPeriod")) (by decide) (by decide)))), ((F43.other W46 (Or.inr (slot_ne (Or.inr (W 70 rfl)) (Or.inr (W 72 rfl)) (by decide) (t := .boolean) (t' := .long) (by decide) (by decide)))).other W50 (Or.inr (slot_ne (Or.inr (W 70 rfl)) (Or.inr (W 74 rfl)) (by decide) (t := .boolean) (t' := (.object "com/example/aurel/aurel/orders/PaidPeriod")) (by decide) (by decide)))), (F46.other W50 (Or.inr (slot_ne (Or.inr (W 72 rfl)) (Or.inr (W 74 rfl)) (by decide) (t := .long) (t' := (.object "com/example/aurel/aurel/orders/PaidPeriod")) (by decide) (by decide)))), F50⟩
theorem ef_rm_wdc_r (m : MethodId) (x0 : Addr) : entryFrame m #[(.ref x0)] 1 = mkF m 0 #[vr x0] [] := by first | (simp [entryFrame, mkF, argsToLocals, Value.category]; done) | rfl
theorem d10_0 : DK B17 0 (.new 8) 3 := by decide +kernel
theorem d10_3 : DK B17 3 .dup 1 := by decide +kernel
theorem d10_4 : DK B17 4 (.aload_n 0) 1 := by decide +kernel
theorem d10_5 : DK B17 5 (.getfield 7) 3 := by decide +kernel
theorem d10_8 : DK B17 8 (.aload_n 0) 1 := by decide +kernel
theorem d10_9 : DK B17 9 (.getfield 13) 3 := by decide +kernel
theorem d10_12 : DK B17 12 (.aload_n 0) 1 := by decide +kernel
theorem d10_13 : DK B17 13 (.getfield 16) 3 := by decide +kernel
theorem d10_16 : DK B17 16 (.aload_n 0) 1 := by decide +kernel
theorem d10_17 : DK B17 17 (.getfield 19) 3 := by decide +kernel
theorem d10_20 : DK B17 20 (.aload_n 0) 1 := by decide +kernel
theorem d10_21 : DK B17 21 (.getfield 22) 3 := by decide +kernel
theorem d10_24 : DK B17 24 (.aload_n 0) 1 := by decide +kernel
theorem d10_25 : DK B17 25 (.getfield 25) 3 := by decide +kernel
theorem d10_28 : DK B17 28 (.aload_n 0) 1 := by decide +kernel
theorem d10_29 : DK B17 29 (.getfield 28) 3 := by decide +kernel
theorem d10_32 : DK B17 32 (.aload_n 0) 1 := by decide +kernel
theorem d10_33 : DK B17 33 (.getfield 32) 3 := by decide +kernel
theorem d10_36 : DK B17 36 (.aload_n 0) 1 := by decide +kernel
theorem d10_37 : DK B17 37 (.getfield 36) 3 := by decide +kernel
theorem d10_40 : DK B17 40 (.aload_n 0) 1 := by decide +kernel
theorem d10_41 : DK B17 41 (.getfield 39) 3 := by decide +kernel
theorem d10_44 : DK B17 44 (.iconst 1) 1 := by decide +kernel
theorem d10_45 : DK B17 45 (.aload_n 0) 1 := by decide +kernel
theorem d10_46 : DK B17 46 (.getfield 46) 3 := by decide +kernel
theorem d10_49 : DK B17 49 (.aload_n 0) 1 := by decide +kernel
theorem d10_50 : DK B17 50 (.getfield 49) 3 := by decide +kernel
theorem d10_53 : DK B17 53 (.invokespecial 53) 3 := by decide +kernel
theorem pd_5 : parseMethodDescriptor "(Ljava/lang/String;Ljava/lang/String;Ljava/lang/String;Ljava/lang/String;Ljava/lang/String;Ljava/lang/String;Lcom/example/aurel/aurel/catalog/ProductType;JJLjava/lang/String;ZJLcom/example/aurel/aurel/orders/PaidPeriod;)V" = some ⟨[(.object "java/lang/String"), (.object "java/lang/String"), (.object "java/lang/String"), (.object "java/lang/String"), (.object "java/lang/String"), (.object "java/lang/String"), (.object "com/example/aurel/aurel/catalog/ProductType"), .long, .long, (.object "java/lang/String"), .boolean, .long, (.object "com/example/aurel/aurel/orders/PaidPeriod")], none⟩ := by decide +kernel
theorem m5 {Z : State} {a0 : Array Value} (hw : HW a0 Z) : (Jvm.Cond.instanceMethod Y0).before a0 Z = true ∧ (Jvm.Cond.initialized "com/example/aurel/aurel/orders/Order").before a0 Z = true ∧ (Jvm.Cond.code Y0 B16 (17 : Nat) (Option.none : Option Jvm.ClassFile.FieldType)).before a0 Z = true := ⟨(wd hw 41 rfl), (wd hw 39 rfl), (wd hw 42 rfl)⟩
theorem d10_56 : DK B17 56 .areturn 1 := by decide +kernel
theorem rm_wdc_r {l : Launch} {Z : State} {a0 : Array Value} (hw : HW a0 Z) (a1 : Addr) (x0 : Addr) (x1 : Addr) (x2 : Addr) (x3 : Addr) (x4 : Addr) (x5 : Addr) (x6 : Addr) (x7 : Int64) (x8 : Int64) (x9 : Addr) (x11 : Int64) (x12 : Addr) (h0 : Heap) (n0 : Nat) (Z0 : n0 ≤ h0.size) (pr0 : Old Z n0 h0) (pr1 : Fld Z h0 a1 "com/example/aurel/aurel/orders/Order" "purchaseOrderId" "Ljava/lang/String;" (.ref x0)) (pr2 : Fld Z h0 a1 "com/example/aurel/aurel/orders/Order" "purchaseToken" "Ljava/lang/String;" (.ref x1)) (pr3 : Fld Z h0 a1 "com/example/aurel/aurel/orders/Order" "userId" "Ljava/lang/String;" (.ref x2)) (pr4 : Fld Z h0 a1 "com/example/aurel/aurel/orders/Order" "applicationId" "Ljava/lang/String;" (.ref x3)) (pr5 : Fld Z h0 a1 "com/example/aurel/aurel/orders/Order" "packageName" "Ljava/lang/String;" (.ref x4)) (pr6 : Fld Z h0 a1 "com/example/aurel/aurel/orders/Order" "productId" "Ljava/lang/String;" (.ref x5)) (pr7 : Fld Z h0 a1 "com/example/aurel/aurel/orders/Order" "productType" "Lcom/example/aurel/aurel/catalog/ProductType;" (.ref x6)) (pr8 : Fld Z h0 a1 "com/example/aurel/aurel/orders/Order" "purchaseTime" "J" (.long x7)) (pr9 : Fld Z h0 a1 "com/example/aurel/aurel/orders/Order" "price" "J" (.long x8)) (pr10 : Fld Z h0 a1 "com/example/aurel/aurel/orders/Order" "currency" "Ljava/lang/String;" (.ref x9)) (pr11 : Fld Z h0 a1 "com/example/aurel/aurel/orders/Order" "sequence" "J" (.long x11)) (pr12 : Fld Z h0 a1 "com/example/aurel/aurel/orders/Order" "paidPeriod" "Lcom/example/aurel/aurel/orders/PaidPeriod;" (.ref x12)) :
    Met l Z Y14 B17 1 (some (.object "com/example/aurel/aurel/orders/Order")) [] ({ frames := 3, cells := 1, slots := 13, locals := 53 } : Room) #[(.ref a1)] h0 (fun vv h L => Fr n0 L ∧ ∃ b : Addr, vv = some (.ref b) ∧ Keep h0 h [] ∧ Exa Z h b "com/example/aurel/aurel/orders/Order" ∧ Fld Z h b "com/example/aurel/aurel/orders/Order" "purchaseOrderId" "Ljava/lang/String;" (.ref x0) ∧ Fld Z h b "com/example/aurel/aurel/orders/Order" "purchaseToken" "Ljava/lang/String;" (.ref x1) ∧ Fld Z h b "com/example/aurel/aurel/orders/Order" "userId" "Ljava/lang/String;" (.ref x2) ∧ Fld Z h b "com/example/aurel/aurel/orders/Order" "applicationId" "Ljava/lang/String;" (.ref x3) ∧ Fld Z h b "com/example/aurel/aurel/orders/Order" "packageName" "Ljava/lang/String;" (.ref x4) ∧ Fld Z h b "com/example/aurel/aurel/orders/Order" "productId" "Ljava/lang/String;" (.ref x5) ∧ Fld Z h b "com/example/aurel/aurel/orders/Order" "productType" "Lcom/example/aurel/aurel/catalog/ProductType;" (.ref x6) ∧ Fld Z h b "com/example/aurel/aurel/orders/Order" "purchaseTime" "J" (.long x7) ∧ Fld Z h b "com/example/aurel/aurel/orders/Order" "price" "J" (.long x8) ∧ Fld Z h b "com/example/aurel/aurel/orders/Order" "currency" "Ljava/lang/String;" (.ref x9) ∧ Fld Z h b "com/example/aurel/aurel/orders/Order" "deliveryConfirmed" "Z" (.int 1) ∧ Fld Z h b "com/example/aurel/aurel/orders/Order" "sequence" "J" (.long x11) ∧ Fld Z h b "com/example/aurel/aurel/orders/Order" "paidPeriod" "Lcom/example/aurel/aurel/orders/PaidPeriod;" (.ref x12) ∧ h0.size ≤ b) := by
  refine Met.enter (f0 := fun m => mkF m 0 #[vr a1] []) (plainFor_of_name pn2) (fun m => ef_rm_wdc_r m a1) ?_
  intro p e s m below meth c s₁ hx hby (hml : c.maxLocals = 1) (hown : s.vm.findClass "com/example/aurel/aurel/orders/Order" = some m.cls) hnm hret hlk hZ X0 e0
  have dk : Dk B17 c := fun h => hb hby h
  have W := @wd _ _ _ hw
  have N0 := Fr.nil n0
  obtain ⟨T10, h10, X10, e10, E10, A10, D10, -, st10⟩ := newO X0 hx hZ hown (W 80 rfl) (W 38 rfl) (W 39 rfl) e0 (g := (mkF m 0 #[vr a1] [])) rfl (dk d10_0) (by decide) (by decide)
  obtain ⟨b10, g10⟩ : ∃ z, z = h0.size := ⟨_, rfl⟩
  rw [← g10] at A10 D10 st10
  have sz_b10 : h0.size ≤ b10 := Nat.le_of_eq g10.symm
  have O11 := pr0.ext E10
  have Z11 : n0 ≤ h10.size := Nat.le_trans Z0 E10.1
  have F12 : Fld Z h10 b10 "com/example/aurel/aurel/orders/Order" "purchaseOrderId" "Ljava/lang/String;" .null := D10 (Or.inr (W 50 rfl)) (ty := (.object "java/lang/String")) (by decide)
  have F13 : Fld Z h10 b10 "com/example/aurel/aurel/orders/Order" "purchaseToken" "Ljava/lang/String;" .null := D10 (Or.inr (W 52 rfl)) (ty := (.object "java/lang/String")) (by decide)
  have F14 : Fld Z h10 b10 "com/example/aurel/aurel/orders/Order" "userId" "Ljava/lang/String;" .null := D10 (Or.inr (W 54 rfl)) (ty := (.object "java/lang/String")) (by decide)
  have F15 : Fld Z h10 b10 "com/example/aurel/aurel/orders/Order" "applicationId" "Ljava/lang/String;" .null := D10 (Or.inr (W 56 rfl)) (ty := (.object "java/lang/String")) (by decide)
  have F16 : Fld Z h10 b10 "com/example/aurel/aurel/orders/Order" "packageName" "Ljava/lang/String;" .null := D10 (Or.inr (W 58 rfl)) (ty := (.object "java/lang/String")) (by decide)
  have F17 : Fld Z h10 b10 "com/example/aurel/aurel/orders/Order" "productId" "Ljava/lang/String;" .null := D10 (Or.inr (W 60 rfl)) (ty := (.object "java/lang/String")) (by decide)
  have F18 : Fld Z h10 b10 "com/example/aurel/aurel/orders/Order" "productType" "Lcom/example/aurel/aurel/catalog/ProductType;" .null := D10 (Or.inr (W 62 rfl)) (ty := (.object "com/example/aurel/aurel/catalog/ProductType")) (by decide)
  have F19 : Fld Z h10 b10 "com/example/aurel/aurel/orders/Order" "purchaseTime" "J" (.long (0 : Int64)) := D10 (Or.inr (W 64 rfl)) (ty := .long) (by decide)
  have F20 : Fld Z h10 b10 "com/example/aurel/aurel/orders/Order" "price" "J" (.long (0 : Int64)) := D10 (Or.inr (W 66 rfl)) (ty := .long) (by decide)
  have F21 : Fld Z h10 b10 "com/example/aurel/aurel/orders/Order" "currency" "Ljava/lang/String;" .null := D10 (Or.inr (W 68 rfl)) (ty := (.object "java/lang/String")) (by decide)
  have F22 : Fld Z h10 b10 "com/example/aurel/aurel/orders/Order" "deliveryConfirmed" "Z" (.int 0) := D10 (Or.inr (W 70 rfl)) (ty := .boolean) (by decide)
  have F23 : Fld Z h10 b10 "com/example/aurel/aurel/orders/Order" "sequence" "J" (.long (0 : Int64)) := D10 (Or.inr (W 72 rfl)) (ty := .long) (by decide)
  have F24 : Fld Z h10 b10 "com/example/aurel/aurel/orders/Order" "paidPeriod" "Lcom/example/aurel/aurel/orders/PaidPeriod;" .null := D10 (Or.inr (W 74 rfl)) (ty := (.object "com/example/aurel/aurel/orders/PaidPeriod")) (by decide)
  refine gz X10 5 #[vr a1] [(.ref a1), (.ref b10), (.ref b10)] (fun _ k => st10 _ (XS.dup X10.here hx rfl (dk d10_3) rfl rfl (aN X10 hx (dk d10_4) rfl rfl k))) ?_
  obtain ⟨T25, X25, e25, st25⟩ := getF X10 hx hZ hown (host := "") (Or.inl (W 49 rfl)) Via.refl e10 (pr1.ext E10) (g := (mkF m 5 #[vr a1] [(.ref a1), (.ref b10), (.ref b10)])) rfl rfl (dk d10_5)
  refine gz X25 9 #[vr a1] [(.ref a1), (.ref x0), (.ref b10), (.ref b10)] (fun _ k => st25 _ (aN X25 hx (dk d10_8) rfl rfl k)) ?_
  obtain ⟨T26, X26, e26, st26⟩ := getF X25 hx hZ hown (host := "") (Or.inl (W 51 rfl)) Via.refl e25 (pr2.ext E10) (g := (mkF m 9 #[vr a1] [(.ref a1), (.ref x0), (.ref b10), (.ref b10)])) rfl rfl (dk d10_9)
  refine gz X26 13 #[vr a1] [(.ref a1), (.ref x1), (.ref x0), (.ref b10), (.ref b10)] (fun _ k => st26 _ (aN X26 hx (dk d10_12) rfl rfl k)) ?_
  obtain ⟨T27, X27, e27, st27⟩ := getF X26 hx hZ hown (host := "") (Or.inl (W 53 rfl)) Via.refl e26 (pr3.ext E10) (g := (mkF m 13 #[vr a1] [(.ref a1), (.ref x1), (.ref x0), (.ref b10), (.ref b10)])) rfl rfl (dk d10_13)
  refine gz X27 17 #[vr a1] [(.ref a1), (.ref x2), (.ref x1), (.ref x0), (.ref b10), (.ref b10)] (fun _ k => st27 _ (aN X27 hx (dk d10_16) rfl rfl k)) ?_
  obtain ⟨T28, X28, e28, st28⟩ := getF X27 hx hZ hown (host := "") (Or.inl (W 55 rfl)) Via.refl e27 (pr4.ext E10) (g := (mkF m 17 #[vr a1] [(.ref a1), (.ref x2), (.ref x1), (.ref x0), (.ref b10), (.ref b10)])) rfl rfl (dk d10_17)
  refine gz X28 21 #[vr a1] [(.ref a1), (.ref x3), (.ref x2), (.ref x1), (.ref x0), (.ref b10), (.ref b10)] (fun _ k => st28 _ (aN X28 hx (dk d10_20) rfl rfl k)) ?_
  obtain ⟨T29, X29, e29, st29⟩ := getF X28 hx hZ hown (host := "") (Or.inl (W 57 rfl)) Via.refl e28 (pr5.ext E10) (g := (mkF m 21 #[vr a1] [(.ref a1), (.ref x3), (.ref x2), (.ref x1), (.ref x0), (.ref b10), (.ref b10)])) rfl rfl (dk d10_21)
  refine gz X29 25 #[vr a1] [(.ref a1), (.ref x4), (.ref x3), (.ref x2), (.ref x1), (.ref x0), (.ref b10), (.ref b10)] (fun _ k => st29 _ (aN X29 hx (dk d10_24) rfl rfl k)) ?_
  obtain ⟨T30, X30, e30, st30⟩ := getF X29 hx hZ hown (host := "") (Or.inl (W 59 rfl)) Via.refl e29 (pr6.ext E10) (g := (mkF m 25 #[vr a1] [(.ref a1), (.ref x4), (.ref x3), (.ref x2), (.ref x1), (.ref x0), (.ref b10), (.ref b10)])) rfl rfl (dk d10_25)
  refine gz X30 29 #[vr a1] [(.ref a1), (.ref x5), (.ref x4), (.ref x3), (.ref x2), (.ref x1), (.ref x0), (.ref b10), (.ref b10)] (fun _ k => st30 _ (aN X30 hx (dk d10_28) rfl rfl k)) ?_
  obtain ⟨T31, X31, e31, st31⟩ := getF X30 hx hZ hown (host := "") (Or.inl (W 61 rfl)) Via.refl e30 (pr7.ext E10) (g := (mkF m 29 #[vr a1] [(.ref a1), (.ref x5), (.ref x4), (.ref x3), (.ref x2), (.ref x1), (.ref x0), (.ref b10), (.ref b10)])) rfl rfl (dk d10_29)
  refine gz X31 33 #[vr a1] [(.ref a1), (.ref x6), (.ref x5), (.ref x4), (.ref x3), (.ref x2), (.ref x1), (.ref x0), (.ref b10), (.ref b10)] (fun _ k => st31 _ (aN X31 hx (dk d10_32) rfl rfl k)) ?_
  obtain ⟨T32, X32, e32, st32⟩ := getF X31 hx hZ hown (host := "") (Or.inl (W 63 rfl)) Via.refl e31 (pr8.ext E10) (g := (mkF m 33 #[vr a1] [(.ref a1), (.ref x6), (.ref x5), (.ref x4), (.ref x3), (.ref x2), (.ref x1), (.ref x0), (.ref b10), (.ref b10)])) rfl rfl (dk d10_33)
  refine gz X32 37 #[vr a1] [(.ref a1), (.long x7), (.ref x6), (.ref x5), (.ref x4), (.ref x3), (.ref x2), (.ref x1), (.ref x0), (.ref b10), (.ref b10)] (fun _ k => st32 _ (aN X32 hx (dk d10_36) rfl rfl k)) ?_
  obtain ⟨T33, X33, e33, st33⟩ := getF X32 hx hZ hown (host := "") (Or.inl (W 65 rfl)) Via.refl e32 (pr9.ext E10) (g := (mkF m 37 #[vr a1] [(.ref a1), (.long x7), (.ref x6), (.ref x5), (.ref x4), (.ref x3), (.ref x2), (.ref x1), (.ref x0), (.ref b10), (.ref b10)])) rfl rfl (dk d10_37)
  refine gz X33 41 #[vr a1] [(.ref a1), (.long x8), (.long x7), (.ref x6), (.ref x5), (.ref x4), (.ref x3), (.ref x2), (.ref x1), (.ref x0), (.ref b10), (.ref b10)] (fun _ k => st33 _ (aN X33 hx (dk d10_40) rfl rfl k)) ?_
  obtain ⟨T34, X34, e34, st34⟩ := getF X33 hx hZ hown (host := "") (Or.inl (W 67 rfl)) Via.refl e33 (pr10.ext E10) (g := (mkF m 41 #[vr a1] [(.ref a1), (.long x8), (.long x7), (.ref x6), (.ref x5), (.ref x4), (.ref x3), (.ref x2), (.ref x1), (.ref x0), (.ref b10), (.ref b10)])) rfl rfl (dk d10_41)
  refine gz X34 46 #[vr a1] [(.ref a1), (.int 1), (.ref x9), (.long x8), (.long x7), (.ref x6), (.ref x5), (.ref x4), (.ref x3), (.ref x2), (.ref x1), (.ref x0), (.ref b10), (.ref b10)] (fun _ k => st34 _ (kC X34 hx (dk d10_44) (aN X34 hx (dk d10_45) rfl rfl k))) ?_
  obtain ⟨T35, X35, e35, st35⟩ := getF X34 hx hZ hown (host := "") (Or.inl (W 71 rfl)) Via.refl e34 (pr11.ext E10) (g := (mkF m 46 #[vr a1] [(.ref a1), (.int 1), (.ref x9), (.long x8), (.long x7), (.ref x6), (.ref x5), (.ref x4), (.ref x3), (.ref x2), (.ref x1), (.ref x0), (.ref b10), (.ref b10)])) rfl rfl (dk d10_46)
  refine gz X35 50 #[vr a1] [(.ref a1), (.long x11), (.int 1), (.ref x9), (.long x8), (.long x7), (.ref x6), (.ref x5), (.ref x4), (.ref x3), (.ref x2), (.ref x1), (.ref x0), (.ref b10), (.ref b10)] (fun _ k => st35 _ (aN X35 hx (dk d10_49) rfl rfl k)) ?_
  obtain ⟨T36, X36, e36, st36⟩ := getF X35 hx hZ hown (host := "") (Or.inl (W 73 rfl)) Via.refl e35 (pr12.ext E10) (g := (mkF m 50 #[vr a1] [(.ref a1), (.long x11), (.int 1), (.ref x9), (.long x8), (.long x7), (.ref x6), (.ref x5), (.ref x4), (.ref x3), (.ref x2), (.ref x1), (.ref x0), (.ref b10), (.ref b10)])) rfl rfl (dk d10_50)
  refine gz X36 53 #[vr a1] [(.ref x12), (.long x11), (.int 1), (.ref x9), (.long x8), (.long x7), (.ref x6), (.ref x5), (.ref x4), (.ref x3), (.ref x2), (.ref x1), (.ref x0), (.ref b10), (.ref b10)] (fun _ k => st36 _ k) ?_
  refine goI X36 hx hZ hown (W 81 rfl) (m5 hw) 13 1 13 (rm_ord_r hw b10 x0 x1 x2 x3 x4 x5 x6 x7 x8 x9 (1 : Int32) x11 x12 h10 n0 Z11 O11 A10 F12 F13 F14 F15 F16 F17 F18 F19 F20 F21 F22 F23 F24 (Nat.le_trans Z0 sz_b10)) N0 e36 pd_5 hml (dk d10_53) ?_
  rintro _ T37 L37 X37 N37 ⟨rfl, K37, p37_0, p37_1, p37_2, p37_3, p37_4, p37_5, p37_6, p37_7, p37_8, p37_9, p37_10, p37_11, p37_12, p37_13⟩
  have O38 := O11.keep K37 (allS (Nat.le_trans Z0 sz_b10) all0)
  have Z38 : n0 ≤ T37.heap.size := Nat.le_trans Z11 K37.1
  have p37_11 : Fld Z T37.heap b10 "com/example/aurel/aurel/orders/Order" "deliveryConfirmed" "Z" (.int 1) := p37_11
  refine gz X37 56 #[vr a1] [(.ref b10)] (fun _ k => k) ?_
  refine Go.retA X37 hx hlk (t := (.object "com/example/aurel/aurel/orders/Order")) hret (dk d10_56) ?_
  exact ⟨N37, b10, rfl, (((Keep.refl h0 []).ext E10).trans K37 (allS (Or.inr (Nat.le_trans (Nat.le_refl _) sz_b10)) all0)), p37_0, p37_1, p37_2, p37_3, p37_4, p37_5, p37_6, p37_7, p37_8, p37_9, p37_10, p37_11, p37_12, p37_13, (Nat.le_trans (Nat.le_refl _) sz_b10)⟩
theorem ef_rm_ord_n (m : MethodId) (x0 : Addr) (x1 : Addr) (x2 : Addr) (x3 : Addr) (x4 : Addr) (x5 : Addr) (x6 : Addr) (x7 : Addr) (x8 : Int64) (x9 : Int64) (x10 : Addr) (x11 : Int32) (x12 : Int64) : entryFrame m #[(.ref x0), (.ref x1), (.ref x2), (.ref x3), (.ref x4), (.ref x5), (.ref x6), (.ref x7), (.long x8), (.long x9), (.ref x10), (.int x11), (.long x12), .null] 17 = mkF m 0 #[vr x0, vr x1, vr x2, vr x3, vr x4, vr x5, vr x6, vr x7, .val (.long x8), .second, .val (.long x9), .second, vr x10, vi x11, .val (.long x12), .second, .val .null] [] := by first | (simp [entryFrame, mkF, argsToLocals, Value.category]; done) | rfl
theorem rm_ord_n {l : Launch} {Z : State} {a0 : Array Value} (hw : HW a0 Z) (a1 : Addr) (x0 : Addr) (x1 : Addr) (x2 : Addr) (x3 : Addr) (x4 : Addr) (x5 : Addr) (x6 : Addr) (x7 : Int64) (x8 : Int64) (x9 : Addr) (x10 : Int32) (x11 : Int64) (h0 : Heap) (n0 : Nat) (Z0 : n0 ≤ h0.size) (pr0 : Old Z n0 h0) (pr1 : Exa Z h0 a1 "com/example/aurel/aurel/orders/Order") (pr2 : Fld Z h0 a1 "com/example/aurel/aurel/orders/Order" "purchaseOrderId" "Ljava/lang/String;" .null) (pr3 : Fld Z h0 a1 "com/example/aurel/aurel/orders/Order" "purchaseToken" "Ljava/lang/String;" .null) (pr4 : Fld Z h0 a1 "com/example/aurel/aurel/orders/Order" "userId" "Ljava/lang/String;" .null) (pr5 : Fld Z h0 a1 "com/example/aurel/aurel/orders/Order" "applicationId" "Ljava/lang/String;" .null) (pr6 : Fld Z h0 a1 "com/example/aurel/aurel/orders/Order" "packageName" "Ljava/lang/String;" .null) (pr7 : Fld Z h0 a1 "com/example/aurel/aurel/orders/Order" "productId" "Ljava/lang/String;" .null) (pr8 : Fld Z h0 a1 "com/example/aurel/aurel/orders/Order" "productType" "Lcom/example/aurel/aurel/catalog/ProductType;" .null) (pr9 : Fld Z h0 a1 "com/example/aurel/aurel/orders/Order" "purchaseTime" "J" (.long (0 : Int64))) (pr10 : Fld Z h0 a1 "com/example/aurel/aurel/orders/Order" "price" "J" (.long (0 : Int64))) (pr11 : Fld Z h0 a1 "com/example/aurel/aurel/orders/Order" "currency" "Ljava/lang/String;" .null) (pr12 : Fld Z h0 a1 "com/example/aurel/aurel/orders/Order" "deliveryConfirmed" "Z" (.int 0)) (pr13 : Fld Z h0 a1 "com/example/aurel/aurel/orders/Order" "sequence" "J" (.long (0 : Int64))) (pr14 : Fld Z h0 a1 "com/example/aurel/aurel/orders/Order" "paidPeriod" "Lcom/example/aurel/aurel/orders/PaidPeriod;" .null) (pr15 : n0 ≤ a1) :
    Met l Z Y0 B16 17 none [] ({ frames := 2, cells := 0, slots := 0, locals := 24 } : Room) #[(.ref a1), (.ref x0), (.ref x1), (.ref x2), (.ref x3), (.ref x4), (.ref x5), (.ref x6), (.long x7), (.long x8), (.ref x9), (.int x10), (.long x11), .null] h0 (fun vv h L => Fr n0 L ∧ vv = none ∧ Keep h0 h [a1] ∧ Exa Z h a1 "com/example/aurel/aurel/orders/Order" ∧ Fld Z h a1 "com/example/aurel/aurel/orders/Order" "purchaseOrderId" "Ljava/lang/String;" (.ref x0) ∧ Fld Z h a1 "com/example/aurel/aurel/orders/Order" "purchaseToken" "Ljava/lang/String;" (.ref x1) ∧ Fld Z h a1 "com/example/aurel/aurel/orders/Order" "userId" "Ljava/lang/String;" (.ref x2) ∧ Fld Z h a1 "com/example/aurel/aurel/orders/Order" "applicationId" "Ljava/lang/String;" (.ref x3) ∧ Fld Z h a1 "com/example/aurel/aurel/orders/Order" "packageName" "Ljava/lang/String;" (.ref x4) ∧ Fld Z h a1 "com/example/aurel/aurel/orders/Order" "productId" "Ljava/lang/String;" (.ref x5) ∧ Fld Z h a1 "com/example/aurel/aurel/orders/Order" "productType" "Lcom/example/aurel/aurel/catalog/ProductType;" (.ref x6) ∧ Fld Z h a1 "com/example/aurel/aurel/orders/Order" "purchaseTime" "J" (.long x7) ∧ Fld Z h a1 "com/example/aurel/aurel/orders/Order" "price" "J" (.long x8) ∧ Fld Z h a1 "com/example/aurel/aurel/orders/Order" "currency" "Ljava/lang/String;" (.ref x9) ∧ Fld Z h a1 "com/example/aurel/aurel/orders/Order" "deliveryConfirmed" "Z" (.int (nar .boolean x10)) ∧ Fld Z h a1 "com/example/aurel/aurel/orders/Order" "sequence" "J" (.long x11) ∧ Fld Z h a1 "com/example/aurel/aurel/orders/Order" "paidPeriod" "Lcom/example/aurel/aurel/orders/PaidPeriod;" .null) := by
  refine Met.enter (f0 := fun m => mkF m 0 #[vr a1, vr x0, vr x1, vr x2, vr x3, vr x4, vr x5, vr x6, .val (.long x7), .second, .val (.long x8), .second, vr x9, vi x10, .val (.long x11), .second, .val .null] []) (plainFor_of_name pn2) (fun m => ef_rm_ord_n m a1 x0 x1 x2 x3 x4 x5 x6 x7 x8 x9 x10 x11) ?_
  intro p e s m below meth c s₁ hx hby (hml : c.maxLocals = 17) (hown : s.vm.findClass "com/example/aurel/aurel/orders/Order" = some m.cls) hnm hret hlk hZ X0 e0
  have dk : Dk B16 c := fun h => hb hby h
  have W := @wd _ _ _ hw
  have N0 := Fr.nil n0
  refine gz X0 1 #[vr a1, vr x0, vr x1, vr x2, vr x3, vr x4, vr x5, vr x6, .val (.long x7), .second, .val (.long x8), .second, vr x9, vi x10, .val (.long x11), .second, .val .null] [(.ref a1)] (fun _ k => aN X0 hx (dk d8_0) rfl rfl k) ?_
  refine goI X0 hx hZ hown (W 43 rfl) (m4 hw) 0 0 0 (rm_Record_init hw a1 h0 n0 Z0 ) N0 e0 pd_4 hml (dk d8_1) ?_
  rintro _ T10 L10 X10 N10 ⟨rfl, hh10⟩
  refine gz X10 6 #[vr a1, vr x0, vr x1, vr x2, vr x3, vr x4, vr x5, vr x6, .val (.long x7), .second, .val (.long x8), .second, vr x9, vi x10, .val (.long x11), .second, .val .null] [(.ref x0), (.ref a1)] (fun _ k => aN X10 hx (dk d8_4) rfl rfl (aN X10 hx (dk d8_5) rfl rfl k)) ?_
  obtain ⟨T11, h11, X11, e11, W11, st11⟩ := putF X10 hx hZ hown (host := "") (Or.inl (W 49 rfl)) Via.refl hh10 pr2 pr1 (Or.inr ⟨(W 50 rfl), rfl, hnm⟩) (W 38 rfl) (ty := (.object "java/lang/String")) (by decide) rfl rfl (g := (mkF m 6 #[vr a1, vr x0, vr x1, vr x2, vr x3, vr x4, vr x5, vr x6, .val (.long x7), .second, .val (.long x8), .second, vr x9, vi x10, .val (.long x11), .second, .val .null] [(.ref x0), (.ref a1)])) rfl rfl (dk d8_6)
  have N11 := Fr.snoc X11 N10 pr15
  have O12 := pr0.wr W11 pr15
  have Z12 : n0 ≤ h11.size := Nat.le_trans Z0 (Keep.of_wr W11).1
  have F11 := pr2.same W11
  refine gz X11 11 #[vr a1, vr x0, vr x1, vr x2, vr x3, vr x4, vr x5, vr x6, .val (.long x7), .second, .val (.long x8), .second, vr x9, vi x10, .val (.long x11), .second, .val .null] [(.ref x1), (.ref a1)] (fun _ k => st11 _ (aN X11 hx (dk d8_9) rfl rfl (aN X11 hx (dk d8_10) rfl rfl k))) ?_
  have f13 := (pr3.other W11 (Or.inr (slot_ne (Or.inr (W 52 rfl)) (Or.inr (W 50 rfl)) (by decide) (t := (.object "java/lang/String")) (t' := (.object "java/lang/String")) (by decide) (by decide))))
  obtain ⟨T14, h14, X14, e14, W14, st14⟩ := putF X11 hx hZ hown (host := "") (Or.inl (W 51 rfl)) Via.refl e11 f13 (pr1.wr W11) (Or.inr ⟨(W 52 rfl), rfl, hnm⟩) (W 38 rfl) (ty := (.object "java/lang/String")) (by decide) rfl rfl (g := (mkF m 11 #[vr a1, vr x0, vr x1, vr x2, vr x3, vr x4, vr x5, vr x6, .val (.long x7), .second, .val (.long x8), .second, vr x9, vi x10, .val (.long x11), .second, .val .null] [(.ref x1), (.ref a1)])) rfl rfl (dk d8_11)
  have N14 := Fr.snoc X14 N11 pr15
  have O15 := O12.wr W14 pr15
  have Z15 : n0 ≤ h14.size := Nat.le_trans Z12 (Keep.of_wr W14).1
  have F14 := f13.same W14
  refine gz X14 16 #[vr a1, vr x0, vr x1, vr x2, vr x3, vr x4, vr x5, vr x6, .val (.long x7), .second, .val (.long x8), .second, vr x9, vi x10, .val (.long x11), .second, .val .null] [(.ref x2), (.ref a1)] (fun _ k => st14 _ (aN X14 hx (dk d8_14) rfl rfl (aN X14 hx (dk d8_15) rfl rfl k))) ?_
  have f16 := ((pr4.other W11 (Or.inr (slot_ne (Or.inr (W 54 rfl)) (Or.inr (W 50 rfl)) (by decide) (t := (.object "java/lang/String")) (t' := (.object "java/lang/String")) (by decide) (by decide)))).other W14 (Or.inr (slot_ne (Or.inr (W 54 rfl)) (Or.inr (W 52 rfl)) (by decide) (t := (.object "java/lang/String")) (t' := (.object "java/lang/String")) (by decide) (by decide))))
  obtain ⟨T17, h17, X17, e17, W17, st17⟩ := putF X14 hx hZ hown (host := "") (Or.inl (W 53 rfl)) Via.refl e14 f16 ((pr1.wr W11).wr W14) (Or.inr ⟨(W 54 rfl), rfl, hnm⟩) (W 38 rfl) (ty := (.object "java/lang/String")) (by decide) rfl rfl (g := (mkF m 16 #[vr a1, vr x0, vr x1, vr x2, vr x3, vr x4, vr x5, vr x6, .val (.long x7), .second, .val (.long x8), .second, vr x9, vi x10, .val (.long x11), .second, .val .null] [(.ref x2), (.ref a1)])) rfl rfl (dk d8_16)
  have N17 := Fr.snoc X17 N14 pr15
  have O18 := O15.wr W17 pr15
  have Z18 : n0 ≤ h17.size := Nat.le_trans Z15 (Keep.of_wr W17).1
  have F17 := f16.same W17
  refine gz X17 22 #[vr a1, vr x0, vr x1, vr x2, vr x3, vr x4, vr x5, vr x6, .val (.long x7), .second, .val (.long x8), .second, vr x9, vi x10, .val (.long x11), .second, .val .null] [(.ref x3), (.ref a1)] (fun _ k => st17 _ (aN X17 hx (dk d8_19) rfl rfl (aI X17 hx (dk d8_20) rfl rfl k))) ?_
  have f19 := (((pr5.other W11 (Or.inr (slot_ne (Or.inr (W 56 rfl)) (Or.inr (W 50 rfl)) (by decide) (t := (.object "java/lang/String")) (t' := (.object "java/lang/String")) (by decide) (by decide)))).other W14 (Or.inr (slot_ne (Or.inr (W 56 rfl)) (Or.inr (W 52 rfl)) (by decide) (t := (.object "java/lang/String")) (t' := (.object "java/lang/String")) (by decide) (by decide)))).other W17 (Or.inr (slot_ne (Or.inr (W 56 rfl)) (Or.inr (W 54 rfl)) (by decide) (t := (.object "java/lang/String")) (t' := (.object "java/lang/String")) (by decide) (by decide))))
  obtain ⟨T20, h20, X20, e20, W20, st20⟩ := putF X17 hx hZ hown (host := "") (Or.inl (W 55 rfl)) Via.refl e17 f19 (((pr1.wr W11).wr W14).wr W17) (Or.inr ⟨(W 56 rfl), rfl, hnm⟩) (W 38 rfl) (ty := (.object "java/lang/String")) (by decide) rfl rfl (g := (mkF m 22 #[vr a1, vr x0, vr x1, vr x2, vr x3, vr x4, vr x5, vr x6, .val (.long x7), .second, .val (.long x8), .second, vr x9, vi x10, .val (.long x11), .second, .val .null] [(.ref x3), (.ref a1)])) rfl rfl (dk d8_22)
  have N20 := Fr.snoc X20 N17 pr15
  have O21 := O18.wr W20 pr15
  have Z21 : n0 ≤ h20.size := Nat.le_trans Z18 (Keep.of_wr W20).1
  have F20 := f19.same W20
  refine gz X20 28 #[vr a1, vr x0, vr x1, vr x2, vr x3, vr x4, vr x5, vr x6, .val (.long x7), .second, .val (.long x8), .second, vr x9, vi x10, .val (.long x11), .second, .val .null] [(.ref x4), (.ref a1)] (fun _ k => st20 _ (aN X20 hx (dk d8_25) rfl rfl (aI X20 hx (dk d8_26) rfl rfl k))) ?_
  have f22 := ((((pr6.other W11 (Or.inr (slot_ne (Or.inr (W 58 rfl)) (Or.inr (W 50 rfl)) (by decide) (t := (.object "java/lang/String")) (t' := (.object "java/lang/String")) (by decide) (by decide)))).other W14 (Or.inr (slot_ne (Or.inr (W 58 rfl)) (Or.inr (W 52 rfl)) (by decide) (t := (.object "java/lang/String")) (t' := (.object "java/lang/String")) (by decide) (by decide)))).other W17 (Or.inr (slot_ne (Or.inr (W 58 rfl)) (Or.inr (W 54 rfl)) (by decide) (t := (.object "java/lang/String")) (t' := (.object "java/lang/String")) (by decide) (by decide)))).other W20 (Or.inr (slot_ne (Or.inr (W 58 rfl)) (Or.inr (W 56 rfl)) (by decide) (t := (.object "java/lang/String")) (t' := (.object "java/lang/String")) (by decide) (by decide))))
  have f23 := ((((pr1.wr W11).wr W14).wr W17).wr W20)
  obtain ⟨T24, h24, X24, e24, W24, st24⟩ := putF X20 hx hZ hown (host := "") (Or.inl (W 57 rfl)) Via.refl e20 f22 f23 (Or.inr ⟨(W 58 rfl), rfl, hnm⟩) (W 38 rfl) (ty := (.object "java/lang/String")) (by decide) rfl rfl (g := (mkF m 28 #[vr a1, vr x0, vr x1, vr x2, vr x3, vr x4, vr x5, vr x6, .val (.long x7), .second, .val (.long x8), .second, vr x9, vi x10, .val (.long x11), .second, .val .null] [(.ref x4), (.ref a1)])) rfl rfl (dk d8_28)
  have N24 := Fr.snoc X24 N20 pr15
  have O25 := O21.wr W24 pr15
  have Z25 : n0 ≤ h24.size := Nat.le_trans Z21 (Keep.of_wr W24).1
  have F24 := f22.same W24
  refine gz X24 34 #[vr a1, vr x0, vr x1, vr x2, vr x3, vr x4, vr x5, vr x6, .val (.long x7), .second, .val (.long x8), .second, vr x9, vi x10, .val (.long x11), .second, .val .null] [(.ref x5), (.ref a1)] (fun _ k => st24 _ (aN X24 hx (dk d8_31) rfl rfl (aI X24 hx (dk d8_32) rfl rfl k))) ?_
  have f26 := (((((pr7.other W11 (Or.inr (slot_ne (Or.inr (W 60 rfl)) (Or.inr (W 50 rfl)) (by decide) (t := (.object "java/lang/String")) (t' := (.object "java/lang/String")) (by decide) (by decide)))).other W14 (Or.inr (slot_ne (Or.inr (W 60 rfl)) (Or.inr (W 52 rfl)) (by decide) (t := (.object "java/lang/String")) (t' := (.object "java/lang/String")) (by decide) (by decide)))).other W17 (Or.inr (slot_ne (Or.inr (W 60 rfl)) (Or.inr (W 54 rfl)) (by decide) (t := (.object "java/lang/String")) (t' := (.object "java/lang/String")) (by decide) (by decide)))).other W20 (Or.inr (slot_ne (Or.inr (W 60 rfl)) (Or.inr (W 56 rfl)) (by decide) (t := (.object "java/lang/String")) (t' := (.object "java/lang/String")) (by decide) (by decide)))).other W24 (Or.inr (slot_ne (Or.inr (W 60 rfl)) (Or.inr (W 58 rfl)) (by decide) (t := (.object "java/lang/String")) (t' := (.object "java/lang/String")) (by decide) (by decide))))
  obtain ⟨T27, h27, X27, e27, W27, st27⟩ := putF X24 hx hZ hown (host := "") (Or.inl (W 59 rfl)) Via.refl e24 f26 (f23.wr W24) (Or.inr ⟨(W 60 rfl), rfl, hnm⟩) (W 38 rfl) (ty := (.object "java/lang/String")) (by decide) rfl rfl (g := (mkF m 34 #[vr a1, vr x0, vr x1, vr x2, vr x3, vr x4, vr x5, vr x6, .val (.long x7), .second, .val (.long x8), .second, vr x9, vi x10, .val (.long x11), .second, .val .null] [(.ref x5), (.ref a1)])) rfl rfl (dk d8_34)
  have N27 := Fr.snoc X27 N24 pr15
  have O28 := O25.wr W27 pr15
  have Z28 : n0 ≤ h27.size := Nat.le_trans Z25 (Keep.of_wr W27).1
  have F27 := f26.same W27
  refine gz X27 40 #[vr a1, vr x0, vr x1, vr x2, vr x3, vr x4, vr x5, vr x6, .val (.long x7), .second, .val (.long x8), .second, vr x9, vi x10, .val (.long x11), .second, .val .null] [(.ref x6), (.ref a1)] (fun _ k => st27 _ (aN X27 hx (dk d8_37) rfl rfl (aI X27 hx (dk d8_38) rfl rfl k))) ?_
  have f29 := ((((((pr8.other W11 (Or.inr (slot_ne (Or.inr (W 62 rfl)) (Or.inr (W 50 rfl)) (by decide) (t := (.object "com/example/aurel/aurel/catalog/ProductType")) (t' := (.object "java/lang/String")) (by decide) (by decide)))).other W14 (Or.inr (slot_ne (Or.inr (W 62 rfl)) (Or.inr (W 52 rfl)) (by decide) (t := (.object "com/example/aurel/aurel/catalog/ProductType")) (t' := (.object "java/lang/String")) (by decide) (by decide)))).other W17 (Or.inr (slot_ne (Or.inr (W 62 rfl)) (Or.inr (W 54 rfl)) (by decide) (t := (.object "com/example/aurel/aurel/catalog/ProductType")) (t' := (.object "java/lang/String")) (by decide) (by decide)))).other W20 (Or.inr (slot_ne (Or.inr (W 62 rfl)) (Or.inr (W 56 rfl)) (by decide) (t := (.object "com/example/aurel/aurel/catalog/ProductType")) (t' := (.object "java/lang/String")) (by decide) (by decide)))).other W24 (Or.inr (slot_ne (Or.inr (W 62 rfl)) (Or.inr (W 58 rfl)) (by decide) (t := (.object "com/example/aurel/aurel/catalog/ProductType")) (t' := (.object "java/lang/String")) (by decide) (by decide)))).other W27 (Or.inr (slot_ne (Or.inr (W 62 rfl)) (Or.inr (W 60 rfl)) (by decide) (t := (.object "com/example/aurel/aurel/catalog/ProductType")) (t' := (.object "java/lang/String")) (by decide) (by decide))))
  obtain ⟨T30, h30, X30, e30, W30, st30⟩ := putF X27 hx hZ hown (host := "") (Or.inl (W 61 rfl)) Via.refl e27 f29 ((f23.wr W24).wr W27) (Or.inr ⟨(W 62 rfl), rfl, hnm⟩) (W 38 rfl) (ty := (.object "com/example/aurel/aurel/catalog/ProductType")) (by decide) rfl rfl (g := (mkF m 40 #[vr a1, vr x0, vr x1, vr x2, vr x3, vr x4, vr x5, vr x6, .val (.long x7), .second, .val (.long x8), .second, vr x9, vi x10, .val (.long x11), .second, .val .null] [(.ref x6), (.ref a1)])) rfl rfl (dk d8_40)
  have N30 := Fr.snoc X30 N27 pr15
  have O31 := O28.wr W30 pr15
  have Z31 : n0 ≤ h30.size := Nat.le_trans Z28 (Keep.of_wr W30).1
  have F30 := f29.same W30
  refine gz X30 46 #[vr a1, vr x0, vr x1, vr x2, vr x3, vr x4, vr x5, vr x6, .val (.long x7), .second, .val (.long x8), .second, vr x9, vi x10, .val (.long x11), .second, .val .null] [(.long x7), (.ref a1)] (fun _ k => st30 _ (aN X30 hx (dk d8_43) rfl rfl (XS.lload X30.here hx rfl (dk d8_44) rfl k))) ?_
  have f32 := (((((((pr9.other W11 (Or.inr (slot_ne (Or.inr (W 64 rfl)) (Or.inr (W 50 rfl)) (by decide) (t := .long) (t' := (.object "java/lang/String")) (by decide) (by decide)))).other W14 (Or.inr (slot_ne (Or.inr (W 64 rfl)) (Or.inr (W 52 rfl)) (by decide) (t := .long) (t' := (.object "java/lang/String")) (by decide) (by decide)))).other W17 (Or.inr (slot_ne (Or.inr (W 64 rfl)) (Or.inr (W 54 rfl)) (by decide) (t := .long) (t' := (.object "java/lang/String")) (by decide) (by decide)))).other W20 (Or.inr (slot_ne (Or.inr (W 64 rfl)) (Or.inr (W 56 rfl)) (by decide) (t := .long) (t' := (.object "java/lang/String")) (by decide) (by decide)))).other W24 (Or.inr (slot_ne (Or.inr (W 64 rfl)) (Or.inr (W 58 rfl)) (by decide) (t := .long) (t' := (.object "java/lang/String")) (by decide) (by decide)))).other W27 (Or.inr (slot_ne (Or.inr (W 64 rfl)) (Or.inr (W 60 rfl)) (by decide) (t := .long) (t' := (.object "java/lang/String")) (by decide) (by decide)))).other W30 (Or.inr (slot_ne (Or.inr (W 64 rfl)) (Or.inr (W 62 rfl)) (by decide) (t := .long) (t' := (.object "com/example/aurel/aurel/catalog/ProductType")) (by decide) (by decide))))
  obtain ⟨T33, h33, X33, e33, W33, st33⟩ := putF X30 hx hZ hown (host := "") (Or.inl (W 63 rfl)) Via.refl e30 f32 (((f23.wr W24).wr W27).wr W30) (Or.inr ⟨(W 64 rfl), rfl, hnm⟩) (W 38 rfl) (ty := .long) (by decide) rfl rfl (g := (mkF m 46 #[vr a1, vr x0, vr x1, vr x2, vr x3, vr x4, vr x5, vr x6, .val (.long x7), .second, .val (.long x8), .second, vr x9, vi x10, .val (.long x11), .second, .val .null] [(.long x7), (.ref a1)])) rfl rfl (dk d8_46)
  have N33 := Fr.snoc X33 N30 pr15
  have O34 := O31.wr W33 pr15
  have Z34 : n0 ≤ h33.size := Nat.le_trans Z31 (Keep.of_wr W33).1
  have F33 := f32.same W33
  refine gz X33 52 #[vr a1, vr x0, vr x1, vr x2, vr x3, vr x4, vr x5, vr x6, .val (.long x7), .second, .val (.long x8), .second, vr x9, vi x10, .val (.long x11), .second, .val .null] [(.long x8), (.ref a1)] (fun _ k => st33 _ (aN X33 hx (dk d8_49) rfl rfl (XS.lload X33.here hx rfl (dk d8_50) rfl k))) ?_
  have f35 := ((((((((pr10.other W11 (Or.inr (slot_ne (Or.inr (W 66 rfl)) (Or.inr (W 50 rfl)) (by decide) (t := .long) (t' := (.object "java/lang/String")) (by decide) (by decide)))).other W14 (Or.inr (slot_ne (Or.inr (W 66 rfl)) (Or.inr (W 52 rfl)) (by decide) (t := .long) (t' := (.object "java/lang/String")) (by decide) (by decide)))).other W17 (Or.inr (slot_ne (Or.inr (W 66 rfl)) (Or.inr (W 54 rfl)) (by decide) (t := .long) (t' := (.object "java/lang/String")) (by decide) (by decide)))).other W20 (Or.inr (slot_ne (Or.inr (W 66 rfl)) (Or.inr (W 56 rfl)) (by decide) (t := .long) (t' := (.object "java/lang/String")) (by decide) (by decide)))).other W24 (Or.inr (slot_ne (Or.inr (W 66 rfl)) (Or.inr (W 58 rfl)) (by decide) (t := .long) (t' := (.object "java/lang/String")) (by decide) (by decide)))).other W27 (Or.inr (slot_ne (Or.inr (W 66 rfl)) (Or.inr (W 60 rfl)) (by decide) (t := .long) (t' := (.object "java/lang/String")) (by decide) (by decide)))).other W30 (Or.inr (slot_ne (Or.inr (W 66 rfl)) (Or.inr (W 62 rfl)) (by decide) (t := .long) (t' := (.object "com/example/aurel/aurel/catalog/ProductType")) (by decide) (by decide)))).other W33 (Or.inr (slot_ne (Or.inr (W 66 rfl)) (Or.inr (W 64 rfl)) (by decide) (t := .long) (t' := .long) (by decide) (by decide))))
  have f36 := ((((f23.wr W24).wr W27).wr W30).wr W33)
  obtain ⟨T37, h37, X37, e37, W37, st37⟩ := putF X33 hx hZ hown (host := "") (Or.inl (W 65 rfl)) Via.refl e33 f35 f36 (Or.inr ⟨(W 66 rfl), rfl, hnm⟩) (W 38 rfl) (ty := .long) (by decide) rfl rfl (g := (mkF m 52 #[vr a1, vr x0, vr x1, vr x2, vr x3, vr x4, vr x5, vr x6, .val (.long x7), .second, .val (.long x8), .second, vr x9, vi x10, .val (.long x11), .second, .val .null] [(.long x8), (.ref a1)])) rfl rfl (dk d8_52)
  have N37 := Fr.snoc X37 N33 pr15
  have O38 := O34.wr W37 pr15
  have Z38 : n0 ≤ h37.size := Nat.le_trans Z34 (Keep.of_wr W37).1
  have F37 := f35.same W37
  refine gz X37 58 #[vr a1, vr x0, vr x1, vr x2, vr x3, vr x4, vr x5, vr x6, .val (.long x7), .second, .val (.long x8), .second, vr x9, vi x10, .val (.long x11), .second, .val .null] [(.ref x9), (.ref a1)] (fun _ k => st37 _ (aN X37 hx (dk d8_55) rfl rfl (aI X37 hx (dk d8_56) rfl rfl k))) ?_
  have f39 := (((((((((pr11.other W11 (Or.inr (slot_ne (Or.inr (W 68 rfl)) (Or.inr (W 50 rfl)) (by decide) (t := (.object "java/lang/String")) (t' := (.object "java/lang/String")) (by decide) (by decide)))).other W14 (Or.inr (slot_ne (Or.inr (W 68 rfl)) (Or.inr (W 52 rfl)) (by decide) (t := (.object "java/lang/String")) (t' := (.object "java/lang/String")) (by decide) (by decide)))).other W17 (Or.inr (slot_ne (Or.inr (W 68 rfl)) (Or.inr (W 54 rfl)) (by decide) (t := (.object "java/lang/String")) (t' := (.object "java/lang/String")) (by decide) (by decide)))).other W20 (Or.inr (slot_ne (Or.inr (W 68 rfl)) (Or.inr (W 56 rfl)) (by decide) (t := (.object "java/lang/String")) (t' := (.object "java/lang/String")) (by decide) (by decide)))).other W24 (Or.inr (slot_ne (Or.inr (W 68 rfl)) (Or.inr (W 58 rfl)) (by decide) (t := (.object "java/lang/String")) (t' := (.object "java/lang/String")) (by decide) (by decide)))).other W27 (Or.inr (slot_ne (Or.inr (W 68 rfl)) (Or.inr (W 60 rfl)) (by decide) (t := (.object "java/lang/String")) (t' := (.object "java/lang/String")) (by decide) (by decide)))).other W30 (Or.inr (slot_ne (Or.inr (W 68 rfl)) (Or.inr (W 62 rfl)) (by decide) (t := (.object "java/lang/String")) (t' := (.object "com/example/aurel/aurel/catalog/ProductType")) (by decide) (by decide)))).other W33 (Or.inr (slot_ne (Or.inr (W 68 rfl)) (Or.inr (W 64 rfl)) (by decide) (t := (.object "java/lang/String")) (t' := .long) (by decide) (by decide)))).other W37 (Or.inr (slot_ne (Or.inr (W 68 rfl)) (Or.inr (W 66 rfl)) (by decide) (t := (.object "java/lang/String")) (t' := .long) (by decide) (by decide))))
  obtain ⟨T40, h40, X40, e40, W40, st40⟩ := putF X37 hx hZ hown (host := "") (Or.inl (W 67 rfl)) Via.refl e37 f39 (f36.wr W37) (Or.inr ⟨(W 68 rfl), rfl, hnm⟩) (W 38 rfl) (ty := (.object "java/lang/String")) (by decide) rfl rfl (g := (mkF m 58 #[vr a1, vr x0, vr x1, vr x2, vr x3, vr x4, vr x5, vr x6, .val (.long x7), .second, .val (.long x8), .second, vr x9, vi x10, .val (.long x11), .second, .val .null] [(.ref x9), (.ref a1)])) rfl rfl (dk d8_58)
  have N40 := Fr.snoc X40 N37 pr15
  have O41 := O38.wr W40 pr15
  have Z41 : n0 ≤ h40.size := Nat.le_trans Z38 (Keep.of_wr W40).1
  have F40 := f39.same W40
  refine gz X40 64 #[vr a1, vr x0, vr x1, vr x2, vr x3, vr x4, vr x5, vr x6, .val (.long x7), .second, .val (.long x8), .second, vr x9, vi x10, .val (.long x11), .second, .val .null] [(.int x10), (.ref a1)] (fun _ k => st40 _ (aN X40 hx (dk d8_61) rfl rfl (lI X40 hx (dk d8_62) rfl k))) ?_
  have f42 := ((((((((((pr12.other W11 (Or.inr (slot_ne (Or.inr (W 70 rfl)) (Or.inr (W 50 rfl)) (by decide) (t := .boolean) (t' := (.object "java/lang/String")) (by decide) (by decide)))).other W14 (Or.inr (slot_ne (Or.inr (W 70 rfl)) (Or.inr (W 52 rfl)) (by decide) (t := .boolean) (t' := (.object "java/lang/String")) (by decide) (by decide)))).other W17 (Or.inr (slot_ne (Or.inr (W 70 rfl)) (Or.inr (W 54 rfl)) (by decide) (t := .boolean) (t' := (.object "java/lang/String")) (by decide) (by decide)))).other W20 (Or.inr (slot_ne (Or.inr (W 70 rfl)) (Or.inr (W 56 rfl)) (by decide) (t := .boolean) (t' := (.object "java/lang/String")) (by decide) (by decide)))).other W24 (Or.inr (slot_ne (Or.inr (W 70 rfl)) (Or.inr (W 58 rfl)) (by decide) (t := .boolean) (t' := (.object "java/lang/String")) (by decide) (by decide)))).other W27 (Or.inr (slot_ne (Or.inr (W 70 rfl)) (Or.inr (W 60 rfl)) (by decide) (t := .boolean) (t' := (.object "java/lang/String")) (by decide) (by decide)))).other W30 (Or.inr (slot_ne (Or.inr (W 70 rfl)) (Or.inr (W 62 rfl)) (by decide) (t := .boolean) (t' := (.object "com/example/aurel/aurel/catalog/ProductType")) (by decide) (by decide)))).other W33 (Or.inr (slot_ne (Or.inr (W 70 rfl)) (Or.inr (W 64 rfl)) (by decide) (t := .boolean) (t' := .long) (by decide) (by decide)))).other W37 (Or.inr (slot_ne (Or.inr (W 70 rfl)) (Or.inr (W 66 rfl)) (by decide) (t := .boolean) (t' := .long) (by decide) (by decide)))).other W40 (Or.inr (slot_ne (Or.inr (W 70 rfl)) (Or.inr (W 68 rfl)) (by decide) (t := .boolean) (t' := (.object "java/lang/String")) (by decide) (by decide))))
  obtain ⟨T43, h43, X43, e43, W43, st43⟩ := putFN X40 hx hZ hown (W 69 rfl) Via.refl e40 f42 ((f36.wr W37).wr W40) (Or.inr ⟨(W 70 rfl), rfl, hnm⟩) (W 38 rfl) (ty := .boolean) (v' := (.int (nar .boolean x10))) (by decide) rfl (fits_nar_bool _) (g := (mkF m 64 #[vr a1, vr x0, vr x1, vr x2, vr x3, vr x4, vr x5, vr x6, .val (.long x7), .second, .val (.long x8), .second, vr x9, vi x10, .val (.long x11), .second, .val .null] [(.int x10), (.ref a1)])) rfl rfl (dk d8_64)
  have N43 := Fr.snoc X43 N40 pr15
  have O44 := O41.wr W43 pr15
  have Z44 : n0 ≤ h43.size := Nat.le_trans Z41 (Keep.of_wr W43).1
  have F43 := f42.same W43
  refine gz X43 70 #[vr a1, vr x0, vr x1, vr x2, vr x3, vr x4, vr x5, vr x6, .val (.long x7), .second, .val (.long x8), .second, vr x9, vi x10, .val (.long x11), .second, .val .null] [(.long x11), (.ref a1)] (fun _ k => st43 _ (aN X43 hx (dk d8_67) rfl rfl (XS.lload X43.here hx rfl (dk d8_68) rfl k))) ?_
  have f45 := (((((((((((pr13.other W11 (Or.inr (slot_ne (Or.inr (W 72 rfl)) (Or.inr (W 50 rfl)) (by decide) (t := .long) (t' := (.object "java/lang/String")) (by decide) (by decide)))).other W14 (Or.inr (slot_ne (Or.inr (W 72 rfl)) (Or.inr (W 52 rfl)) (by decide) (t := .long) (t' := (.object "java/lang/String")) (by decide) (by decide)))).other W17 (Or.inr (slot_ne (Or.inr (W 72 rfl)) (Or.inr (W 54 rfl)) (by decide) (t := .long) (t' := (.object "java/lang/String")) (by decide) (by decide)))).other W20 (Or.inr (slot_ne (Or.inr (W 72 rfl)) (Or.inr (W 56 rfl)) (by decide) (t := .long) (t' := (.object "java/lang/String")) (by decide) (by decide)))).other W24 (Or.inr (slot_ne (Or.inr (W 72 rfl)) (Or.inr (W 58 rfl)) (by decide) (t := .long) (t' := (.object "java/lang/String")) (by decide) (by decide)))).other W27 (Or.inr (slot_ne (Or.inr (W 72 rfl)) (Or.inr (W 60 rfl)) (by decide) (t := .long) (t' := (.object "java/lang/String")) (by decide) (by decide)))).other W30 (Or.inr (slot_ne (Or.inr (W 72 rfl)) (Or.inr (W 62 rfl)) (by decide) (t := .long) (t' := (.object "com/example/aurel/aurel/catalog/ProductType")) (by decide) (by decide)))).other W33 (Or.inr (slot_ne (Or.inr (W 72 rfl)) (Or.inr (W 64 rfl)) (by decide) (t := .long) (t' := .long) (by decide) (by decide)))).other W37 (Or.inr (slot_ne (Or.inr (W 72 rfl)) (Or.inr (W 66 rfl)) (by decide) (t := .long) (t' := .long) (by decide) (by decide)))).other W40 (Or.inr (slot_ne (Or.inr (W 72 rfl)) (Or.inr (W 68 rfl)) (by decide) (t := .long) (t' := (.object "java/lang/String")) (by decide) (by decide)))).other W43 (Or.inr (slot_ne (Or.inr (W 72 rfl)) (Or.inr (W 70 rfl)) (by decide) (t := .long) (t' := .boolean) (by decide) (by decide))))
  obtain ⟨T46, h46, X46, e46, W46, st46⟩ := putF X43 hx hZ hown (host := "") (Or.inl (W 71 rfl)) Via.refl e43 f45 (((f36.wr W37).wr W40).wr W43) (Or.inr ⟨(W 72 rfl), rfl, hnm⟩) (W 38 rfl) (ty := .long) (by decide) rfl rfl (g := (mkF m 70 #[vr a1, vr x0, vr x1, vr x2, vr x3, vr x4, vr x5, vr x6, .val (.long x7), .second, .val (.long x8), .second, vr x9, vi x10, .val (.long x11), .second, .val .null] [(.long x11), (.ref a1)])) rfl rfl (dk d8_70)
  have N46 := Fr.snoc X46 N43 pr15
  have O47 := O44.wr W46 pr15
  have Z47 : n0 ≤ h46.size := Nat.le_trans Z44 (Keep.of_wr W46).1
  have F46 := f45.same W46
  refine gz X46 76 #[vr a1, vr x0, vr x1, vr x2, vr x3, vr x4, vr x5, vr x6, .val (.long x7), .second, .val (.long x8), .second, vr x9, vi x10, .val (.long x11), .second, .val .null] [.null, (.ref a1)] (fun _ k => st46 _ (aN X46 hx (dk d8_73) rfl rfl (aI X46 hx (dk d8_74) rfl rfl k))) ?_
  have f48 := ((((((((((((pr14.other W11 (Or.inr (slot_ne (Or.inr (W 74 rfl)) (Or.inr (W 50 rfl)) (by decide) (t := (.object "com/example/aurel/aurel/orders/PaidPeriod")) (t' := (.object "java/lang/String")) (by decide) (by decide)))).other W14 (Or.inr (slot_ne (Or.inr (W 74 rfl)) (Or.inr (W 52 rfl)) (by decide) (t := (.object "com/example/aurel/aurel/orders/PaidPeriod")) (t' := (.object "java/lang/String")) (by decide) (by decide)))).other W17 (Or.inr (slot_ne (Or.inr (W 74 rfl)) (Or.inr (W 54 rfl)) (by decide) (t := (.object "com/example/aurel/aurel/orders/PaidPeriod")) (t' := (.object "java/lang/String")) (by decide) (by decide)))).other W20 (Or.inr (slot_ne (Or.inr (W 74 rfl)) (Or.inr (W 56 rfl)) (by decide) (t := (.object "com/example/aurel/aurel/orders/PaidPeriod")) (t' := (.object "java/lang/String")) (by decide) (by decide)))).other W24 (Or.inr (slot_ne (Or.inr (W 74 rfl)) (Or.inr (W 58 rfl)) (by decide) (t := (.object "com/example/aurel/aurel/orders/PaidPeriod")) (t' := (.object "java/lang/String")) (by decide) (by decide)))).other W27 (Or.inr (slot_ne (Or.inr (W 74 rfl)) (Or.inr (W 60 rfl)) (by decide) (t := (.object "com/example/aurel/aurel/orders/PaidPeriod")) (t' := (.object "java/lang/String")) (by decide) (by decide)))).other W30 (Or.inr (slot_ne (Or.inr (W 74 rfl)) (Or.inr (W 62 rfl)) (by decide) (t := (.object "com/example/aurel/aurel/orders/PaidPeriod")) (t' := (.object "com/example/aurel/aurel/catalog/ProductType")) (by decide) (by decide)))).other W33 (Or.inr (slot_ne (Or.inr (W 74 rfl)) (Or.inr (W 64 rfl)) (by decide) (t := (.object "com/example/aurel/aurel/orders/PaidPeriod")) (t' := .long) (by decide) (by decide)))).other W37 (Or.inr (slot_ne (Or.inr (W 74 rfl)) (Or.inr (W 66 rfl)) (by decide) (t := (.object "com/example/aurel/aurel/orders/PaidPeriod")) (t' := .long) (by decide) (by decide)))).other W40 (Or.inr (slot_ne (Or.inr (W 74 rfl)) (Or.inr (W 68 rfl)) (by decide) (t := (.object "com/example/aurel/aurel/orders/PaidPeriod")) (t' := (.object "java/lang/String")) (by decide) (by decide)))).other W43 (Or.inr (slot_ne (Or.inr (W 74 rfl)) (Or.inr (W 70 rfl)) (by decide) (t := (.object "com/example/aurel/aurel/orders/PaidPeriod")) (t' := .boolean) (by decide) (by decide)))).other W46 (Or.inr (slot_ne (Or.inr (W 74 rfl)) (Or.inr (W 72 rfl)) (by decide) (t := (.object "com/example/aurel/aurel/orders/PaidPeriod")) (t' := .long) (by decide) (by decide))))
  have f49 := ((((f36.wr W37).wr W40).wr W43).wr W46)
  obtain ⟨T50, h50, X50, e50, W50, st50⟩ := putF X46 hx hZ hown (host := "") (Or.inl (W 73 rfl)) Via.refl e46 f48 f49 (Or.inr ⟨(W 74 rfl), rfl, hnm⟩) (W 38 rfl) (ty := (.object "com/example/aurel/aurel/orders/PaidPeriod")) (by decide) rfl rfl (g := (mkF m 76 #[vr a1, vr x0, vr x1, vr x2, vr x3, vr x4, vr x5, vr x6, .val (.long x7), .second, .val (.long x8), .second, vr x9, vi x10, .val (.long x11), .second, .val .null] [.null, (.ref a1)])) rfl rfl (dk d8_76)
  have N50 := Fr.snoc X50 N46 pr15
  have O51 := O47.wr W50 pr15
  have Z51 : n0 ≤ h50.size := Nat.le_trans Z47 (Keep.of_wr W50).1
  have F50 := f48.same W50
  refine gz X50 79 #[vr a1, vr x0, vr x1, vr x2, vr x3, vr x4, vr x5, vr x6, .val (.long x7), .second, .val (.long x8), .second, vr x9, vi x10, .val (.long x11), .second, .val .null] [] (fun _ k => st50 _ k) ?_
  refine Go.retV X50 hx hlk hret (dk d8_79) (by decide) (by decide) ?_
  rw [e50]
  exact ⟨N50, rfl, ((((((((((((((Keep.refl h0 [a1]).wr W11 (Or.inl (List.mem_of_getElem? (i := 0) rfl))).wr W14 (Or.inl (List.mem_of_getElem? (i := 0) rfl))).wr W17 (Or.inl (List.mem_of_getElem? (i := 0) rfl))).wr W20 (Or.inl (List.mem_of_getElem? (i := 0) rfl))).wr W24 (Or.inl (List.mem_of_getElem? (i := 0) rfl))).wr W27 (Or.inl (List.mem_of_getElem? (i := 0) rfl))).wr W30 (Or.inl (List.mem_of_getElem? (i := 0) rfl))).wr W33 (Or.inl (List.mem_of_getElem? (i := 0) rfl))).wr W37 (Or.inl (List.mem_of_getElem? (i := 0) rfl))).wr W40 (Or.inl (List.mem_of_getElem? (i := 0) rfl))).wr W43 (Or.inl (List.mem_of_getElem? (i := 0) rfl))).wr W46 (Or.inl (List.mem_of_getElem? (i := 0) rfl))).wr W50 (Or.inl (List.mem_of_getElem? (i := 0) rfl))), (f49.wr W50), ((((((((((((F11.other W14 (Or.inr (slot_ne (Or.inr (W 50 rfl)) (Or.inr (W 52 rfl)) (by decide) (t := (.object "java/lang/String")) (t' := (.object "java/lang/String")) (by decide) (by decide)))).other W17 (Or.inr (slot_ne (Or.inr (W 50 rfl)) (Or.inr (W 54 rfl)) (by decide) (t := (.object "java/lang/String")) (t' := (.object "java/lang/String")) (by decide) (by decide)))).other W20 (Or.inr (slot_ne (Or.inr (W 50 rfl)) (Or.inr (W 56 rfl)) (by decide) (t := (.object "java/lang/String")) (t' := (.object "java/lang/String")) (by decide) (by decide)))).other W24 (Or.inr (slot_ne (Or.inr (W 50 rfl)) (Or.inr (W 58 rfl)) (by decide) (t := (.object "java/lang/String")) (t' := (.object "java/lang/String")) (by decide) (by decide)))).other W27 (Or.inr (slot_ne (Or.inr (W 50 rfl)) (Or.inr (W 60 rfl)) (by decide) (t := (.object "java/lang/String")) (t' := (.object "java/lang/String")) (by decide) (by decide)))).other W30 (Or.inr (slot_ne (Or.inr (W 50 rfl)) (Or.inr (W 62 rfl)) (by decide) (t := (.object "java/lang/String")) (t' := (.object "com/example/aurel/aurel/catalog/ProductType")) (by decide) (by decide)))).other W33 (Or.inr (slot_ne (Or.inr (W 50 rfl)) (Or.inr (W 64 rfl)) (by decide) (t := (.object "java/lang/String")) (t' := .long) (by decide) (by decide)))).other W37 (Or.inr (slot_ne (Or.inr (W 50 rfl)) (Or.inr (W 66 rfl)) (by decide) (t := (.object "java/lang/String")) (t' := .long) (by decide) (by decide)))).other W40 (Or.inr (slot_ne (Or.inr (W 50 rfl)) (Or.inr (W 68 rfl)) (by decide) (t := (.object "java/lang/String")) (t' := (.object "java/lang/String")) (by decide) (by decide)))).other W43 (Or.inr (slot_ne (Or.inr (W 50 rfl)) (Or.inr (W 70 rfl)) (by decide) (t := (.object "java/lang/String")) (t' := .boolean) (by decide) (by decide)))).other W46 (Or.inr (slot_ne (Or.inr (W 50 rfl)) (Or.inr (W 72 rfl)) (by decide) (t := (.object "java/lang/String")) (t' := .long) (by decide) (by decide)))).other W50 (Or.inr (slot_ne (Or.inr (W 50 rfl)) (Or.inr (W 74 rfl)) (by decide) (t := (.object "java/lang/String")) (t' := (.object "com/example/aurel/aurel/orders/PaidPeriod")) (by decide) (by decide)))), (((((((((((F14.other W17 (Or.inr (slot_ne (Or.inr (W 52 rfl)) (Or.inr (W 54 rfl)) (by decide) (t := (.object "java/lang/String")) (t' := (.object "java/lang/String")) (by decide) (by decide)))).other W20 (Or.inr (slot_ne (Or.inr (W 52 rfl)) (Or.inr (W 56 rfl)) (by decide) (t := (.object "java/lang/String")) (t' := (.object "java/lang/String")) (by decide) (by decide)))).other W24 (Or.inr (slot_ne (Or.inr (W 52 rfl)) (Or.inr (W 58 rfl)) (by decide) (t := (.object "java/lang/String")) (t' := (.object "java/lang/String")) (by decide) (by decide)))).other W27 (Or.inr (slot_ne (Or.inr (W 52 rfl)) (Or.inr (W 60 rfl)) (by decide) (t := (.object "java/lang/String")) (t' := (.object "java/lang/String")) (by decide) (by decide)))).other W30 (Or.inr (slot_ne (Or.inr (W 52 rfl)) (Or.inr (W 62 rfl)) (by decide) (t := (.object "java/lang/String")) (t' := (.object "com/example/aurel/aurel/catalog/ProductType")) (by decide) (by decide)))).other W33 (Or.inr (slot_ne (Or.inr (W 52 rfl)) (Or.inr (W 64 rfl)) (by decide) (t := (.object "java/lang/String")) (t' := .long) (by decide) (by decide)))).other W37 (Or.inr (slot_ne (Or.inr (W 52 rfl)) (Or.inr (W 66 rfl)) (by decide) (t := (.object "java/lang/String")) (t' := .long) (by decide) (by decide)))).other W40 (Or.inr (slot_ne (Or.inr (W 52 rfl)) (Or.inr (W 68 rfl)) (by decide) (t := (.object "java/lang/String")) (t' := (.object "java/lang/String")) (by decide) (by decide)))).other W43 (Or.inr (slot_ne (Or.inr (W 52 rfl)) (Or.inr (W 70 rfl)) (by decide) (t := (.object "java/lang/String")) (t' := .boolean) (by decide) (by decide)))).other W46 (Or.inr (slot_ne (Or.inr (W 52 rfl)) (Or.inr (W 72 rfl)) (by decide) (t := (.object "java/lang/String")) (t' := .long) (by decide) (by decide)))).other W50 (Or.inr (slot_ne (Or.inr (W 52 rfl)) (Or.inr (W 74 rfl)) (by decide) (t := (.object "java/lang/String")) (t' := (.object "com/example/aurel/aurel/orders/PaidPeriod")) (by decide) (by decide)))), ((((((((((F17.other W20 (Or.inr (slot_ne (Or.inr (W 54 rfl)) (Or.inr (W 56 rfl)) (by decide) (t := (.object "java/lang/String")) (t' := (.object "java/lang/String")) (by decide) (by decide)))).other W24 (Or.inr (slot_ne (Or.inr (W 54 rfl)) (Or.inr (W 58 rfl)) (by decide) (t := (.object "java/lang/String")) (t' := (.object "java/lang/String")) (by decide) (by decide)))).other W27 (Or.inr (slot_ne (Or.inr (W 54 rfl)) (Or.inr (W 60 rfl)) (by decide) (t := (.object "java/lang/String")) (t' := (.object "java/lang/String")) (by decide) (by decide)))).other W30 (Or.inr (slot_ne (Or.inr (W 54 rfl)) (Or.inr (W 62 rfl)) (by decide) (t := (.object "java/lang/String")) (t' := (.object "com/example/aurel/aurel/catalog/ProductType")) (by decide) (by decide)))).other W33 (Or.inr (slot_ne (Or.inr (W 54 rfl)) (Or.inr (W 64 rfl)) (by decide) (t := (.object "java/lang/String")) (t' := .long) (by decide) (by decide)))).other W37 (Or.inr (slot_ne (Or.inr (W 54 rfl)) (Or.inr (W 66 rfl)) (by decide) (t := (.object "java/lang/String")) (t' := .long) (by decide) (by decide)))).other W40 (Or.inr (slot_ne (Or.inr (W 54 rfl)) (Or.inr (W 68 rfl)) (by decide) (t := (.object "java/lang/String")) (t' := (.object "java/lang/String")) (by decide) (by decide)))).other W43 (Or.inr (slot_ne (Or.inr (W 54 rfl)) (Or.inr (W 70 rfl)) (by decide) (t := (.object "java/lang/String")) (t' := .boolean) (by decide) (by decide)))).other W46 (Or.inr (slot_ne (Or.inr (W 54 rfl)) (Or.inr (W 72 rfl)) (by decide) (t := (.object "java/lang/String")) (t' := .long) (by decide) (by decide)))).other W50 (Or.inr (slot_ne (Or.inr (W 54 rfl)) (Or.inr (W 74 rfl)) (by decide) (t := (.object "java/lang/String")) (t' := (.object "com/example/aurel/aurel/orders/PaidPeriod")) (by decide) (by decide)))), (((((((((F20.other W24 (Or.inr (slot_ne (Or.inr (W 56 rfl)) (Or.inr (W 58 rfl)) (by decide) (t := (.object "java/lang/String")) (t' := (.object "java/lang/String")) (by decide) (by decide)))).other W27 (Or.inr (slot_ne (Or.inr (W 56 rfl)) (Or.inr (W 60 rfl)) (by decide) (t := (.object "java/lang/String")) (t' := (.object "java/lang/String")) (by decide) (by decide)))).other W30 (Or.inr (slot_ne (Or.inr (W 56 rfl)) (Or.inr (W 62 rfl)) (by decide) (t := (.object "java/lang/String")) (t' := (.object "com/example/aurel/aurel/catalog/ProductType")) (by decide) (by decide)))).other W33 (Or.inr (slot_ne (Or.inr (W 56 rfl)) (Or.inr (W 64 rfl)) (by decide) (t := (.object "java/lang/String")) (t' := .long) (by decide) (by decide)))).other W37 (Or.inr (slot_ne (Or.inr (W 56 rfl)) (Or.inr (W 66 rfl)) (by decide) (t := (.object "java/lang/String")) (t' := .long) (by decide) (by decide)))).other W40 (Or.inr (slot_ne (Or.inr (W 56 rfl)) (Or.inr (W 68 rfl)) (by decide) (t := (.object "java/lang/String")) (t' := (.object "java/lang/String")) (by decide) (by decide)))).other W43 (Or.inr (slot_ne (Or.inr (W 56 rfl)) (Or.inr (W 70 rfl)) (by decide) (t := (.object "java/lang/String")) (t' := .boolean) (by decide) (by decide)))).other W46 (Or.inr (slot_ne (Or.inr (W 56 rfl)) (Or.inr (W 72 rfl)) (by decide) (t := (.object "java/lang/String")) (t' := .long) (by decide) (by decide)))).other W50 (Or.inr (slot_ne (Or.inr (W 56 rfl)) (Or.inr (W 74 rfl)) (by decide) (t := (.object "java/lang/String")) (t' := (.object "com/example/aurel/aurel/orders/PaidPeriod")) (by decide) (by decide)))), ((((((((F24.other W27 (Or.inr (slot_ne (Or.inr (W 58 rfl)) (Or.inr (W 60 rfl)) (by decide) (t := (.object "java/lang/String")) (t' := (.object "java/lang/String")) (by decide) (by decide)))).other W30 (Or.inr (slot_ne (Or.inr (W 58 rfl)) (Or.inr (W 62 rfl)) (by decide) (t := (.object "java/lang/String")) (t' := (.object "com/example/aurel/aurel/catalog/ProductType")) (by decide) (by decide)))).other W33 (Or.inr (slot_ne (Or.inr (W 58 rfl)) (Or.inr (W 64 rfl)) (by decide) (t := (.object "java/lang/String")) (t' := .long) (by decide) (by decide)))).other W37 (Or.inr (slot_ne (Or.inr (W 58 rfl)) (Or.inr (W 66 rfl)) (by decide) (t := (.object "java/lang/String")) (t' := .long) (by decide) (by decide)))).other W40 (Or.inr (slot_ne (Or.inr (W 58 rfl)) (Or.inr (W 68 rfl)) (by decide) (t := (.object "java/lang/String")) (t' := (.object "java/lang/String")) (by decide) (by decide)))).other W43 (Or.inr (slot_ne (Or.inr (W 58 rfl)) (Or.inr (W 70 rfl)) (by decide) (t := (.object "java/lang/String")) (t' := .boolean) (by decide) (by decide)))).other W46 (Or.inr (slot_ne (Or.inr (W 58 rfl)) (Or.inr (W 72 rfl)) (by decide) (t := (.object "java/lang/String")) (t' := .long) (by decide) (by decide)))).other W50 (Or.inr (slot_ne (Or.inr (W 58 rfl)) (Or.inr (W 74 rfl)) (by decide) (t := (.object "java/lang/String")) (t' := (.object "com/example/aurel/aurel/orders/PaidPeriod")) (by decide) (by decide)))), (((((((F27.other W30 (Or.inr (slot_ne (Or.inr (W 60 rfl)) (Or.inr (W 62 rfl)) (by decide) (t := (.object "java/lang/String")) (t' := (.object "com/example/aurel/aurel/catalog/ProductType")) (by decide) (by decide)))).other W33 (Or.inr (slot_ne (Or.inr (W 60 rfl)) (Or.inr (W 64 rfl)) (by decide) (t := (.object "java/lang/String")) (t' := .long) (by decide) (by decide)))).other W37 (Or.inr (slot_ne (Or.inr (W 60 rfl)) (Or.inr (W 66 rfl)) (by decide) (t := (.object "java/lang/String")) (t' := .long) (by decide) (by decide)))).other W40 (Or.inr (slot_ne (Or.inr (W 60 rfl)) (Or.inr (W 68 rfl)) (by decide) (t := (.object "java/lang/String")) (t' := (.object "java/lang/String")) (by decide) (by decide)))).other W43 (Or.inr (slot_ne (Or.inr (W 60 rfl)) (Or.inr (W 70 rfl)) (by decide) (t := (.object "java/lang/String")) (t' := .boolean) (by decide) (by decide)))).other W46 (Or.inr (slot_ne (Or.inr (W 60 rfl)) (Or.inr (W 72 rfl)) (by decide) (t := (.object "java/lang/String")) (t' := .long) (by decide) (by decide)))).other W50 (Or.inr (slot_ne (Or.inr (W 60 rfl)) (Or.inr (W 74 rfl)) (by decide) (t := (.object "java/lang/String")) (t' := (.object "com/example/aurel/aurel/orders/PaidPeriod")) (by decide) (by decide)))), ((((((F30.other W33 (Or.inr (slot_ne (Or.inr (W 62 rfl)) (Or.inr (W 64 rfl)) (by decide) (t := (.object "com/example/aurel/aurel/catalog/ProductType")) (t' := .long) (by decide) (by decide)))).other W37 (Or.inr (slot_ne (Or.inr (W 62 rfl)) (Or.inr (W 66 rfl)) (by decide) (t := (.object "com/example/aurel/aurel/catalog/ProductType")) (t' := .long) (by decide) (by decide)))).other W40 (Or.inr (slot_ne (Or.inr (W 62 rfl)) (Or.inr (W 68 rfl)) (by decide) (t := (.object "com/example/aurel/aurel/catalog/ProductType")) (t' := (.object "java/lang/String")) (by decide) (by decide)))).other W43 (Or.inr (slot_ne (Or.inr (W 62 rfl)) (Or.inr (W 70 rfl)) (by decide) (t := (.object "com/example/aurel/aurel/catalog/ProductType")) (t' := .boolean) (by decide) (by decide)))).other W46 (Or.inr (slot_ne (Or.inr (W 62 rfl)) (Or.inr (W 72 rfl)) (by decide) (t := (.object "com/example/aurel/aurel/catalog/ProductType")) (t' := .long) (by decide) (by decide)))).other W50 (Or.inr (slot_ne (Or.inr (W 62 rfl)) (Or.inr (W 74 rfl)) (by decide) (t := (.object "com/example/aurel/aurel/catalog/ProductType")) (t' := (.object "com/example/aurel/aurel/orders/PaidPeriod")) (by decide) (by decide)))), (((((F33.other W37 (Or.inr (slot_ne (Or.inr (W 64 rfl)) (Or.inr (W 66 rfl)) (by decide) (t := .long) (t' := .long) (by decide) (by decide)))).other W40 (Or.inr (slot_ne (Or.inr (W 64 rfl)) (Or.inr (W 68 rfl)) (by decide) (t := .long) (t' := (.object "java/lang/String")) (by decide) (by decide)))).other W43 (Or.inr (slot_ne (Or.inr (W 64 rfl)) (Or.inr (W 70 rfl)) (by decide) (t := .long) (t' := .boolean) (by decide) (by decide)))).other W46 (Or.inr (slot_ne (Or.inr (W 64 rfl)) (Or.inr (W 72 rfl)) (by decide) (t := .long) (t' := .long) (by decide) (by decide)))).other W50 (Or.inr (slot_ne (Or.inr (W 64 rfl)) (Or.inr (W 74 rfl)) (by decide) (t := .long) (t' := (.object "com/example/aurel/aurel/orders/PaidPeriod")) (by decide) (by decide)))), ((((F37.other W40 (Or.inr (slot_ne (Or.inr (W 66 rfl)) (Or.inr (W 68 rfl)) (by decide) (t := .long) (t' := (.object "java/lang/String")) (by decide) (by decide)))).other W43 (Or.inr (slot_ne (Or.inr (W 66 rfl)) (Or.inr (W 70 rfl)) (by decide) (t := .long) (t' := .boolean) (by decide) (by decide)))).other W46 (Or.inr (slot_ne (Or.inr (W 66 rfl)) (Or.inr (W 72 rfl)) (by decide) (t := .long) (t' := .long) (by decide) (by decide)))).other W50 (Or.inr (slot_ne (Or.inr (W 66 rfl)) (Or.inr (W 74 rfl)) (by decide) (t := .long) (t' := (.object "com/example/aurel/aurel/orders/PaidPeriod")) (by decide) (by decide)))), (((F40.other W43 (Or.inr (slot_ne (Or.inr (W 68 rfl)) (Or.inr (W 70 rfl)) (by decide) (t := (.object "java/lang/String")) (t' := .boolean) (by decide) (by decide)))).other W46 (Or.inr (slot_ne (Or.inr (W 68 rfl)) (Or.inr (W 72 rfl)) (by decide) (t := (.object "java/lang/String")) (t' := .long) (by decide) (by decide)))).other W50 (Or.inr (slot_ne (Or.inr (W 68 rfl)) (Or.inr (W 74 rfl)) (by decide) (t := (.object "java/lang/String")) (t' := (.object "com/example/aurel/aurel/orders/PaidPeriod")) (by decide) (by decide)))), ((F43.other W46 (Or.inr (slot_ne (Or.inr (W 70 rfl)) (Or.inr (W 72 rfl)) (by decide) (t := .boolean) (t' := .long) (by decide) (by decide)))).other W50 (Or.inr (slot_ne (Or.inr (W 70 rfl)) (Or.inr (W 74 rfl)) (by decide) (t := .boolean) (t' := (.object "com/example/aurel/aurel/orders/PaidPeriod")) (by decide) (by decide)))), (F46.other W50 (Or.inr (slot_ne (Or.inr (W 72 rfl)) (Or.inr (W 74 rfl)) (by decide) (t := .long) (t' := (.object "com/example/aurel/aurel/orders/PaidPeriod")) (by decide) (by decide)))), F50⟩
theorem ef_rm_wdc_n (m : MethodId) (x0 : Addr) : entryFrame m #[(.ref x0)] 1 = mkF m 0 #[vr x0] [] := by first | (simp [entryFrame, mkF, argsToLocals, Value.category]; done) | rfl
theorem rm_wdc_n {l : Launch} {Z : State} {a0 : Array Value} (hw : HW a0 Z) (a1 : Addr) (x0 : Addr) (x1 : Addr) (x2 : Addr) (x3 : Addr) (x4 : Addr) (x5 : Addr) (x6 : Addr) (x7 : Int64) (x8 : Int64) (x9 : Addr) (x11 : Int64) (h0 : Heap) (n0 : Nat) (Z0 : n0 ≤ h0.size) (pr0 : Old Z n0 h0) (pr1 : Fld Z h0 a1 "com/example/aurel/aurel/orders/Order" "purchaseOrderId" "Ljava/lang/String;" (.ref x0)) (pr2 : Fld Z h0 a1 "com/example/aurel/aurel/orders/Order" "purchaseToken" "Ljava/lang/String;" (.ref x1)) (pr3 : Fld Z h0 a1 "com/example/aurel/aurel/orders/Order" "userId" "Ljava/lang/String;" (.ref x2)) (pr4 : Fld Z h0 a1 "com/example/aurel/aurel/orders/Order" "applicationId" "Ljava/lang/String;" (.ref x3)) (pr5 : Fld Z h0 a1 "com/example/aurel/aurel/orders/Order" "packageName" "Ljava/lang/String;" (.ref x4)) (pr6 : Fld Z h0 a1 "com/example/aurel/aurel/orders/Order" "productId" "Ljava/lang/String;" (.ref x5)) (pr7 : Fld Z h0 a1 "com/example/aurel/aurel/orders/Order" "productType" "Lcom/example/aurel/aurel/catalog/ProductType;" (.ref x6)) (pr8 : Fld Z h0 a1 "com/example/aurel/aurel/orders/Order" "purchaseTime" "J" (.long x7)) (pr9 : Fld Z h0 a1 "com/example/aurel/aurel/orders/Order" "price" "J" (.long x8)) (pr10 : Fld Z h0 a1 "com/example/aurel/aurel/orders/Order" "currency" "Ljava/lang/String;" (.ref x9)) (pr11 : Fld Z h0 a1 "com/example/aurel/aurel/orders/Order" "sequence" "J" (.long x11)) (pr12 : Fld Z h0 a1 "com/example/aurel/aurel/orders/Order" "paidPeriod" "Lcom/example/aurel/aurel/orders/PaidPeriod;" .null) :
    Met l Z Y14 B17 1 (some (.object "com/example/aurel/aurel/orders/Order")) [] ({ frames := 3, cells := 1, slots := 13, locals := 53 } : Room) #[(.ref a1)] h0 (fun vv h L => Fr n0 L ∧ ∃ b : Addr, vv = some (.ref b) ∧ Keep h0 h [] ∧ Exa Z h b "com/example/aurel/aurel/orders/Order" ∧ Fld Z h b "com/example/aurel/aurel/orders/Order" "purchaseOrderId" "Ljava/lang/String;" (.ref x0) ∧ Fld Z h b "com/example/aurel/aurel/orders/Order" "purchaseToken" "Ljava/lang/String;" (.ref x1) ∧ Fld Z h b "com/example/aurel/aurel/orders/Order" "userId" "Ljava/lang/String;" (.ref x2) ∧ Fld Z h b "com/example/aurel/aurel/orders/Order" "applicationId" "Ljava/lang/String;" (.ref x3) ∧ Fld Z h b "com/example/aurel/aurel/orders/Order" "packageName" "Ljava/lang/String;" (.ref x4) ∧ Fld Z h b "com/example/aurel/aurel/orders/Order" "productId" "Ljava/lang/String;" (.ref x5) ∧ Fld Z h b "com/example/aurel/aurel/orders/Order" "productType" "Lcom/example/aurel/aurel/catalog/ProductType;" (.ref x6) ∧ Fld Z h b "com/example/aurel/aurel/orders/Order" "purchaseTime" "J" (.long x7) ∧ Fld Z h b "com/example/aurel/aurel/orders/Order" "price" "J" (.long x8) ∧ Fld Z h b "com/example/aurel/aurel/orders/Order" "currency" "Ljava/lang/String;" (.ref x9) ∧ Fld Z h b "com/example/aurel/aurel/orders/Order" "deliveryConfirmed" "Z" (.int 1) ∧ Fld Z h b "com/example/aurel/aurel/orders/Order" "sequence" "J" (.long x11) ∧ Fld Z h b "com/example/aurel/aurel/orders/Order" "paidPeriod" "Lcom/example/aurel/aurel/orders/PaidPeriod;" .null ∧ h0.size ≤ b) := by
  refine Met.enter (f0 := fun m => mkF m 0 #[vr a1] []) (plainFor_of_name pn2) (fun m => ef_rm_wdc_n m a1) ?_
  intro p e s m below meth c s₁ hx hby (hml : c.maxLocals = 1) (hown : s.vm.findClass "com/example/aurel/aurel/orders/Order" = some m.cls) hnm hret hlk hZ X0 e0
  have dk : Dk B17 c := fun h => hb hby h
  have W := @wd _ _ _ hw
  have N0 := Fr.nil n0
  obtain ⟨T10, h10, X10, e10, E10, A10, D10, -, st10⟩ := newO X0 hx hZ hown (W 80 rfl) (W 38 rfl) (W 39 rfl) e0 (g := (mkF m 0 #[vr a1] [])) rfl (dk d10_0) (by decide) (by decide)
  obtain ⟨b10, g10⟩ : ∃ z, z = h0.size := ⟨_, rfl⟩
  rw [← g10] at A10 D10 st10
  have sz_b10 : h0.size ≤ b10 := Nat.le_of_eq g10.symm
  have O11 := pr0.ext E10
  have Z11 : n0 ≤ h10.size := Nat.le_trans Z0 E10.1
  have F12 : Fld Z h10 b10 "com/example/aurel/aurel/orders/Order" "purchaseOrderId" "Ljava/lang/String;" .null := D10 (Or.inr (W 50 rfl)) (ty := (.object "java/lang/String")) (by decide)
  have F13 : Fld Z h10 b10 "com/example/aurel/aurel/orders/Order" "purchaseToken" "Ljava/lang/String;" .null := D10 (Or.inr (W 52 rfl)) (ty := (.object "java/lang/String")) (by decide)
  have F14 : Fld Z h10 b10 "com/example/aurel/aurel/orders/Order" "userId" "Ljava/lang/String;" .null := D10 (Or.inr (W 54 rfl)) (ty := (.object "java/lang/String")) (by decide)
  have F15 : Fld Z h10 b10 "com/example/aurel/aurel/orders/Order" "applicationId" "Ljava/lang/String;" .null := D10 (Or.inr (W 56 rfl)) (ty := (.object "java/lang/String")) (by decide)
  have F16 : Fld Z h10 b10 "com/example/aurel/aurel/orders/Order" "packageName" "Ljava/lang/String;" .null := D10 (Or.inr (W 58 rfl)) (ty := (.object "java/lang/String")) (by decide)
  have F17 : Fld Z h10 b10 "com/example/aurel/aurel/orders/Order" "productId" "Ljava/lang/String;" .null := D10 (Or.inr (W 60 rfl)) (ty := (.object "java/lang/String")) (by decide)
  have F18 : Fld Z h10 b10 "com/example/aurel/aurel/orders/Order" "productType" "Lcom/example/aurel/aurel/catalog/ProductType;" .null := D10 (Or.inr (W 62 rfl)) (ty := (.object "com/example/aurel/aurel/catalog/ProductType")) (by decide)
  have F19 : Fld Z h10 b10 "com/example/aurel/aurel/orders/Order" "purchaseTime" "J" (.long (0 : Int64)) := D10 (Or.inr (W 64 rfl)) (ty := .long) (by decide)
  have F20 : Fld Z h10 b10 "com/example/aurel/aurel/orders/Order" "price" "J" (.long (0 : Int64)) := D10 (Or.inr (W 66 rfl)) (ty := .long) (by decide)
  have F21 : Fld Z h10 b10 "com/example/aurel/aurel/orders/Order" "currency" "Ljava/lang/String;" .null := D10 (Or.inr (W 68 rfl)) (ty := (.object "java/lang/String")) (by decide)
  have F22 : Fld Z h10 b10 "com/example/aurel/aurel/orders/Order" "deliveryConfirmed" "Z" (.int 0) := D10 (Or.inr (W 70 rfl)) (ty := .boolean) (by decide)
  have F23 : Fld Z h10 b10 "com/example/aurel/aurel/orders/Order" "sequence" "J" (.long (0 : Int64)) := D10 (Or.inr (W 72 rfl)) (ty := .long) (by decide)
  have F24 : Fld Z h10 b10 "com/example/aurel/aurel/orders/Order" "paidPeriod" "Lcom/example/aurel/aurel/orders/PaidPeriod;" .null := D10 (Or.inr (W 74 rfl)) (ty := (.object "com/example/aurel/aurel/orders/PaidPeriod")) (by decide)
  refine gz X10 5 #[vr a1] [(.ref a1), (.ref b10), (.ref b10)] (fun _ k => st10 _ (XS.dup X10.here hx rfl (dk d10_3) rfl rfl (aN X10 hx (dk d10_4) rfl rfl k))) ?_
  obtain ⟨T25, X25, e25, st25⟩ := getF X10 hx hZ hown (host := "") (Or.inl (W 49 rfl)) Via.refl e10 (pr1.ext E10) (g := (mkF m 5 #[vr a1] [(.ref a1), (.ref b10), (.ref b10)])) rfl rfl (dk d10_5)
  refine gz X25 9 #[vr a1] [(.ref a1), (.ref x0), (.ref b10), (.ref b10)] (fun _ k => st25 _ (aN X25 hx (dk d10_8) rfl rfl k)) ?_
  obtain ⟨T26, X26, e26, st26⟩ := getF X25 hx hZ hown (host := "") (Or.inl (W 51 rfl)) Via.refl e25 (pr2.ext E10) (g := (mkF m 9 #[vr a1] [(.ref a1), (.ref x0), (.ref b10), (.ref b10)])) rfl rfl (dk d10_9)
  refine gz X26 13 #[vr a1] [(.ref a1), (.ref x1), (.ref x0), (.ref b10), (.ref b10)] (fun _ k => st26 _ (aN X26 hx (dk d10_12) rfl rfl k)) ?_
  obtain ⟨T27, X27, e27, st27⟩ := getF X26 hx hZ hown (host := "") (Or.inl (W 53 rfl)) Via.refl e26 (pr3.ext E10) (g := (mkF m 13 #[vr a1] [(.ref a1), (.ref x1), (.ref x0), (.ref b10), (.ref b10)])) rfl rfl (dk d10_13)
  refine gz X27 17 #[vr a1] [(.ref a1), (.ref x2), (.ref x1), (.ref x0), (.ref b10), (.ref b10)] (fun _ k => st27 _ (aN X27 hx (dk d10_16) rfl rfl k)) ?_
  obtain ⟨T28, X28, e28, st28⟩ := getF X27 hx hZ hown (host := "") (Or.inl (W 55 rfl)) Via.refl e27 (pr4.ext E10) (g := (mkF m 17 #[vr a1] [(.ref a1), (.ref x2), (.ref x1), (.ref x0), (.ref b10), (.ref b10)])) rfl rfl (dk d10_17)
  refine gz X28 21 #[vr a1] [(.ref a1), (.ref x3), (.ref x2), (.ref x1), (.ref x0), (.ref b10), (.ref b10)] (fun _ k => st28 _ (aN X28 hx (dk d10_20) rfl rfl k)) ?_
  obtain ⟨T29, X29, e29, st29⟩ := getF X28 hx hZ hown (host := "") (Or.inl (W 57 rfl)) Via.refl e28 (pr5.ext E10) (g := (mkF m 21 #[vr a1] [(.ref a1), (.ref x3), (.ref x2), (.ref x1), (.ref x0), (.ref b10), (.ref b10)])) rfl rfl (dk d10_21)
  refine gz X29 25 #[vr a1] [(.ref a1), (.ref x4), (.ref x3), (.ref x2), (.ref x1), (.ref x0), (.ref b10), (.ref b10)] (fun _ k => st29 _ (aN X29 hx (dk d10_24) rfl rfl k)) ?_
  obtain ⟨T30, X30, e30, st30⟩ := getF X29 hx hZ hown (host := "") (Or.inl (W 59 rfl)) Via.refl e29 (pr6.ext E10) (g := (mkF m 25 #[vr a1] [(.ref a1), (.ref x4), (.ref x3), (.ref x2), (.ref x1), (.ref x0), (.ref b10), (.ref b10)])) rfl rfl (dk d10_25)
  refine gz X30 29 #[vr a1] [(.ref a1), (.ref x5), (.ref x4), (.ref x3), (.ref x2), (.ref x1), (.ref x0), (.ref b10), (.ref b10)] (fun _ k => st30 _ (aN X30 hx (dk d10_28) rfl rfl k)) ?_
  obtain ⟨T31, X31, e31, st31⟩ := getF X30 hx hZ hown (host := "") (Or.inl (W 61 rfl)) Via.refl e30 (pr7.ext E10) (g := (mkF m 29 #[vr a1] [(.ref a1), (.ref x5), (.ref x4), (.ref x3), (.ref x2), (.ref x1), (.ref x0), (.ref b10), (.ref b10)])) rfl rfl (dk d10_29)
  refine gz X31 33 #[vr a1] [(.ref a1), (.ref x6), (.ref x5), (.ref x4), (.ref x3), (.ref x2), (.ref x1), (.ref x0), (.ref b10), (.ref b10)] (fun _ k => st31 _ (aN X31 hx (dk d10_32) rfl rfl k)) ?_
  obtain ⟨T32, X32, e32, st32⟩ := getF X31 hx hZ hown (host := "") (Or.inl (W 63 rfl)) Via.refl e31 (pr8.ext E10) (g := (mkF m 33 #[vr a1] [(.ref a1), (.ref x6), (.ref x5), (.ref x4), (.ref x3), (.ref x2), (.ref x1), (.ref x0), (.ref b10), (.ref b10)])) rfl rfl (dk d10_33)
  refine gz X32 37 #[vr a1] [(.ref a1), (.long x7), (.ref x6), (.ref x5), (.ref x4), (.ref x3), (.ref x2), (.ref x1), (.ref x0), (.ref b10), (.ref b10)] (fun _ k => st32 _ (aN X32 hx (dk d10_36) rfl rfl k)) ?_
  obtain ⟨T33, X33, e33, st33⟩ := getF X32 hx hZ hown (host := "") (Or.inl (W 65 rfl)) Via.refl e32 (pr9.ext E10) (g := (mkF m 37 #[vr a1] [(.ref a1), (.long x7), (.ref x6), (.ref x5), (.ref x4), (.ref x3), (.ref x2), (.ref x1), (.ref x0), (.ref b10), (.ref b10)])) rfl rfl (dk d10_37)
  refine gz X33 41 #[vr a1] [(.ref a1), (.long x8), (.long x7), (.ref x6), (.ref x5), (.ref x4), (.ref x3), (.ref x2), (.ref x1), (.ref x0), (.ref b10), (.ref b10)] (fun _ k => st33 _ (aN X33 hx (dk d10_40) rfl rfl k)) ?_
  obtain ⟨T34, X34, e34, st34⟩ := getF X33 hx hZ hown (host := "") (Or.inl (W 67 rfl)) Via.refl e33 (pr10.ext E10) (g := (mkF m 41 #[vr a1] [(.ref a1), (.long x8), (.long x7), (.ref x6), (.ref x5), (.ref x4), (.ref x3), (.ref x2), (.ref x1), (.ref x0), (.ref b10), (.ref b10)])) rfl rfl (dk d10_41)
  refine gz X34 46 #[vr a1] [(.ref a1), (.int 1), (.ref x9), (.long x8), (.long x7), (.ref x6), (.ref x5), (.ref x4), (.ref x3), (.ref x2), (.ref x1), (.ref x0), (.ref b10), (.ref b10)] (fun _ k => st34 _ (kC X34 hx (dk d10_44) (aN X34 hx (dk d10_45) rfl rfl k))) ?_
  obtain ⟨T35, X35, e35, st35⟩ := getF X34 hx hZ hown (host := "") (Or.inl (W 71 rfl)) Via.refl e34 (pr11.ext E10) (g := (mkF m 46 #[vr a1] [(.ref a1), (.int 1), (.ref x9), (.long x8), (.long x7), (.ref x6), (.ref x5), (.ref x4), (.ref x3), (.ref x2), (.ref x1), (.ref x0), (.ref b10), (.ref b10)])) rfl rfl (dk d10_46)
  refine gz X35 50 #[vr a1] [(.ref a1), (.long x11), (.int 1), (.ref x9), (.long x8), (.long x7), (.ref x6), (.ref x5), (.ref x4), (.ref x3), (.ref x2), (.ref x1), (.ref x0), (.ref b10), (.ref b10)] (fun _ k => st35 _ (aN X35 hx (dk d10_49) rfl rfl k)) ?_
  obtain ⟨T36, X36, e36, st36⟩ := getF X35 hx hZ hown (host := "") (Or.inl (W 73 rfl)) Via.refl e35 (pr12.ext E10) (g := (mkF m 50 #[vr a1] [(.ref a1), (.long x11), (.int 1), (.ref x9), (.long x8), (.long x7), (.ref x6), (.ref x5), (.ref x4), (.ref x3), (.ref x2), (.ref x1), (.ref x0), (.ref b10), (.ref b10)])) rfl rfl (dk d10_50)
  refine gz X36 53 #[vr a1] [.null, (.long x11), (.int 1), (.ref x9), (.long x8), (.long x7), (.ref x6), (.ref x5), (.ref x4), (.ref x3), (.ref x2), (.ref x1), (.ref x0), (.ref b10), (.ref b10)] (fun _ k => st36 _ k) ?_
  refine goI X36 hx hZ hown (W 81 rfl) (m5 hw) 13 1 13 (rm_ord_n hw b10 x0 x1 x2 x3 x4 x5 x6 x7 x8 x9 (1 : Int32) x11 h10 n0 Z11 O11 A10 F12 F13 F14 F15 F16 F17 F18 F19 F20 F21 F22 F23 F24 (Nat.le_trans Z0 sz_b10)) N0 e36 pd_5 hml (dk d10_53) ?_
  rintro _ T37 L37 X37 N37 ⟨rfl, K37, p37_0, p37_1, p37_2, p37_3, p37_4, p37_5, p37_6, p37_7, p37_8, p37_9, p37_10, p37_11, p37_12, p37_13⟩
  have O38 := O11.keep K37 (allS (Nat.le_trans Z0 sz_b10) all0)
  have Z38 : n0 ≤ T37.heap.size := Nat.le_trans Z11 K37.1
  have p37_11 : Fld Z T37.heap b10 "com/example/aurel/aurel/orders/Order" "deliveryConfirmed" "Z" (.int 1) := p37_11
  refine gz X37 56 #[vr a1] [(.ref b10)] (fun _ k => k) ?_
  refine Go.retA X37 hx hlk (t := (.object "com/example/aurel/aurel/orders/Order")) hret (dk d10_56) ?_
  exact ⟨N37, b10, rfl, (((Keep.refl h0 []).ext E10).trans K37 (allS (Or.inr (Nat.le_trans (Nat.le_refl _) sz_b10)) all0)), p37_0, p37_1, p37_2, p37_3, p37_4, p37_5, p37_6, p37_7, p37_8, p37_9, p37_10, p37_11, p37_12, p37_13, (Nat.le_trans (Nat.le_refl _) sz_b10)⟩
theorem ef_rm_g_purchaseOrderId (m : MethodId) (x0 : Addr) : entryFrame m #[(.ref x0)] 1 = mkF m 0 #[vr x0] [] := by first | (simp [entryFrame, mkF, argsToLocals, Value.category]; done) | rfl
theorem d12_0 : DK B18 0 (.aload_n 0) 1 := by decide +kernel
theorem d12_1 : DK B18 1 (.getfield 7) 3 := by decide +kernel
theorem d12_4 : DK B18 4 .areturn 1 := by decide +kernel
theorem rm_g_purchaseOrderId {l : Launch} {Z : State} {a0 : Array Value} (hw : HW a0 Z) (a1 : Addr) (x1 : Addr) (h0 : Heap) (n0 : Nat) (Z0 : n0 ≤ h0.size) (pr0 : Fld Z h0 a1 "com/example/aurel/aurel/orders/Order" "purchaseOrderId" "Ljava/lang/String;" (.ref x1)) :
    Met l Z Y9 B18 1 (some (.object "java/lang/String")) [] ({ frames := 0, cells := 0, slots := 0, locals := 0 } : Room) #[(.ref a1)] h0 (fun vv h L => Fr n0 L ∧ vv = some (.ref x1) ∧ h = h0) := by
  refine Met.enter (f0 := fun m => mkF m 0 #[vr a1] []) (plainFor_of_name pn2) (fun m => ef_rm_g_purchaseOrderId m a1) ?_
  intro p e s m below meth c s₁ hx hby (hml : c.maxLocals = 1) (hown : s.vm.findClass "com/example/aurel/aurel/orders/Order" = some m.cls) hnm hret hlk hZ X0 e0
  have dk : Dk B18 c := fun h => hb hby h
  have W := @wd _ _ _ hw
  have N0 := Fr.nil n0
  refine gz X0 1 #[vr a1] [(.ref a1)] (fun _ k => aN X0 hx (dk d12_0) rfl rfl k) ?_
  obtain ⟨T10, X10, e10, st10⟩ := getF X0 hx hZ hown (host := "") (Or.inl (W 49 rfl)) Via.refl e0 pr0 (g := (mkF m 1 #[vr a1] [(.ref a1)])) rfl rfl (dk d12_1)
  refine gz X10 4 #[vr a1] [(.ref x1)] (fun _ k => st10 _ k) ?_
  refine Go.retA X10 hx hlk (t := (.object "java/lang/String")) hret (dk d12_4) ?_
  rw [e10]
  exact ⟨N0, rfl, rfl⟩
theorem ef_rm_g_purchaseToken (m : MethodId) (x0 : Addr) : entryFrame m #[(.ref x0)] 1 = mkF m 0 #[vr x0] [] := by first | (simp [entryFrame, mkF, argsToLocals, Value.category]; done) | rfl
theorem d13_0 : DK B19 0 (.aload_n 0) 1 := by decide +kernel
theorem d13_1 : DK B19 1 (.getfield 13) 3 := by decide +kernel
theorem d13_4 : DK B19 4 .areturn 1 := by decide +kernel
theorem rm_g_purchaseToken {l : Launch} {Z : State} {a0 : Array Value} (hw : HW a0 Z) (a1 : Addr) (x1 : Addr) (h0 : Heap) (n0 : Nat) (Z0 : n0 ≤ h0.size) (pr0 : Fld Z h0 a1 "com/example/aurel/aurel/orders/Order" "purchaseToken" "Ljava/lang/String;" (.ref x1)) :
    Met l Z Y11 B19 1 (some (.object "java/lang/String")) [] ({ frames := 0, cells := 0, slots := 0, locals := 0 } : Room) #[(.ref a1)] h0 (fun vv h L => Fr n0 L ∧ vv = some (.ref x1) ∧ h = h0) := by
  refine Met.enter (f0 := fun m => mkF m 0 #[vr a1] []) (plainFor_of_name pn2) (fun m => ef_rm_g_purchaseToken m a1) ?_
  intro p e s m below meth c s₁ hx hby (hml : c.maxLocals = 1) (hown : s.vm.findClass "com/example/aurel/aurel/orders/Order" = some m.cls) hnm hret hlk hZ X0 e0
  have dk : Dk B19 c := fun h => hb hby h
  have W := @wd _ _ _ hw
  have N0 := Fr.nil n0
  refine gz X0 1 #[vr a1] [(.ref a1)] (fun _ k => aN X0 hx (dk d13_0) rfl rfl k) ?_
  obtain ⟨T10, X10, e10, st10⟩ := getF X0 hx hZ hown (host := "") (Or.inl (W 51 rfl)) Via.refl e0 pr0 (g := (mkF m 1 #[vr a1] [(.ref a1)])) rfl rfl (dk d13_1)
  refine gz X10 4 #[vr a1] [(.ref x1)] (fun _ k => st10 _ k) ?_
  refine Go.retA X10 hx hlk (t := (.object "java/lang/String")) hret (dk d13_4) ?_
  rw [e10]
  exact ⟨N0, rfl, rfl⟩
theorem ef_rm_g_userId (m : MethodId) (x0 : Addr) : entryFrame m #[(.ref x0)] 1 = mkF m 0 #[vr x0] [] := by first | (simp [entryFrame, mkF, argsToLocals, Value.category]; done) | rfl
theorem d14_0 : DK B20 0 (.aload_n 0) 1 := by decide +kernel
theorem d14_1 : DK B20 1 (.getfield 16) 3 := by decide +kernel
theorem d14_4 : DK B20 4 .areturn 1 := by decide +kernel
theorem rm_g_userId {l : Launch} {Z : State} {a0 : Array Value} (hw : HW a0 Z) (a1 : Addr) (x1 : Addr) (h0 : Heap) (n0 : Nat) (Z0 : n0 ≤ h0.size) (pr0 : Fld Z h0 a1 "com/example/aurel/aurel/orders/Order" "userId" "Ljava/lang/String;" (.ref x1)) :
    Met l Z Y13 B20 1 (some (.object "java/lang/String")) [] ({ frames := 0, cells := 0, slots := 0, locals := 0 } : Room) #[(.ref a1)] h0 (fun vv h L => Fr n0 L ∧ vv = some (.ref x1) ∧ h = h0) := by
  refine Met.enter (f0 := fun m => mkF m 0 #[vr a1] []) (plainFor_of_name pn2) (fun m => ef_rm_g_userId m a1) ?_
  intro p e s m below meth c s₁ hx hby (hml : c.maxLocals = 1) (hown : s.vm.findClass "com/example/aurel/aurel/orders/Order" = some m.cls) hnm hret hlk hZ X0 e0
  have dk : Dk B20 c := fun h => hb hby h
  have W := @wd _ _ _ hw
  have N0 := Fr.nil n0
  refine gz X0 1 #[vr a1] [(.ref a1)] (fun _ k => aN X0 hx (dk d14_0) rfl rfl k) ?_
  obtain ⟨T10, X10, e10, st10⟩ := getF X0 hx hZ hown (host := "") (Or.inl (W 53 rfl)) Via.refl e0 pr0 (g := (mkF m 1 #[vr a1] [(.ref a1)])) rfl rfl (dk d14_1)
  refine gz X10 4 #[vr a1] [(.ref x1)] (fun _ k => st10 _ k) ?_
  refine Go.retA X10 hx hlk (t := (.object "java/lang/String")) hret (dk d14_4) ?_
  rw [e10]
  exact ⟨N0, rfl, rfl⟩
theorem ef_rm_g_applicationId (m : MethodId) (x0 : Addr) : entryFrame m #[(.ref x0)] 1 = mkF m 0 #[vr x0] [] := by first | (simp [entryFrame, mkF, argsToLocals, Value.category]; done) | rfl
theorem d15_0 : DK B21 0 (.aload_n 0) 1 := by decide +kernel
theorem d15_1 : DK B21 1 (.getfield 19) 3 := by decide +kernel
theorem d15_4 : DK B21 4 .areturn 1 := by decide +kernel
theorem rm_g_applicationId {l : Launch} {Z : State} {a0 : Array Value} (hw : HW a0 Z) (a1 : Addr) (x1 : Addr) (h0 : Heap) (n0 : Nat) (Z0 : n0 ≤ h0.size) (pr0 : Fld Z h0 a1 "com/example/aurel/aurel/orders/Order" "applicationId" "Ljava/lang/String;" (.ref x1)) :
    Met l Z Y1 B21 1 (some (.object "java/lang/String")) [] ({ frames := 0, cells := 0, slots := 0, locals := 0 } : Room) #[(.ref a1)] h0 (fun vv h L => Fr n0 L ∧ vv = some (.ref x1) ∧ h = h0) := by
  refine Met.enter (f0 := fun m => mkF m 0 #[vr a1] []) (plainFor_of_name pn2) (fun m => ef_rm_g_applicationId m a1) ?_
  intro p e s m below meth c s₁ hx hby (hml : c.maxLocals = 1) (hown : s.vm.findClass "com/example/aurel/aurel/orders/Order" = some m.cls) hnm hret hlk hZ X0 e0
  have dk : Dk B21 c := fun h => hb hby h
  have W := @wd _ _ _ hw
  have N0 := Fr.nil n0
  refine gz X0 1 #[vr a1] [(.ref a1)] (fun _ k => aN X0 hx (dk d15_0) rfl rfl k) ?_
  obtain ⟨T10, X10, e10, st10⟩ := getF X0 hx hZ hown (host := "") (Or.inl (W 55 rfl)) Via.refl e0 pr0 (g := (mkF m 1 #[vr a1] [(.ref a1)])) rfl rfl (dk d15_1)
  refine gz X10 4 #[vr a1] [(.ref x1)] (fun _ k => st10 _ k) ?_
  refine Go.retA X10 hx hlk (t := (.object "java/lang/String")) hret (dk d15_4) ?_
  rw [e10]
  exact ⟨N0, rfl, rfl⟩
theorem ef_rm_g_packageName (m : MethodId) (x0 : Addr) : entryFrame m #[(.ref x0)] 1 = mkF m 0 #[vr x0] [] := by first | (simp [entryFrame, mkF, argsToLocals, Value.category]; done) | rfl
theorem d16_0 : DK B7 0 (.aload_n 0) 1 := by decide +kernel
theorem d16_1 : DK B7 1 (.getfield 22) 3 := by decide +kernel
theorem d16_4 : DK B7 4 .areturn 1 := by decide +kernel
theorem rm_g_packageName {l : Launch} {Z : State} {a0 : Array Value} (hw : HW a0 Z) (a1 : Addr) (x1 : Addr) (h0 : Heap) (n0 : Nat) (Z0 : n0 ≤ h0.size) (pr0 : Fld Z h0 a1 "com/example/aurel/aurel/orders/Order" "packageName" "Ljava/lang/String;" (.ref x1)) :
    Met l Z Y4 B7 1 (some (.object "java/lang/String")) [] ({ frames := 0, cells := 0, slots := 0, locals := 0 } : Room) #[(.ref a1)] h0 (fun vv h L => Fr n0 L ∧ vv = some (.ref x1) ∧ h = h0) := by
  refine Met.enter (f0 := fun m => mkF m 0 #[vr a1] []) (plainFor_of_name pn2) (fun m => ef_rm_g_packageName m a1) ?_
  intro p e s m below meth c s₁ hx hby (hml : c.maxLocals = 1) (hown : s.vm.findClass "com/example/aurel/aurel/orders/Order" = some m.cls) hnm hret hlk hZ X0 e0
  have dk : Dk B7 c := fun h => hb hby h
  have W := @wd _ _ _ hw
  have N0 := Fr.nil n0
  refine gz X0 1 #[vr a1] [(.ref a1)] (fun _ k => aN X0 hx (dk d16_0) rfl rfl k) ?_
  obtain ⟨T10, X10, e10, st10⟩ := getF X0 hx hZ hown (host := "") (Or.inl (W 57 rfl)) Via.refl e0 pr0 (g := (mkF m 1 #[vr a1] [(.ref a1)])) rfl rfl (dk d16_1)
  refine gz X10 4 #[vr a1] [(.ref x1)] (fun _ k => st10 _ k) ?_
  refine Go.retA X10 hx hlk (t := (.object "java/lang/String")) hret (dk d16_4) ?_
  rw [e10]
  exact ⟨N0, rfl, rfl⟩
theorem ef_rm_g_productId (m : MethodId) (x0 : Addr) : entryFrame m #[(.ref x0)] 1 = mkF m 0 #[vr x0] [] := by first | (simp [entryFrame, mkF, argsToLocals, Value.category]; done) | rfl
theorem d17_0 : DK B8 0 (.aload_n 0) 1 := by decide +kernel
theorem d17_1 : DK B8 1 (.getfield 25) 3 := by decide +kernel
theorem d17_4 : DK B8 4 .areturn 1 := by decide +kernel
theorem rm_g_productId {l : Launch} {Z : State} {a0 : Array Value} (hw : HW a0 Z) (a1 : Addr) (x1 : Addr) (h0 : Heap) (n0 : Nat) (Z0 : n0 ≤ h0.size) (pr0 : Fld Z h0 a1 "com/example/aurel/aurel/orders/Order" "productId" "Ljava/lang/String;" (.ref x1)) :
    Met l Z Y7 B8 1 (some (.object "java/lang/String")) [] ({ frames := 0, cells := 0, slots := 0, locals := 0 } : Room) #[(.ref a1)] h0 (fun vv h L => Fr n0 L ∧ vv = some (.ref x1) ∧ h = h0) := by
  refine Met.enter (f0 := fun m => mkF m 0 #[vr a1] []) (plainFor_of_name pn2) (fun m => ef_rm_g_productId m a1) ?_
  intro p e s m below meth c s₁ hx hby (hml : c.maxLocals = 1) (hown : s.vm.findClass "com/example/aurel/aurel/orders/Order" = some m.cls) hnm hret hlk hZ X0 e0
  have dk : Dk B8 c := fun h => hb hby h
  have W := @wd _ _ _ hw
  have N0 := Fr.nil n0
  refine gz X0 1 #[vr a1] [(.ref a1)] (fun _ k => aN X0 hx (dk d17_0) rfl rfl k) ?_
  obtain ⟨T10, X10, e10, st10⟩ := getF X0 hx hZ hown (host := "") (Or.inl (W 59 rfl)) Via.refl e0 pr0 (g := (mkF m 1 #[vr a1] [(.ref a1)])) rfl rfl (dk d17_1)
  refine gz X10 4 #[vr a1] [(.ref x1)] (fun _ k => st10 _ k) ?_
  refine Go.retA X10 hx hlk (t := (.object "java/lang/String")) hret (dk d17_4) ?_
  rw [e10]
  exact ⟨N0, rfl, rfl⟩
theorem ef_rm_g_productType (m : MethodId) (x0 : Addr) : entryFrame m #[(.ref x0)] 1 = mkF m 0 #[vr x0] [] := by first | (simp [entryFrame, mkF, argsToLocals, Value.category]; done) | rfl
theorem d18_0 : DK B9 0 (.aload_n 0) 1 := by decide +kernel
theorem d18_1 : DK B9 1 (.getfield 28) 3 := by decide +kernel
theorem d18_4 : DK B9 4 .areturn 1 := by decide +kernel
theorem rm_g_productType {l : Launch} {Z : State} {a0 : Array Value} (hw : HW a0 Z) (a1 : Addr) (x1 : Addr) (h0 : Heap) (n0 : Nat) (Z0 : n0 ≤ h0.size) (pr0 : Fld Z h0 a1 "com/example/aurel/aurel/orders/Order" "productType" "Lcom/example/aurel/aurel/catalog/ProductType;" (.ref x1)) :
    Met l Z Y8 B9 1 (some (.object "com/example/aurel/aurel/catalog/ProductType")) [] ({ frames := 0, cells := 0, slots := 0, locals := 0 } : Room) #[(.ref a1)] h0 (fun vv h L => Fr n0 L ∧ vv = some (.ref x1) ∧ h = h0) := by
  refine Met.enter (f0 := fun m => mkF m 0 #[vr a1] []) (plainFor_of_name pn2) (fun m => ef_rm_g_productType m a1) ?_
  intro p e s m below meth c s₁ hx hby (hml : c.maxLocals = 1) (hown : s.vm.findClass "com/example/aurel/aurel/orders/Order" = some m.cls) hnm hret hlk hZ X0 e0
  have dk : Dk B9 c := fun h => hb hby h
  have W := @wd _ _ _ hw
  have N0 := Fr.nil n0
  refine gz X0 1 #[vr a1] [(.ref a1)] (fun _ k => aN X0 hx (dk d18_0) rfl rfl k) ?_
  obtain ⟨T10, X10, e10, st10⟩ := getF X0 hx hZ hown (host := "") (Or.inl (W 61 rfl)) Via.refl e0 pr0 (g := (mkF m 1 #[vr a1] [(.ref a1)])) rfl rfl (dk d18_1)
  refine gz X10 4 #[vr a1] [(.ref x1)] (fun _ k => st10 _ k) ?_
  refine Go.retA X10 hx hlk (t := (.object "com/example/aurel/aurel/catalog/ProductType")) hret (dk d18_4) ?_
  rw [e10]
  exact ⟨N0, rfl, rfl⟩
theorem ef_rm_g_purchaseTime (m : MethodId) (x0 : Addr) : entryFrame m #[(.ref x0)] 1 = mkF m 0 #[vr x0] [] := by first | (simp [entryFrame, mkF, argsToLocals, Value.category]; done) | rfl
theorem d19_0 : DK B10 0 (.aload_n 0) 1 := by decide +kernel
theorem d19_1 : DK B10 1 (.getfield 32) 3 := by decide +kernel
theorem d19_4 : DK B10 4 .lreturn 1 := by decide +kernel
theorem rm_g_purchaseTime {l : Launch} {Z : State} {a0 : Array Value} (hw : HW a0 Z) (a1 : Addr) (x1 : Int64) (h0 : Heap) (n0 : Nat) (Z0 : n0 ≤ h0.size) (pr0 : Fld Z h0 a1 "com/example/aurel/aurel/orders/Order" "purchaseTime" "J" (.long x1)) :
    Met l Z Y10 B10 1 (some .long) [] ({ frames := 0, cells := 0, slots := 0, locals := 0 } : Room) #[(.ref a1)] h0 (fun vv h L => Fr n0 L ∧ vv = some (.long x1) ∧ h = h0) := by
  refine Met.enter (f0 := fun m => mkF m 0 #[vr a1] []) (plainFor_of_name pn2) (fun m => ef_rm_g_purchaseTime m a1) ?_
  intro p e s m below meth c s₁ hx hby (hml : c.maxLocals = 1) (hown : s.vm.findClass "com/example/aurel/aurel/orders/Order" = some m.cls) hnm hret hlk hZ X0 e0
  have dk : Dk B10 c := fun h => hb hby h
  have W := @wd _ _ _ hw
  have N0 := Fr.nil n0
  refine gz X0 1 #[vr a1] [(.ref a1)] (fun _ k => aN X0 hx (dk d19_0) rfl rfl k) ?_
  obtain ⟨T10, X10, e10, st10⟩ := getF X0 hx hZ hown (host := "") (Or.inl (W 63 rfl)) Via.refl e0 pr0 (g := (mkF m 1 #[vr a1] [(.ref a1)])) rfl rfl (dk d19_1)
  refine gz X10 4 #[vr a1] [(.long x1)] (fun _ k => st10 _ k) ?_
  refine Go.ret X10 hx hlk (t := .long) hret rfl (Or.inr (Or.inl ⟨rfl, rfl, _, rfl⟩)) (dk d19_4) (by decide) (by decide) ?_
  rw [e10]
  exact ⟨N0, rfl, rfl⟩
theorem ef_rm_g_price (m : MethodId) (x0 : Addr) : entryFrame m #[(.ref x0)] 1 = mkF m 0 #[vr x0] [] := by first | (simp [entryFrame, mkF, argsToLocals, Value.category]; done) | rfl
theorem d20_0 : DK B11 0 (.aload_n 0) 1 := by decide +kernel
theorem d20_1 : DK B11 1 (.getfield 36) 3 := by decide +kernel
theorem d20_4 : DK B11 4 .lreturn 1 := by decide +kernel
theorem rm_g_price {l : Launch} {Z : State} {a0 : Array Value} (hw : HW a0 Z) (a1 : Addr) (x1 : Int64) (h0 : Heap) (n0 : Nat) (Z0 : n0 ≤ h0.size) (pr0 : Fld Z h0 a1 "com/example/aurel/aurel/orders/Order" "price" "J" (.long x1)) :
    Met l Z Y6 B11 1 (some .long) [] ({ frames := 0, cells := 0, slots := 0, locals := 0 } : Room) #[(.ref a1)] h0 (fun vv h L => Fr n0 L ∧ vv = some (.long x1) ∧ h = h0) := by
  refine Met.enter (f0 := fun m => mkF m 0 #[vr a1] []) (plainFor_of_name pn2) (fun m => ef_rm_g_price m a1) ?_
  intro p e s m below meth c s₁ hx hby (hml : c.maxLocals = 1) (hown : s.vm.findClass "com/example/aurel/aurel/orders/Order" = some m.cls) hnm hret hlk hZ X0 e0
  have dk : Dk B11 c := fun h => hb hby h
  have W := @wd _ _ _ hw
  have N0 := Fr.nil n0
  refine gz X0 1 #[vr a1] [(.ref a1)] (fun _ k => aN X0 hx (dk d20_0) rfl rfl k) ?_
  obtain ⟨T10, X10, e10, st10⟩ := getF X0 hx hZ hown (host := "") (Or.inl (W 65 rfl)) Via.refl e0 pr0 (g := (mkF m 1 #[vr a1] [(.ref a1)])) rfl rfl (dk d20_1)
  refine gz X10 4 #[vr a1] [(.long x1)] (fun _ k => st10 _ k) ?_
  refine Go.ret X10 hx hlk (t := .long) hret rfl (Or.inr (Or.inl ⟨rfl, rfl, _, rfl⟩)) (dk d20_4) (by decide) (by decide) ?_
  rw [e10]
  exact ⟨N0, rfl, rfl⟩
theorem ef_rm_g_currency (m : MethodId) (x0 : Addr) : entryFrame m #[(.ref x0)] 1 = mkF m 0 #[vr x0] [] := by first | (simp [entryFrame, mkF, argsToLocals, Value.category]; done) | rfl
theorem d21_0 : DK B12 0 (.aload_n 0) 1 := by decide +kernel
theorem d21_1 : DK B12 1 (.getfield 39) 3 := by decide +kernel
theorem d21_4 : DK B12 4 .areturn 1 := by decide +kernel
theorem rm_g_currency {l : Launch} {Z : State} {a0 : Array Value} (hw : HW a0 Z) (a1 : Addr) (x1 : Addr) (h0 : Heap) (n0 : Nat) (Z0 : n0 ≤ h0.size) (pr0 : Fld Z h0 a1 "com/example/aurel/aurel/orders/Order" "currency" "Ljava/lang/String;" (.ref x1)) :
    Met l Z Y2 B12 1 (some (.object "java/lang/String")) [] ({ frames := 0, cells := 0, slots := 0, locals := 0 } : Room) #[(.ref a1)] h0 (fun vv h L => Fr n0 L ∧ vv = some (.ref x1) ∧ h = h0) := by
  refine Met.enter (f0 := fun m => mkF m 0 #[vr a1] []) (plainFor_of_name pn2) (fun m => ef_rm_g_currency m a1) ?_
  intro p e s m below meth c s₁ hx hby (hml : c.maxLocals = 1) (hown : s.vm.findClass "com/example/aurel/aurel/orders/Order" = some m.cls) hnm hret hlk hZ X0 e0
  have dk : Dk B12 c := fun h => hb hby h
  have W := @wd _ _ _ hw
  have N0 := Fr.nil n0
  refine gz X0 1 #[vr a1] [(.ref a1)] (fun _ k => aN X0 hx (dk d21_0) rfl rfl k) ?_
  obtain ⟨T10, X10, e10, st10⟩ := getF X0 hx hZ hown (host := "") (Or.inl (W 67 rfl)) Via.refl e0 pr0 (g := (mkF m 1 #[vr a1] [(.ref a1)])) rfl rfl (dk d21_1)
  refine gz X10 4 #[vr a1] [(.ref x1)] (fun _ k => st10 _ k) ?_
  refine Go.retA X10 hx hlk (t := (.object "java/lang/String")) hret (dk d21_4) ?_
  rw [e10]
  exact ⟨N0, rfl, rfl⟩
theorem ef_rm_g_deliveryConfirmed_0 (m : MethodId) (x0 : Addr) : entryFrame m #[(.ref x0)] 1 = mkF m 0 #[vr x0] [] := by first | (simp [entryFrame, mkF, argsToLocals, Value.category]; done) | rfl
theorem d11_0 : DK B13 0 (.aload_n 0) 1 := by decide +kernel
theorem d11_1 : DK B13 1 (.getfield 42) 3 := by decide +kernel
theorem d11_4 : DK B13 4 .ireturn 1 := by decide +kernel
theorem rm_g_deliveryConfirmed_0 {l : Launch} {Z : State} {a0 : Array Value} (hw : HW a0 Z) (a1 : Addr) (h0 : Heap) (n0 : Nat) (Z0 : n0 ≤ h0.size) (pr0 : Fld Z h0 a1 "com/example/aurel/aurel/orders/Order" "deliveryConfirmed" "Z" (.int 0)) :
    Met l Z Y3 B13 1 (some .boolean) [] ({ frames := 0, cells := 0, slots := 0, locals := 0 } : Room) #[(.ref a1)] h0 (fun vv h L => Fr n0 L ∧ vv = some (.int 0) ∧ h = h0) := by
  refine Met.enter (f0 := fun m => mkF m 0 #[vr a1] []) (plainFor_of_name pn2) (fun m => ef_rm_g_deliveryConfirmed_0 m a1) ?_
  intro p e s m below meth c s₁ hx hby (hml : c.maxLocals = 1) (hown : s.vm.findClass "com/example/aurel/aurel/orders/Order" = some m.cls) hnm hret hlk hZ X0 e0
  have dk : Dk B13 c := fun h => hb hby h
  have W := @wd _ _ _ hw
  have N0 := Fr.nil n0
  refine gz X0 1 #[vr a1] [(.ref a1)] (fun _ k => aN X0 hx (dk d11_0) rfl rfl k) ?_
  obtain ⟨T10, X10, e10, st10⟩ := getF X0 hx hZ hown (host := "") (Or.inl (W 69 rfl)) Via.refl e0 pr0 (g := (mkF m 1 #[vr a1] [(.ref a1)])) rfl rfl (dk d11_1)
  refine gz X10 4 #[vr a1] [(.int 0)] (fun _ k => st10 _ k) ?_
  refine Go.retJ X10 hx hlk (t := .boolean) hret (dk d11_4) ?_
  rw [e10]
  exact ⟨N0, rfl, rfl⟩
theorem ef_rm_g_deliveryConfirmed_1 (m : MethodId) (x0 : Addr) : entryFrame m #[(.ref x0)] 1 = mkF m 0 #[vr x0] [] := by first | (simp [entryFrame, mkF, argsToLocals, Value.category]; done) | rfl
theorem rm_g_deliveryConfirmed_1 {l : Launch} {Z : State} {a0 : Array Value} (hw : HW a0 Z) (a1 : Addr) (h0 : Heap) (n0 : Nat) (Z0 : n0 ≤ h0.size) (pr0 : Fld Z h0 a1 "com/example/aurel/aurel/orders/Order" "deliveryConfirmed" "Z" (.int 1)) :
    Met l Z Y3 B13 1 (some .boolean) [] ({ frames := 0, cells := 0, slots := 0, locals := 0 } : Room) #[(.ref a1)] h0 (fun vv h L => Fr n0 L ∧ vv = some (.int 1) ∧ h = h0) := by
  refine Met.enter (f0 := fun m => mkF m 0 #[vr a1] []) (plainFor_of_name pn2) (fun m => ef_rm_g_deliveryConfirmed_1 m a1) ?_
  intro p e s m below meth c s₁ hx hby (hml : c.maxLocals = 1) (hown : s.vm.findClass "com/example/aurel/aurel/orders/Order" = some m.cls) hnm hret hlk hZ X0 e0
  have dk : Dk B13 c := fun h => hb hby h
  have W := @wd _ _ _ hw
  have N0 := Fr.nil n0
  refine gz X0 1 #[vr a1] [(.ref a1)] (fun _ k => aN X0 hx (dk d11_0) rfl rfl k) ?_
  obtain ⟨T10, X10, e10, st10⟩ := getF X0 hx hZ hown (host := "") (Or.inl (W 69 rfl)) Via.refl e0 pr0 (g := (mkF m 1 #[vr a1] [(.ref a1)])) rfl rfl (dk d11_1)
  refine gz X10 4 #[vr a1] [(.int 1)] (fun _ k => st10 _ k) ?_
  refine Go.retJ X10 hx hlk (t := .boolean) hret (dk d11_4) ?_
  rw [e10]
  exact ⟨N0, rfl, rfl⟩
theorem ef_rm_g_sequence (m : MethodId) (x0 : Addr) : entryFrame m #[(.ref x0)] 1 = mkF m 0 #[vr x0] [] := by first | (simp [entryFrame, mkF, argsToLocals, Value.category]; done) | rfl
theorem d22_0 : DK B14 0 (.aload_n 0) 1 := by decide +kernel
theorem d22_1 : DK B14 1 (.getfield 46) 3 := by decide +kernel
theorem d22_4 : DK B14 4 .lreturn 1 := by decide +kernel
theorem rm_g_sequence {l : Launch} {Z : State} {a0 : Array Value} (hw : HW a0 Z) (a1 : Addr) (x1 : Int64) (h0 : Heap) (n0 : Nat) (Z0 : n0 ≤ h0.size) (pr0 : Fld Z h0 a1 "com/example/aurel/aurel/orders/Order" "sequence" "J" (.long x1)) :
    Met l Z Y12 B14 1 (some .long) [] ({ frames := 0, cells := 0, slots := 0, locals := 0 } : Room) #[(.ref a1)] h0 (fun vv h L => Fr n0 L ∧ vv = some (.long x1) ∧ h = h0) := by
  refine Met.enter (f0 := fun m => mkF m 0 #[vr a1] []) (plainFor_of_name pn2) (fun m => ef_rm_g_sequence m a1) ?_
  intro p e s m below meth c s₁ hx hby (hml : c.maxLocals = 1) (hown : s.vm.findClass "com/example/aurel/aurel/orders/Order" = some m.cls) hnm hret hlk hZ X0 e0
  have dk : Dk B14 c := fun h => hb hby h
  have W := @wd _ _ _ hw
  have N0 := Fr.nil n0
  refine gz X0 1 #[vr a1] [(.ref a1)] (fun _ k => aN X0 hx (dk d22_0) rfl rfl k) ?_
  obtain ⟨T10, X10, e10, st10⟩ := getF X0 hx hZ hown (host := "") (Or.inl (W 71 rfl)) Via.refl e0 pr0 (g := (mkF m 1 #[vr a1] [(.ref a1)])) rfl rfl (dk d22_1)
  refine gz X10 4 #[vr a1] [(.long x1)] (fun _ k => st10 _ k) ?_
  refine Go.ret X10 hx hlk (t := .long) hret rfl (Or.inr (Or.inl ⟨rfl, rfl, _, rfl⟩)) (dk d22_4) (by decide) (by decide) ?_
  rw [e10]
  exact ⟨N0, rfl, rfl⟩
theorem ef_rm_g_paidPeriod_0 (m : MethodId) (x0 : Addr) : entryFrame m #[(.ref x0)] 1 = mkF m 0 #[vr x0] [] := by first | (simp [entryFrame, mkF, argsToLocals, Value.category]; done) | rfl
theorem d23_0 : DK B15 0 (.aload_n 0) 1 := by decide +kernel
theorem d23_1 : DK B15 1 (.getfield 49) 3 := by decide +kernel
theorem d23_4 : DK B15 4 .areturn 1 := by decide +kernel
theorem rm_g_paidPeriod_0 {l : Launch} {Z : State} {a0 : Array Value} (hw : HW a0 Z) (a1 : Addr) (x1 : Addr) (h0 : Heap) (n0 : Nat) (Z0 : n0 ≤ h0.size) (pr0 : Fld Z h0 a1 "com/example/aurel/aurel/orders/Order" "paidPeriod" "Lcom/example/aurel/aurel/orders/PaidPeriod;" (.ref x1)) :
    Met l Z Y5 B15 1 (some (.object "com/example/aurel/aurel/orders/PaidPeriod")) [] ({ frames := 0, cells := 0, slots := 0, locals := 0 } : Room) #[(.ref a1)] h0 (fun vv h L => Fr n0 L ∧ vv = some (.ref x1) ∧ h = h0) := by
  refine Met.enter (f0 := fun m => mkF m 0 #[vr a1] []) (plainFor_of_name pn2) (fun m => ef_rm_g_paidPeriod_0 m a1) ?_
  intro p e s m below meth c s₁ hx hby (hml : c.maxLocals = 1) (hown : s.vm.findClass "com/example/aurel/aurel/orders/Order" = some m.cls) hnm hret hlk hZ X0 e0
  have dk : Dk B15 c := fun h => hb hby h
  have W := @wd _ _ _ hw
  have N0 := Fr.nil n0
  refine gz X0 1 #[vr a1] [(.ref a1)] (fun _ k => aN X0 hx (dk d23_0) rfl rfl k) ?_
  obtain ⟨T10, X10, e10, st10⟩ := getF X0 hx hZ hown (host := "") (Or.inl (W 73 rfl)) Via.refl e0 pr0 (g := (mkF m 1 #[vr a1] [(.ref a1)])) rfl rfl (dk d23_1)
  refine gz X10 4 #[vr a1] [(.ref x1)] (fun _ k => st10 _ k) ?_
  refine Go.retA X10 hx hlk (t := (.object "com/example/aurel/aurel/orders/PaidPeriod")) hret (dk d23_4) ?_
  rw [e10]
  exact ⟨N0, rfl, rfl⟩
theorem ef_rm_g_paidPeriod_1 (m : MethodId) (x0 : Addr) : entryFrame m #[(.ref x0)] 1 = mkF m 0 #[vr x0] [] := by first | (simp [entryFrame, mkF, argsToLocals, Value.category]; done) | rfl
theorem rm_g_paidPeriod_1 {l : Launch} {Z : State} {a0 : Array Value} (hw : HW a0 Z) (a1 : Addr) (h0 : Heap) (n0 : Nat) (Z0 : n0 ≤ h0.size) (pr0 : Fld Z h0 a1 "com/example/aurel/aurel/orders/Order" "paidPeriod" "Lcom/example/aurel/aurel/orders/PaidPeriod;" .null) :
    Met l Z Y5 B15 1 (some (.object "com/example/aurel/aurel/orders/PaidPeriod")) [] ({ frames := 0, cells := 0, slots := 0, locals := 0 } : Room) #[(.ref a1)] h0 (fun vv h L => Fr n0 L ∧ vv = some .null ∧ h = h0) := by
  refine Met.enter (f0 := fun m => mkF m 0 #[vr a1] []) (plainFor_of_name pn2) (fun m => ef_rm_g_paidPeriod_1 m a1) ?_
  intro p e s m below meth c s₁ hx hby (hml : c.maxLocals = 1) (hown : s.vm.findClass "com/example/aurel/aurel/orders/Order" = some m.cls) hnm hret hlk hZ X0 e0
  have dk : Dk B15 c := fun h => hb hby h
  have W := @wd _ _ _ hw
  have N0 := Fr.nil n0
  refine gz X0 1 #[vr a1] [(.ref a1)] (fun _ k => aN X0 hx (dk d23_0) rfl rfl k) ?_
  obtain ⟨T10, X10, e10, st10⟩ := getF X0 hx hZ hown (host := "") (Or.inl (W 73 rfl)) Via.refl e0 pr0 (g := (mkF m 1 #[vr a1] [(.ref a1)])) rfl rfl (dk d23_1)
  refine gz X10 4 #[vr a1] [.null] (fun _ k => st10 _ k) ?_
  refine Go.retA X10 hx hlk (t := (.object "com/example/aurel/aurel/orders/PaidPeriod")) hret (dk d23_4) ?_
  rw [e10]
  exact ⟨N0, rfl, rfl⟩
theorem ef_rm0 (m : MethodId) (x0 : Int32) (x1 : Int32) (x2 : Int64) (x3 : Int64) (x4 : Int64) (x5 : Int64) : entryFrame m #[(.int x0), (.int x1), (.long x2), (.long x3), (.long x4), (.long x5)] maxLocals = mkF m 0 #[vi x0, vi x1, .val (.long x2), .second, .val (.long x3), .second, .val (.long x4), .second, .val (.long x5), .second, .unset, .unset, .unset, .unset, .unset, .unset, .unset, .unset, .unset, .unset, .unset, .unset, .unset] [] := by first | (simp [entryFrame, mkF, argsToLocals, Value.category, maxLocals]; done) | rfl
theorem pd_6 : parseMethodDescriptor "([C)V" = some ⟨[(.array .char)], none⟩ := by decide +kernel
theorem m6 {Z : State} {a0 : Array Value} (hw : HW a0 Z) : (Jvm.Cond.instanceMethod Y18).before a0 Z = true ∧ (Jvm.Cond.initialized "java/lang/String").before a0 Z = true ∧ (Jvm.Cond.code Y18 B2 (2 : Nat) (Option.none : Option Jvm.ClassFile.FieldType)).before a0 Z = true := ⟨(wd hw 5 rfl), (wd hw 3 rfl), (wd hw 6 rfl)⟩
theorem pd_7 : parseMethodDescriptor "(I)Lcom/example/aurel/aurel/catalog/ProductType;" = some ⟨[.int], some (.object "com/example/aurel/aurel/catalog/ProductType")⟩ := by decide +kernel
theorem m7 {Z : State} {a0 : Array Value} (hw : HW a0 Z) : (Jvm.Cond.static Y15).before a0 Z = true ∧ (Jvm.Cond.initialized "com/example/aurel/aurel/orders/OrderWithDeliveryConfirmedPinLaw").before a0 Z = true ∧ (Jvm.Cond.code Y15 B6 (1 : Nat) (Option.some (Jvm.ClassFile.FieldType.object "com/example/aurel/aurel/catalog/ProductType"))).before a0 Z = true := ⟨(wd hw 31 rfl), (wd hw 32 rfl), (wd hw 33 rfl)⟩
theorem pd_8 : parseMethodDescriptor "()Lcom/example/aurel/aurel/orders/Order;" = some ⟨[], some (.object "com/example/aurel/aurel/orders/Order")⟩ := by decide +kernel
theorem m8 {Z : State} {a0 : Array Value} (hw : HW a0 Z) : (Jvm.Cond.declares Y14).before a0 Z = true ∧ (Jvm.Cond.selects "com/example/aurel/aurel/orders/Order" Y14 Y14).before a0 Z = true ∧ (Jvm.Cond.instanceMethod Y14).before a0 Z = true ∧ (Jvm.Cond.initialized "com/example/aurel/aurel/orders/Order").before a0 Z = true ∧ (Jvm.Cond.code Y14 B17 (1 : Nat) (Option.some (Jvm.ClassFile.FieldType.object "com/example/aurel/aurel/orders/Order"))).before a0 Z = true := ⟨(wd hw 76 rfl), (wd hw 78 rfl), (wd hw 77 rfl), (wd hw 39 rfl), (wd hw 79 rfl)⟩
theorem pd_9 : parseMethodDescriptor "()Z" = some ⟨[], some .boolean⟩ := by decide +kernel
theorem m9 {Z : State} {a0 : Array Value} (hw : HW a0 Z) : (Jvm.Cond.declares Y3).before a0 Z = true ∧ (Jvm.Cond.selects "com/example/aurel/aurel/orders/Order" Y3 Y3).before a0 Z = true ∧ (Jvm.Cond.instanceMethod Y3).before a0 Z = true ∧ (Jvm.Cond.initialized "com/example/aurel/aurel/orders/Order").before a0 Z = true ∧ (Jvm.Cond.code Y3 B13 (1 : Nat) (Option.some Jvm.ClassFile.FieldType.boolean)).before a0 Z = true := ⟨(wd hw 83 rfl), (wd hw 85 rfl), (wd hw 84 rfl), (wd hw 39 rfl), (wd hw 86 rfl)⟩
theorem pd_10 : parseMethodDescriptor "()Ljava/lang/String;" = some ⟨[], some (.object "java/lang/String")⟩ := by decide +kernel
theorem m10 {Z : State} {a0 : Array Value} (hw : HW a0 Z) : (Jvm.Cond.declares Y9).before a0 Z = true ∧ (Jvm.Cond.selects "com/example/aurel/aurel/orders/Order" Y9 Y9).before a0 Z = true ∧ (Jvm.Cond.instanceMethod Y9).before a0 Z = true ∧ (Jvm.Cond.initialized "com/example/aurel/aurel/orders/Order").before a0 Z = true ∧ (Jvm.Cond.code Y9 B18 (1 : Nat) (Option.some (Jvm.ClassFile.FieldType.object "java/lang/String"))).before a0 Z = true := ⟨(wd hw 88 rfl), (wd hw 90 rfl), (wd hw 89 rfl), (wd hw 39 rfl), (wd hw 91 rfl)⟩
theorem m11 {Z : State} {a0 : Array Value} (hw : HW a0 Z) : (Jvm.Cond.declares Y11).before a0 Z = true ∧ (Jvm.Cond.selects "com/example/aurel/aurel/orders/Order" Y11 Y11).before a0 Z = true ∧ (Jvm.Cond.instanceMethod Y11).before a0 Z = true ∧ (Jvm.Cond.initialized "com/example/aurel/aurel/orders/Order").before a0 Z = true ∧ (Jvm.Cond.code Y11 B19 (1 : Nat) (Option.some (Jvm.ClassFile.FieldType.object "java/lang/String"))).before a0 Z = true := ⟨(wd hw 93 rfl), (wd hw 95 rfl), (wd hw 94 rfl), (wd hw 39 rfl), (wd hw 96 rfl)⟩
theorem m12 {Z : State} {a0 : Array Value} (hw : HW a0 Z) : (Jvm.Cond.declares Y13).before a0 Z = true ∧ (Jvm.Cond.selects "com/example/aurel/aurel/orders/Order" Y13 Y13).before a0 Z = true ∧ (Jvm.Cond.instanceMethod Y13).before a0 Z = true ∧ (Jvm.Cond.initialized "com/example/aurel/aurel/orders/Order").before a0 Z = true ∧ (Jvm.Cond.code Y13 B20 (1 : Nat) (Option.some (Jvm.ClassFile.FieldType.object "java/lang/String"))).before a0 Z = true := ⟨(wd hw 98 rfl), (wd hw 100 rfl), (wd hw 99 rfl), (wd hw 39 rfl), (wd hw 101 rfl)⟩
theorem m13 {Z : State} {a0 : Array Value} (hw : HW a0 Z) : (Jvm.Cond.declares Y1).before a0 Z = true ∧ (Jvm.Cond.selects "com/example/aurel/aurel/orders/Order" Y1 Y1).before a0 Z = true ∧ (Jvm.Cond.instanceMethod Y1).before a0 Z = true ∧ (Jvm.Cond.initialized "com/example/aurel/aurel/orders/Order").before a0 Z = true ∧ (Jvm.Cond.code Y1 B21 (1 : Nat) (Option.some (Jvm.ClassFile.FieldType.object "java/lang/String"))).before a0 Z = true := ⟨(wd hw 103 rfl), (wd hw 105 rfl), (wd hw 104 rfl), (wd hw 39 rfl), (wd hw 106 rfl)⟩
theorem m14 {Z : State} {a0 : Array Value} (hw : HW a0 Z) : (Jvm.Cond.declares Y4).before a0 Z = true ∧ (Jvm.Cond.selects "com/example/aurel/aurel/orders/Order" Y4 Y4).before a0 Z = true ∧ (Jvm.Cond.instanceMethod Y4).before a0 Z = true ∧ (Jvm.Cond.initialized "com/example/aurel/aurel/orders/Order").before a0 Z = true ∧ (Jvm.Cond.code Y4 B7 (1 : Nat) (Option.some (Jvm.ClassFile.FieldType.object "java/lang/String"))).before a0 Z = true := ⟨(wd hw 108 rfl), (wd hw 110 rfl), (wd hw 109 rfl), (wd hw 39 rfl), (wd hw 111 rfl)⟩
theorem m15 {Z : State} {a0 : Array Value} (hw : HW a0 Z) : (Jvm.Cond.declares Y7).before a0 Z = true ∧ (Jvm.Cond.selects "com/example/aurel/aurel/orders/Order" Y7 Y7).before a0 Z = true ∧ (Jvm.Cond.instanceMethod Y7).before a0 Z = true ∧ (Jvm.Cond.initialized "com/example/aurel/aurel/orders/Order").before a0 Z = true ∧ (Jvm.Cond.code Y7 B8 (1 : Nat) (Option.some (Jvm.ClassFile.FieldType.object "java/lang/String"))).before a0 Z = true := ⟨(wd hw 113 rfl), (wd hw 115 rfl), (wd hw 114 rfl), (wd hw 39 rfl), (wd hw 116 rfl)⟩
theorem pd_11 : parseMethodDescriptor "()Lcom/example/aurel/aurel/catalog/ProductType;" = some ⟨[], some (.object "com/example/aurel/aurel/catalog/ProductType")⟩ := by decide +kernel
theorem m16 {Z : State} {a0 : Array Value} (hw : HW a0 Z) : (Jvm.Cond.declares Y8).before a0 Z = true ∧ (Jvm.Cond.selects "com/example/aurel/aurel/orders/Order" Y8 Y8).before a0 Z = true ∧ (Jvm.Cond.instanceMethod Y8).before a0 Z = true ∧ (Jvm.Cond.initialized "com/example/aurel/aurel/orders/Order").before a0 Z = true ∧ (Jvm.Cond.code Y8 B9 (1 : Nat) (Option.some (Jvm.ClassFile.FieldType.object "com/example/aurel/aurel/catalog/ProductType"))).before a0 Z = true := ⟨(wd hw 118 rfl), (wd hw 120 rfl), (wd hw 119 rfl), (wd hw 39 rfl), (wd hw 121 rfl)⟩
theorem pd_12 : parseMethodDescriptor "()J" = some ⟨[], some .long⟩ := by decide +kernel
theorem m17 {Z : State} {a0 : Array Value} (hw : HW a0 Z) : (Jvm.Cond.declares Y10).before a0 Z = true ∧ (Jvm.Cond.selects "com/example/aurel/aurel/orders/Order" Y10 Y10).before a0 Z = true ∧ (Jvm.Cond.instanceMethod Y10).before a0 Z = true ∧ (Jvm.Cond.initialized "com/example/aurel/aurel/orders/Order").before a0 Z = true ∧ (Jvm.Cond.code Y10 B10 (1 : Nat) (Option.some Jvm.ClassFile.FieldType.long)).before a0 Z = true := ⟨(wd hw 123 rfl), (wd hw 125 rfl), (wd hw 124 rfl), (wd hw 39 rfl), (wd hw 126 rfl)⟩
theorem m18 {Z : State} {a0 : Array Value} (hw : HW a0 Z) : (Jvm.Cond.declares Y6).before a0 Z = true ∧ (Jvm.Cond.selects "com/example/aurel/aurel/orders/Order" Y6 Y6).before a0 Z = true ∧ (Jvm.Cond.instanceMethod Y6).before a0 Z = true ∧ (Jvm.Cond.initialized "com/example/aurel/aurel/orders/Order").before a0 Z = true ∧ (Jvm.Cond.code Y6 B11 (1 : Nat) (Option.some Jvm.ClassFile.FieldType.long)).before a0 Z = true := ⟨(wd hw 128 rfl), (wd hw 130 rfl), (wd hw 129 rfl), (wd hw 39 rfl), (wd hw 131 rfl)⟩
theorem m19 {Z : State} {a0 : Array Value} (hw : HW a0 Z) : (Jvm.Cond.declares Y2).before a0 Z = true ∧ (Jvm.Cond.selects "com/example/aurel/aurel/orders/Order" Y2 Y2).before a0 Z = true ∧ (Jvm.Cond.instanceMethod Y2).before a0 Z = true ∧ (Jvm.Cond.initialized "com/example/aurel/aurel/orders/Order").before a0 Z = true ∧ (Jvm.Cond.code Y2 B12 (1 : Nat) (Option.some (Jvm.ClassFile.FieldType.object "java/lang/String"))).before a0 Z = true := ⟨(wd hw 133 rfl), (wd hw 135 rfl), (wd hw 134 rfl), (wd hw 39 rfl), (wd hw 136 rfl)⟩
theorem m20 {Z : State} {a0 : Array Value} (hw : HW a0 Z) : (Jvm.Cond.declares Y12).before a0 Z = true ∧ (Jvm.Cond.selects "com/example/aurel/aurel/orders/Order" Y12 Y12).before a0 Z = true ∧ (Jvm.Cond.instanceMethod Y12).before a0 Z = true ∧ (Jvm.Cond.initialized "com/example/aurel/aurel/orders/Order").before a0 Z = true ∧ (Jvm.Cond.code Y12 B14 (1 : Nat) (Option.some Jvm.ClassFile.FieldType.long)).before a0 Z = true := ⟨(wd hw 138 rfl), (wd hw 140 rfl), (wd hw 139 rfl), (wd hw 39 rfl), (wd hw 141 rfl)⟩
theorem pd_13 : parseMethodDescriptor "()Lcom/example/aurel/aurel/orders/PaidPeriod;" = some ⟨[], some (.object "com/example/aurel/aurel/orders/PaidPeriod")⟩ := by decide +kernel
theorem m21 {Z : State} {a0 : Array Value} (hw : HW a0 Z) : (Jvm.Cond.declares Y5).before a0 Z = true ∧ (Jvm.Cond.selects "com/example/aurel/aurel/orders/Order" Y5 Y5).before a0 Z = true ∧ (Jvm.Cond.instanceMethod Y5).before a0 Z = true ∧ (Jvm.Cond.initialized "com/example/aurel/aurel/orders/Order").before a0 Z = true ∧ (Jvm.Cond.code Y5 B15 (1 : Nat) (Option.some (Jvm.ClassFile.FieldType.object "com/example/aurel/aurel/orders/PaidPeriod"))).before a0 Z = true := ⟨(wd hw 143 rfl), (wd hw 145 rfl), (wd hw 144 rfl), (wd hw 39 rfl), (wd hw 146 rfl)⟩
theorem pd_14 : parseMethodDescriptor "(Ljava/lang/String;Ljava/lang/String;J)V" = some ⟨[(.object "java/lang/String"), (.object "java/lang/String"), .long], none⟩ := by decide +kernel
theorem m22 {Z : State} {a0 : Array Value} (hw : HW a0 Z) : (Jvm.Cond.instanceMethod Y16).before a0 Z = true ∧ (Jvm.Cond.initialized "com/example/aurel/aurel/orders/PaidPeriod").before a0 Z = true ∧ (Jvm.Cond.code Y16 B22 (5 : Nat) (Option.none : Option Jvm.ClassFile.FieldType)).before a0 Z = true := ⟨(wd hw 153 rfl), (wd hw 151 rfl), (wd hw 154 rfl)⟩
def Q_rm0 (Z : State) (p1 : Int32) (p2 : Int32) (q3 : Int64) (q4 : Int64) (q5 : Int64) (q6 : Int64) (cs : Int32) (w0 : Addr) (w1 : Addr) (w2 : Addr) (w3 : Addr) (h0 : Heap) (n0 : Nat) (vv : Option Value) (h : Heap) (L : List Loc) : Prop := vv = some (.int 1) ∧ Fr n0 L
theorem rm0 (l : Launch) (Z : State) (a0 : Array Value) (hw : HW a0 Z) (ws : List Jvm.Cond) (p1 : Int32) (p2 : Int32) (q3 : Int64) (q4 : Int64) (q5 : Int64) (q6 : Int64) (cs : Int32) (w0 : Addr) (w1 : Addr) (w2 : Addr) (w3 : Addr) (h0 : Heap) (n0 : Nat) (Z0 : n0 ≤ h0.size) (pr0 : Old Z n0 h0) (pr1 : S0 Z cs) (hcs : ¬ (cs = (0 : Int32))) (pr3 : S1 Z w0) (pr4 : S2 Z w1) (pr5 : S3 Z w2) (pr6 : S4 Z w3) :
    Met l Z x code maxLocals ret ws room_1 #[(.int p1), (.int p2), (.long q3), (.long q4), (.long q5), (.long q6)] h0 (Q_rm0 Z p1 p2 q3 q4 q5 q6 cs w0 w1 w2 w3 h0 n0) := by
  refine Met.enter (f0 := fun m => mkF m 0 #[vi p1, vi p2, .val (.long q3), .second, .val (.long q4), .second, .val (.long q5), .second, .val (.long q6), .second, .unset, .unset, .unset, .unset, .unset, .unset, .unset, .unset, .unset, .unset, .unset, .unset, .unset] []) (plainFor_of_name pn0) (fun m => ef_rm0 m p1 p2 q3 q4 q5 q6) ?_
  intro p e s m below meth c s₁ hx hby (hml : c.maxLocals = 23) (hown : s.vm.findClass "com/example/aurel/aurel/orders/OrderWithDeliveryConfirmedPinLaw" = some m.cls) hnm hret hlk hZ X0 e0
  have dk : Dk code c := fun h => hb hby h
  have W := @wd _ _ _ hw
  have N0 := Fr.nil n0
  refine gz X0 1 #[vi p1, vi p2, .val (.long q3), .second, .val (.long q4), .second, .val (.long q5), .second, .val (.long q6), .second, .unset, .unset, .unset, .unset, .unset, .unset, .unset, .unset, .unset, .unset, .unset, .unset, .unset] [(.int 2)] (fun _ k => kC X0 hx (dk at_0) k) ?_
  obtain ⟨T10, h10, k10, X10, e10, E10, A10, st10⟩ := newP X0 hx hZ (W 0 rfl) e0 (g := (mkF m 1 #[vi p1, vi p2, .val (.long q3), .second, .val (.long q4), .second, .val (.long q5), .second, .val (.long q6), .second, .unset, .unset, .unset, .unset, .unset, .unset, .unset, .unset, .unset, .unset, .unset, .unset, .unset] [(.int 2)])) rfl (dk at_1) rfl (by decide) (cap := 2) (by decide) (by decide) (by decide) (by decide)
  obtain ⟨b10, g10⟩ : ∃ z, z = h0.size := ⟨_, rfl⟩
  rw [← g10] at A10 st10
  have sz_b10 : h0.size ≤ b10 := Nat.le_of_eq g10.symm
  have V10 : Arv Z h10 b10 k10 .char (2 : Int32) [(.int 0), (.int 0)] (.int 0) := (Arv.new A10 (by decide)).pad (pad_rep [] (.int 0) 2)
  have O11 := pr0.ext E10
  have Z11 : n0 ≤ h10.size := Nat.le_trans Z0 E10.1
  refine gz X10 11 #[vi p1, vi p2, .val (.long q3), .second, .val (.long q4), .second, .val (.long q5), .second, .val (.long q6), .second, .unset, .unset, .unset, .unset, .unset, .unset, .unset, .unset, .unset, .unset, .unset, .unset, .unset] [(.int ((p1 &&& (255 : Int32)).toUInt32.toUInt16.toUInt32.toInt32)), (.int 0), (.ref b10), (.ref b10)] (fun _ k => st10 _ (XS.dup X10.here hx rfl (dk at_3) rfl rfl (kC X10 hx (dk at_4) (lN X10 hx (dk at_5) rfl (XS.sipush X10.here hx rfl (dk at_6) (XS.iand X10.here hx rfl (dk at_9) rfl (XS.i2c X10.here hx rfl (dk at_10) rfl k))))))) ?_
  obtain ⟨cl12, Ar12, q12, S12, N_12, Hs12, G12⟩ := id V10
  have hin13 : ¬ ((0 : Int32) < 0 ∨ cl12.slots.size ≤ ((0 : Int32)).toNatClampNeg) := inb_of S12 ⟨by decide, by decide⟩
  obtain ⟨T13, h13, X13, e13, W13, st13⟩ := stC X10 hx hZ e10 Ar12 (j := (0 : Int32)) hin13 (g := (mkF m 11 #[vi p1, vi p2, .val (.long q3), .second, .val (.long q4), .second, .val (.long q5), .second, .val (.long q6), .second, .unset, .unset, .unset, .unset, .unset, .unset, .unset, .unset, .unset, .unset, .unset, .unset, .unset] [(.int ((p1 &&& (255 : Int32)).toUInt32.toUInt16.toUInt32.toInt32)), (.int 0), (.ref b10), (.ref b10)])) rfl rfl (dk at_11)
  have O14 := O11.wr W13 (Nat.le_trans Z0 sz_b10)
  have Z14 : n0 ≤ h13.size := Nat.le_trans Z11 (Keep.of_wr W13).1
  have V13 : Arv Z h13 b10 k10 .char (2 : Int32) [(.int (nar .char ((p1 &&& (255 : Int32)).toUInt32.toUInt16.toUInt32.toInt32))), (.int 0)] (.int 0) := Arv.set Ar12 q12 S12 N_12 Hs12 G12 (fits_nar_char _) W13 0 rfl (Nat.le_of_ble_eq_true rfl)
  have N13 := Fr.snoc X13 N0 (Nat.le_trans Z0 sz_b10)
  refine gz X13 23 #[vi p1, vi p2, .val (.long q3), .second, .val (.long q4), .second, .val (.long q5), .second, .val (.long q6), .second, .unset, .unset, .unset, .unset, .unset, .unset, .unset, .unset, .unset, .unset, .unset, .unset, .unset] [(.int ((((p1.toUInt32 >>> ((8 : Int32) &&& 31).toUInt32).toInt32) &&& (255 : Int32)).toUInt32.toUInt16.toUInt32.toInt32)), (.int 1), (.ref b10), (.ref b10)] (fun _ k => st13 _ (XS.dup X13.here hx rfl (dk at_12) rfl rfl (kC X13 hx (dk at_13) (lN X13 hx (dk at_14) rfl (XS.bipush X13.here hx rfl (dk at_15) (XS.iushr X13.here hx rfl (dk at_17) rfl (XS.sipush X13.here hx rfl (dk at_18) (XS.iand X13.here hx rfl (dk at_21) rfl (XS.i2c X13.here hx rfl (dk at_22) rfl k))))))))) ?_
  obtain ⟨cl15, Ar15, q15, S15, N_15, Hs15, G15⟩ := id V13
  have hin16 : ¬ ((1 : Int32) < 0 ∨ cl15.slots.size ≤ ((1 : Int32)).toNatClampNeg) := inb_of S15 ⟨by decide, by decide⟩
  obtain ⟨T16, h16, X16, e16, W16, st16⟩ := stC X13 hx hZ e13 Ar15 (j := (1 : Int32)) hin16 (g := (mkF m 23 #[vi p1, vi p2, .val (.long q3), .second, .val (.long q4), .second, .val (.long q5), .second, .val (.long q6), .second, .unset, .unset, .unset, .unset, .unset, .unset, .unset, .unset, .unset, .unset, .unset, .unset, .unset] [(.int ((((p1.toUInt32 >>> ((8 : Int32) &&& 31).toUInt32).toInt32) &&& (255 : Int32)).toUInt32.toUInt16.toUInt32.toInt32)), (.int 1), (.ref b10), (.ref b10)])) rfl rfl (dk at_23)
  have O17 := O14.wr W16 (Nat.le_trans Z0 sz_b10)
  have Z17 : n0 ≤ h16.size := Nat.le_trans Z14 (Keep.of_wr W16).1
  have V16 : Arv Z h16 b10 k10 .char (2 : Int32) [(.int (nar .char ((p1 &&& (255 : Int32)).toUInt32.toUInt16.toUInt32.toInt32))), (.int (nar .char ((((p1.toUInt32 >>> ((8 : Int32) &&& 31).toUInt32).toInt32) &&& (255 : Int32)).toUInt32.toUInt16.toUInt32.toInt32)))] (.int 0) := Arv.set Ar15 q15 S15 N_15 Hs15 G15 (fits_nar_char _) W16 1 rfl (Nat.le_of_ble_eq_true rfl)
  have N16 := Fr.snoc X16 N13 (Nat.le_trans Z0 sz_b10)
  refine gz X16 26 #[vi p1, vi p2, .val (.long q3), .second, .val (.long q4), .second, .val (.long q5), .second, .val (.long q6), .second, vr b10, .unset, .unset, .unset, .unset, .unset, .unset, .unset, .unset, .unset, .unset, .unset, .unset] [] (fun _ k => st16 _ (tI X16 hx (dk at_24) rfl rfl rfl (.inl rfl) k)) ?_
  obtain ⟨T18, h18, X18, e18, E18, A18, D18, -, st18⟩ := newO X16 hx hZ hown (W 1 rfl) (W 2 rfl) (W 3 rfl) e16 (g := (mkF m 26 #[vi p1, vi p2, .val (.long q3), .second, .val (.long q4), .second, .val (.long q5), .second, .val (.long q6), .second, vr b10, .unset, .unset, .unset, .unset, .unset, .unset, .unset, .unset, .unset, .unset, .unset, .unset] [])) rfl (dk at_26) (by decide) (by decide)
  obtain ⟨b18, g18⟩ : ∃ z, z = h16.size := ⟨_, rfl⟩
  rw [← g18] at A18 D18 st18
  have sz_b18 : h16.size ≤ b18 := Nat.le_of_eq g18.symm
  have O19 := O17.ext E18
  have Z19 : n0 ≤ h18.size := Nat.le_trans Z17 E18.1
  have F20 : FC Z h18 b18 0 := D18 (Or.inr (W 27 rfl)) (ty := .byte) (by decide)
  have F21 : Fld Z h18 b18 "java/lang/String" "value" "[B" .null := D18 (Or.inr (W 29 rfl)) (ty := (.array .byte)) (by decide)
  refine gz X18 32 #[vi p1, vi p2, .val (.long q3), .second, .val (.long q4), .second, .val (.long q5), .second, .val (.long q6), .second, vr b10, .unset, .unset, .unset, .unset, .unset, .unset, .unset, .unset, .unset, .unset, .unset, .unset] [(.ref b10), (.ref b18), (.ref b18)] (fun _ k => st18 _ (XS.dup X18.here hx rfl (dk at_29) rfl rfl (aI X18 hx (dk at_30) rfl rfl k))) ?_
  refine goI X18 hx hZ hown (W 4 rfl) (m6 hw) 1 3 8 (rm_sC_2 hw b18 b10 k10 (nar .char ((p1 &&& (255 : Int32)).toUInt32.toUInt16.toUInt32.toInt32)) (nar .char ((((p1.toUInt32 >>> ((8 : Int32) &&& 31).toUInt32).toInt32) &&& (255 : Int32)).toUInt32.toUInt16.toUInt32.toInt32)) cs h18 n0 Z19 O19 pr1 hcs A18 F21 F20 (Nat.le_trans Z17 sz_b18) (V16.ext E18) (own_chn _) (own_chn _)) N16 e18 pd_6 hml (dk at_32) ?_
  rintro _ T22 L22 X22 N22 ⟨t22, k22, rfl, K22, p22_0, p22_1, p22_2, p22_3, p22_4⟩
  have O23 := O19.keep K22 (allS (Nat.le_trans Z17 sz_b18) all0)
  have Z23 : n0 ≤ T22.heap.size := Nat.le_trans Z19 K22.1
  have sz_t22 : h18.size ≤ t22 := p22_4
  refine gz X22 37 #[vi p1, vi p2, .val (.long q3), .second, .val (.long q4), .second, .val (.long q5), .second, .val (.long q6), .second, vr b10, vr b18, .unset, .unset, .unset, .unset, .unset, .unset, .unset, .unset, .unset, .unset, .unset] [] (fun _ k => tI X22 hx (dk at_35) rfl rfl rfl (.inl rfl) k) ?_
  obtain ⟨T24, h24, X24, e24, E24, A24, D24, -, st24⟩ := newO X22 hx hZ hown (W 1 rfl) (W 2 rfl) (W 3 rfl) rfl (g := (mkF m 37 #[vi p1, vi p2, .val (.long q3), .second, .val (.long q4), .second, .val (.long q5), .second, .val (.long q6), .second, vr b10, vr b18, .unset, .unset, .unset, .unset, .unset, .unset, .unset, .unset, .unset, .unset, .unset] [])) rfl (dk at_37) (by decide) (by decide)
  obtain ⟨b24, g24⟩ : ∃ z, z = T22.heap.size := ⟨_, rfl⟩
  rw [← g24] at A24 D24 st24
  have sz_b24 : T22.heap.size ≤ b24 := Nat.le_of_eq g24.symm
  have O25 := O23.ext E24
  have Z25 : n0 ≤ h24.size := Nat.le_trans Z23 E24.1
  have F26 : FC Z h24 b24 0 := D24 (Or.inr (W 27 rfl)) (ty := .byte) (by decide)
  have F27 : Fld Z h24 b24 "java/lang/String" "value" "[B" .null := D24 (Or.inr (W 29 rfl)) (ty := (.array .byte)) (by decide)
  refine gz X24 43 #[vi p1, vi p2, .val (.long q3), .second, .val (.long q4), .second, .val (.long q5), .second, .val (.long q6), .second, vr b10, vr b18, .unset, .unset, .unset, .unset, .unset, .unset, .unset, .unset, .unset, .unset, .unset] [(.ref b10), (.ref b24), (.ref b24)] (fun _ k => st24 _ (XS.dup X24.here hx rfl (dk at_40) rfl rfl (aI X24 hx (dk at_41) rfl rfl k))) ?_
  have f28 := (((V16.ext E18).keep K22 (ninS (Nat.ne_of_lt (Nat.lt_of_lt_of_le V16.lt sz_b18)) nin0)).ext E24)
  refine goI X24 hx hZ hown (W 4 rfl) (m6 hw) 1 5 14 (rm_sC_2 hw b24 b10 k10 (nar .char ((p1 &&& (255 : Int32)).toUInt32.toUInt16.toUInt32.toInt32)) (nar .char ((((p1.toUInt32 >>> ((8 : Int32) &&& 31).toUInt32).toInt32) &&& (255 : Int32)).toUInt32.toUInt16.toUInt32.toInt32)) cs h24 n0 Z25 O25 pr1 hcs A24 F27 F26 (Nat.le_trans Z23 sz_b24) f28 (own_chn _) (own_chn _)) N22 e24 pd_6 hml (dk at_43) ?_
  rintro _ T29 L29 X29 N29 ⟨t29, k29, rfl, K29, p29_0, p29_1, p29_2, p29_3, p29_4⟩
  have O30 := O25.keep K29 (allS (Nat.le_trans Z23 sz_b24) all0)
  have Z30 : n0 ≤ T29.heap.size := Nat.le_trans Z25 K29.1
  have sz_t29 : h24.size ≤ t29 := p29_4
  refine gz X29 48 #[vi p1, vi p2, .val (.long q3), .second, .val (.long q4), .second, .val (.long q5), .second, .val (.long q6), .second, vr b10, vr b18, vr b24, .unset, .unset, .unset, .unset, .unset, .unset, .unset, .unset, .unset, .unset] [] (fun _ k => tI X29 hx (dk at_46) rfl rfl rfl (.inl rfl) k) ?_
  obtain ⟨T31, h31, X31, e31, E31, A31, D31, -, st31⟩ := newO X29 hx hZ hown (W 1 rfl) (W 2 rfl) (W 3 rfl) rfl (g := (mkF m 48 #[vi p1, vi p2, .val (.long q3), .second, .val (.long q4), .second, .val (.long q5), .second, .val (.long q6), .second, vr b10, vr b18, vr b24, .unset, .unset, .unset, .unset, .unset, .unset, .unset, .unset, .unset, .unset] [])) rfl (dk at_48) (by decide) (by decide)
  obtain ⟨b31, g31⟩ : ∃ z, z = T29.heap.size := ⟨_, rfl⟩
  rw [← g31] at A31 D31 st31
  have sz_b31 : T29.heap.size ≤ b31 := Nat.le_of_eq g31.symm
  have O32 := O30.ext E31
  have Z32 : n0 ≤ h31.size := Nat.le_trans Z30 E31.1
  have F33 : FC Z h31 b31 0 := D31 (Or.inr (W 27 rfl)) (ty := .byte) (by decide)
  have F34 : Fld Z h31 b31 "java/lang/String" "value" "[B" .null := D31 (Or.inr (W 29 rfl)) (ty := (.array .byte)) (by decide)
  refine gz X31 54 #[vi p1, vi p2, .val (.long q3), .second, .val (.long q4), .second, .val (.long q5), .second, .val (.long q6), .second, vr b10, vr b18, vr b24, .unset, .unset, .unset, .unset, .unset, .unset, .unset, .unset, .unset, .unset] [(.ref b10), (.ref b31), (.ref b31)] (fun _ k => st31 _ (XS.dup X31.here hx rfl (dk at_51) rfl rfl (aI X31 hx (dk at_52) rfl rfl k))) ?_
  have f35 := ((f28.keep K29 (ninS (Nat.ne_of_lt (Nat.lt_of_lt_of_le ((V16.ext E18).keep K22 (ninS (Nat.ne_of_lt (Nat.lt_of_lt_of_le V16.lt sz_b18)) nin0)).lt sz_b24)) nin0)).ext E31)
  refine goI X31 hx hZ hown (W 4 rfl) (m6 hw) 1 7 20 (rm_sC_2 hw b31 b10 k10 (nar .char ((p1 &&& (255 : Int32)).toUInt32.toUInt16.toUInt32.toInt32)) (nar .char ((((p1.toUInt32 >>> ((8 : Int32) &&& 31).toUInt32).toInt32) &&& (255 : Int32)).toUInt32.toUInt16.toUInt32.toInt32)) cs h31 n0 Z32 O32 pr1 hcs A31 F34 F33 (Nat.le_trans Z30 sz_b31) f35 (own_chn _) (own_chn _)) N29 e31 pd_6 hml (dk at_54) ?_
  rintro _ T36 L36 X36 N36 ⟨t36, k36, rfl, K36, p36_0, p36_1, p36_2, p36_3, p36_4⟩
  have O37 := O32.keep K36 (allS (Nat.le_trans Z30 sz_b31) all0)
  have Z37 : n0 ≤ T36.heap.size := Nat.le_trans Z32 K36.1
  have sz_t36 : h31.size ≤ t36 := p36_4
  refine gz X36 59 #[vi p1, vi p2, .val (.long q3), .second, .val (.long q4), .second, .val (.long q5), .second, .val (.long q6), .second, vr b10, vr b18, vr b24, vr b31, .unset, .unset, .unset, .unset, .unset, .unset, .unset, .unset, .unset] [] (fun _ k => tI X36 hx (dk at_57) rfl rfl rfl (.inl rfl) k) ?_
  obtain ⟨T38, h38, X38, e38, E38, A38, D38, -, st38⟩ := newO X36 hx hZ hown (W 1 rfl) (W 2 rfl) (W 3 rfl) rfl (g := (mkF m 59 #[vi p1, vi p2, .val (.long q3), .second, .val (.long q4), .second, .val (.long q5), .second, .val (.long q6), .second, vr b10, vr b18, vr b24, vr b31, .unset, .unset, .unset, .unset, .unset, .unset, .unset, .unset, .unset] [])) rfl (dk at_59) (by decide) (by decide)
  obtain ⟨b38, g38⟩ : ∃ z, z = T36.heap.size := ⟨_, rfl⟩
  rw [← g38] at A38 D38 st38
  have sz_b38 : T36.heap.size ≤ b38 := Nat.le_of_eq g38.symm
  have O39 := O37.ext E38
  have Z39 : n0 ≤ h38.size := Nat.le_trans Z37 E38.1
  have F40 : FC Z h38 b38 0 := D38 (Or.inr (W 27 rfl)) (ty := .byte) (by decide)
  have F41 : Fld Z h38 b38 "java/lang/String" "value" "[B" .null := D38 (Or.inr (W 29 rfl)) (ty := (.array .byte)) (by decide)
  refine gz X38 65 #[vi p1, vi p2, .val (.long q3), .second, .val (.long q4), .second, .val (.long q5), .second, .val (.long q6), .second, vr b10, vr b18, vr b24, vr b31, .unset, .unset, .unset, .unset, .unset, .unset, .unset, .unset, .unset] [(.ref b10), (.ref b38), (.ref b38)] (fun _ k => st38 _ (XS.dup X38.here hx rfl (dk at_62) rfl rfl (aI X38 hx (dk at_63) rfl rfl k))) ?_
  have f42 := ((f35.keep K36 (ninS (Nat.ne_of_lt (Nat.lt_of_lt_of_le (f28.keep K29 (ninS (Nat.ne_of_lt (Nat.lt_of_lt_of_le ((V16.ext E18).keep K22 (ninS (Nat.ne_of_lt (Nat.lt_of_lt_of_le V16.lt sz_b18)) nin0)).lt sz_b24)) nin0)).lt sz_b31)) nin0)).ext E38)
  refine goI X38 hx hZ hown (W 4 rfl) (m6 hw) 1 9 26 (rm_sC_2 hw b38 b10 k10 (nar .char ((p1 &&& (255 : Int32)).toUInt32.toUInt16.toUInt32.toInt32)) (nar .char ((((p1.toUInt32 >>> ((8 : Int32) &&& 31).toUInt32).toInt32) &&& (255 : Int32)).toUInt32.toUInt16.toUInt32.toInt32)) cs h38 n0 Z39 O39 pr1 hcs A38 F41 F40 (Nat.le_trans Z37 sz_b38) f42 (own_chn _) (own_chn _)) N36 e38 pd_6 hml (dk at_65) ?_
  rintro _ T43 L43 X43 N43 ⟨t43, k43, rfl, K43, p43_0, p43_1, p43_2, p43_3, p43_4⟩
  have O44 := O39.keep K43 (allS (Nat.le_trans Z37 sz_b38) all0)
  have Z44 : n0 ≤ T43.heap.size := Nat.le_trans Z39 K43.1
  have sz_t43 : h38.size ≤ t43 := p43_4
  refine gz X43 70 #[vi p1, vi p2, .val (.long q3), .second, .val (.long q4), .second, .val (.long q5), .second, .val (.long q6), .second, vr b10, vr b18, vr b24, vr b31, vr b38, .unset, .unset, .unset, .unset, .unset, .unset, .unset, .unset] [] (fun _ k => tI X43 hx (dk at_68) rfl rfl rfl (.inl rfl) k) ?_
  obtain ⟨T45, h45, X45, e45, E45, A45, D45, -, st45⟩ := newO X43 hx hZ hown (W 1 rfl) (W 2 rfl) (W 3 rfl) rfl (g := (mkF m 70 #[vi p1, vi p2, .val (.long q3), .second, .val (.long q4), .second, .val (.long q5), .second, .val (.long q6), .second, vr b10, vr b18, vr b24, vr b31, vr b38, .unset, .unset, .unset, .unset, .unset, .unset, .unset, .unset] [])) rfl (dk at_70) (by decide) (by decide)
  obtain ⟨b45, g45⟩ : ∃ z, z = T43.heap.size := ⟨_, rfl⟩
  rw [← g45] at A45 D45 st45
  have sz_b45 : T43.heap.size ≤ b45 := Nat.le_of_eq g45.symm
  have O46 := O44.ext E45
  have Z46 : n0 ≤ h45.size := Nat.le_trans Z44 E45.1
  have F47 : FC Z h45 b45 0 := D45 (Or.inr (W 27 rfl)) (ty := .byte) (by decide)
  have F48 : Fld Z h45 b45 "java/lang/String" "value" "[B" .null := D45 (Or.inr (W 29 rfl)) (ty := (.array .byte)) (by decide)
  refine gz X45 76 #[vi p1, vi p2, .val (.long q3), .second, .val (.long q4), .second, .val (.long q5), .second, .val (.long q6), .second, vr b10, vr b18, vr b24, vr b31, vr b38, .unset, .unset, .unset, .unset, .unset, .unset, .unset, .unset] [(.ref b10), (.ref b45), (.ref b45)] (fun _ k => st45 _ (XS.dup X45.here hx rfl (dk at_73) rfl rfl (aI X45 hx (dk at_74) rfl rfl k))) ?_
  have f49 := ((f42.keep K43 (ninS (Nat.ne_of_lt (Nat.lt_of_lt_of_le (f35.keep K36 (ninS (Nat.ne_of_lt (Nat.lt_of_lt_of_le (f28.keep K29 (ninS (Nat.ne_of_lt (Nat.lt_of_lt_of_le ((V16.ext E18).keep K22 (ninS (Nat.ne_of_lt (Nat.lt_of_lt_of_le V16.lt sz_b18)) nin0)).lt sz_b24)) nin0)).lt sz_b31)) nin0)).lt sz_b38)) nin0)).ext E45)
  refine goI X45 hx hZ hown (W 4 rfl) (m6 hw) 1 11 32 (rm_sC_2 hw b45 b10 k10 (nar .char ((p1 &&& (255 : Int32)).toUInt32.toUInt16.toUInt32.toInt32)) (nar .char ((((p1.toUInt32 >>> ((8 : Int32) &&& 31).toUInt32).toInt32) &&& (255 : Int32)).toUInt32.toUInt16.toUInt32.toInt32)) cs h45 n0 Z46 O46 pr1 hcs A45 F48 F47 (Nat.le_trans Z44 sz_b45) f49 (own_chn _) (own_chn _)) N43 e45 pd_6 hml (dk at_76) ?_
  rintro _ T50 L50 X50 N50 ⟨t50, k50, rfl, K50, p50_0, p50_1, p50_2, p50_3, p50_4⟩
  have O51 := O46.keep K50 (allS (Nat.le_trans Z44 sz_b45) all0)
  have Z51 : n0 ≤ T50.heap.size := Nat.le_trans Z46 K50.1
  have sz_t50 : h45.size ≤ t50 := p50_4
  refine gz X50 81 #[vi p1, vi p2, .val (.long q3), .second, .val (.long q4), .second, .val (.long q5), .second, .val (.long q6), .second, vr b10, vr b18, vr b24, vr b31, vr b38, vr b45, .unset, .unset, .unset, .unset, .unset, .unset, .unset] [] (fun _ k => tI X50 hx (dk at_79) rfl rfl rfl (.inl rfl) k) ?_
  obtain ⟨T52, h52, X52, e52, E52, A52, D52, -, st52⟩ := newO X50 hx hZ hown (W 1 rfl) (W 2 rfl) (W 3 rfl) rfl (g := (mkF m 81 #[vi p1, vi p2, .val (.long q3), .second, .val (.long q4), .second, .val (.long q5), .second, .val (.long q6), .second, vr b10, vr b18, vr b24, vr b31, vr b38, vr b45, .unset, .unset, .unset, .unset, .unset, .unset, .unset] [])) rfl (dk at_81) (by decide) (by decide)
  obtain ⟨b52, g52⟩ : ∃ z, z = T50.heap.size := ⟨_, rfl⟩
  rw [← g52] at A52 D52 st52
  have sz_b52 : T50.heap.size ≤ b52 := Nat.le_of_eq g52.symm
  have O53 := O51.ext E52
  have Z53 : n0 ≤ h52.size := Nat.le_trans Z51 E52.1
  have F54 : FC Z h52 b52 0 := D52 (Or.inr (W 27 rfl)) (ty := .byte) (by decide)
  have F55 : Fld Z h52 b52 "java/lang/String" "value" "[B" .null := D52 (Or.inr (W 29 rfl)) (ty := (.array .byte)) (by decide)
  refine gz X52 87 #[vi p1, vi p2, .val (.long q3), .second, .val (.long q4), .second, .val (.long q5), .second, .val (.long q6), .second, vr b10, vr b18, vr b24, vr b31, vr b38, vr b45, .unset, .unset, .unset, .unset, .unset, .unset, .unset] [(.ref b10), (.ref b52), (.ref b52)] (fun _ k => st52 _ (XS.dup X52.here hx rfl (dk at_84) rfl rfl (aI X52 hx (dk at_85) rfl rfl k))) ?_
  have f56 := ((f49.keep K50 (ninS (Nat.ne_of_lt (Nat.lt_of_lt_of_le (f42.keep K43 (ninS (Nat.ne_of_lt (Nat.lt_of_lt_of_le (f35.keep K36 (ninS (Nat.ne_of_lt (Nat.lt_of_lt_of_le (f28.keep K29 (ninS (Nat.ne_of_lt (Nat.lt_of_lt_of_le ((V16.ext E18).keep K22 (ninS (Nat.ne_of_lt (Nat.lt_of_lt_of_le V16.lt sz_b18)) nin0)).lt sz_b24)) nin0)).lt sz_b31)) nin0)).lt sz_b38)) nin0)).lt sz_b45)) nin0)).ext E52)
  refine goI X52 hx hZ hown (W 4 rfl) (m6 hw) 1 13 38 (rm_sC_2 hw b52 b10 k10 (nar .char ((p1 &&& (255 : Int32)).toUInt32.toUInt16.toUInt32.toInt32)) (nar .char ((((p1.toUInt32 >>> ((8 : Int32) &&& 31).toUInt32).toInt32) &&& (255 : Int32)).toUInt32.toUInt16.toUInt32.toInt32)) cs h52 n0 Z53 O53 pr1 hcs A52 F55 F54 (Nat.le_trans Z51 sz_b52) f56 (own_chn _) (own_chn _)) N50 e52 pd_6 hml (dk at_87) ?_
  rintro _ T57 L57 X57 N57 ⟨t57, k57, rfl, K57, p57_0, p57_1, p57_2, p57_3, p57_4⟩
  have O58 := O53.keep K57 (allS (Nat.le_trans Z51 sz_b52) all0)
  have Z58 : n0 ≤ T57.heap.size := Nat.le_trans Z53 K57.1
  have sz_t57 : h52.size ≤ t57 := p57_4
  refine gz X57 92 #[vi p1, vi p2, .val (.long q3), .second, .val (.long q4), .second, .val (.long q5), .second, .val (.long q6), .second, vr b10, vr b18, vr b24, vr b31, vr b38, vr b45, vr b52, .unset, .unset, .unset, .unset, .unset, .unset] [] (fun _ k => tI X57 hx (dk at_90) rfl rfl rfl (.inl rfl) k) ?_
  obtain ⟨T59, h59, X59, e59, E59, A59, D59, -, st59⟩ := newO X57 hx hZ hown (W 1 rfl) (W 2 rfl) (W 3 rfl) rfl (g := (mkF m 92 #[vi p1, vi p2, .val (.long q3), .second, .val (.long q4), .second, .val (.long q5), .second, .val (.long q6), .second, vr b10, vr b18, vr b24, vr b31, vr b38, vr b45, vr b52, .unset, .unset, .unset, .unset, .unset, .unset] [])) rfl (dk at_92) (by decide) (by decide)
  obtain ⟨b59, g59⟩ : ∃ z, z = T57.heap.size := ⟨_, rfl⟩
  rw [← g59] at A59 D59 st59
  have sz_b59 : T57.heap.size ≤ b59 := Nat.le_of_eq g59.symm
  have O60 := O58.ext E59
  have Z60 : n0 ≤ h59.size := Nat.le_trans Z58 E59.1
  have F61 : FC Z h59 b59 0 := D59 (Or.inr (W 27 rfl)) (ty := .byte) (by decide)
  have F62 : Fld Z h59 b59 "java/lang/String" "value" "[B" .null := D59 (Or.inr (W 29 rfl)) (ty := (.array .byte)) (by decide)
  refine gz X59 98 #[vi p1, vi p2, .val (.long q3), .second, .val (.long q4), .second, .val (.long q5), .second, .val (.long q6), .second, vr b10, vr b18, vr b24, vr b31, vr b38, vr b45, vr b52, .unset, .unset, .unset, .unset, .unset, .unset] [(.ref b10), (.ref b59), (.ref b59)] (fun _ k => st59 _ (XS.dup X59.here hx rfl (dk at_95) rfl rfl (aI X59 hx (dk at_96) rfl rfl k))) ?_
  have f63 := ((f56.keep K57 (ninS (Nat.ne_of_lt (Nat.lt_of_lt_of_le (f49.keep K50 (ninS (Nat.ne_of_lt (Nat.lt_of_lt_of_le (f42.keep K43 (ninS (Nat.ne_of_lt (Nat.lt_of_lt_of_le (f35.keep K36 (ninS (Nat.ne_of_lt (Nat.lt_of_lt_of_le (f28.keep K29 (ninS (Nat.ne_of_lt (Nat.lt_of_lt_of_le ((V16.ext E18).keep K22 (ninS (Nat.ne_of_lt (Nat.lt_of_lt_of_le V16.lt sz_b18)) nin0)).lt sz_b24)) nin0)).lt sz_b31)) nin0)).lt sz_b38)) nin0)).lt sz_b45)) nin0)).lt sz_b52)) nin0)).ext E59)
  refine goI X59 hx hZ hown (W 4 rfl) (m6 hw) 1 15 44 (rm_sC_2 hw b59 b10 k10 (nar .char ((p1 &&& (255 : Int32)).toUInt32.toUInt16.toUInt32.toInt32)) (nar .char ((((p1.toUInt32 >>> ((8 : Int32) &&& 31).toUInt32).toInt32) &&& (255 : Int32)).toUInt32.toUInt16.toUInt32.toInt32)) cs h59 n0 Z60 O60 pr1 hcs A59 F62 F61 (Nat.le_trans Z58 sz_b59) f63 (own_chn _) (own_chn _)) N57 e59 pd_6 hml (dk at_98) ?_
  rintro _ T64 L64 X64 N64 ⟨t64, k64, rfl, K64, p64_0, p64_1, p64_2, p64_3, p64_4⟩
  have O65 := O60.keep K64 (allS (Nat.le_trans Z58 sz_b59) all0)
  have Z65 : n0 ≤ T64.heap.size := Nat.le_trans Z60 K64.1
  have sz_t64 : h59.size ≤ t64 := p64_4
  refine gz X64 106 #[vi p1, vi p2, .val (.long q3), .second, .val (.long q4), .second, .val (.long q5), .second, .val (.long q6), .second, vr b10, vr b18, vr b24, vr b31, vr b38, vr b45, vr b52, vr b59, .unset, .unset, .unset, .unset, .unset] [(.int (p2 &&& (3 : Int32)))] (fun _ k => tI X64 hx (dk at_101) rfl rfl rfl (.inl rfl) (lN X64 hx (dk at_103) rfl (kC X64 hx (dk at_104) (XS.iand X64.here hx rfl (dk at_105) rfl k)))) ?_
  refine goS X64 hx hZ hown (W 30 rfl) (m7 hw) 1 15 44 (rm_type hw (p2 &&& (3 : Int32)) w0 w1 w2 w3 T64.heap n0 Z65 O65 pr3 pr4 pr5 pr6) N64 rfl pd_7 hml (dk at_106) ?_
  rintro _ T66 L66 X66 N66 ⟨o66, rfl, hh66⟩
  refine gz X66 116 #[vi p1, vi p2, .val (.long q3), .second, .val (.long q4), .second, .val (.long q5), .second, .val (.long q6), .second, vr b10, vr b18, vr b24, vr b31, vr b38, vr b45, vr b52, vr b59, vr o66, .unset, .unset, .unset, .unset] [(.int (((p2.toUInt32 >>> ((2 : Int32) &&& 31).toUInt32).toInt32) &&& (1 : Int32)))] (fun _ k => tI X66 hx (dk at_109) rfl rfl rfl (.inl rfl) (lN X66 hx (dk at_111) rfl (kC X66 hx (dk at_112) (XS.iushr X66.here hx rfl (dk at_113) rfl (kC X66 hx (dk at_114) (XS.iand X66.here hx rfl (dk at_115) rfl k)))))) ?_
  by_cases c67 : (((p2.toUInt32 >>> ((2 : Int32) &&& 31).toUInt32).toInt32) &&& (1 : Int32)) = (0 : Int32)
  · skip
    refine gz X66 134 #[vi p1, vi p2, .val (.long q3), .second, .val (.long q4), .second, .val (.long q5), .second, .val (.long q6), .second, vr b10, vr b18, vr b24, vr b31, vr b38, vr b45, vr b52, vr b59, vr o66, vi 0, .val .null, .unset, .unset] [(.int (((p2.toUInt32 >>> ((3 : Int32) &&& 31).toUInt32).toInt32) &&& (1 : Int32)))] (fun _ k => fY X66 hx 116 123 rfl (dk at_116) rfl ((if0 _ _).trans (teq c67).1) (kC X66 hx (dk at_123) (sI X66 hx (dk at_124) rfl rfl (.inl rfl) (XS.aconstNull X66.here hx rfl (dk at_126) (tI X66 hx (dk at_127) rfl rfl rfl (.inl rfl) (lN X66 hx (dk at_129) rfl (kC X66 hx (dk at_130) (XS.iushr X66.here hx rfl (dk at_131) rfl (kC X66 hx (dk at_132) (XS.iand X66.here hx rfl (dk at_133) rfl k)))))))))) ?_
    by_cases c68 : (((p2.toUInt32 >>> ((3 : Int32) &&& 31).toUInt32).toInt32) &&& (1 : Int32)) = (0 : Int32)
    · skip
      refine gz X66 166 #[vi p1, vi p2, .val (.long q3), .second, .val (.long q4), .second, .val (.long q5), .second, .val (.long q6), .second, vr b10, vr b18, vr b24, vr b31, vr b38, vr b45, vr b52, vr b59, vr o66, vi 0, .val .null, .unset, .unset] [] (fun _ k => fY X66 hx 134 166 rfl (dk at_134) rfl ((if0 _ _).trans (teq c68).1) k) ?_
      obtain ⟨T69, h69, X69, e69, E69, A69, D69, -, st69⟩ := newO X66 hx hZ hown (W 37 rfl) (W 38 rfl) (W 39 rfl) hh66 (g := (mkF m 166 #[vi p1, vi p2, .val (.long q3), .second, .val (.long q4), .second, .val (.long q5), .second, .val (.long q6), .second, vr b10, vr b18, vr b24, vr b31, vr b38, vr b45, vr b52, vr b59, vr o66, vi 0, .val .null, .unset, .unset] [])) rfl (dk at_166) (by decide) (by decide)
      obtain ⟨b69, g69⟩ : ∃ z, z = T64.heap.size := ⟨_, rfl⟩
      rw [← g69] at A69 D69 st69
      have sz_b69 : T64.heap.size ≤ b69 := Nat.le_of_eq g69.symm
      have O70 := O65.ext E69
      have Z70 : n0 ≤ h69.size := Nat.le_trans Z65 E69.1
      have F71 : Fld Z h69 b69 "com/example/aurel/aurel/orders/Order" "purchaseOrderId" "Ljava/lang/String;" .null := D69 (Or.inr (W 50 rfl)) (ty := (.object "java/lang/String")) (by decide)
      have F72 : Fld Z h69 b69 "com/example/aurel/aurel/orders/Order" "purchaseToken" "Ljava/lang/String;" .null := D69 (Or.inr (W 52 rfl)) (ty := (.object "java/lang/String")) (by decide)
      have F73 : Fld Z h69 b69 "com/example/aurel/aurel/orders/Order" "userId" "Ljava/lang/String;" .null := D69 (Or.inr (W 54 rfl)) (ty := (.object "java/lang/String")) (by decide)
      have F74 : Fld Z h69 b69 "com/example/aurel/aurel/orders/Order" "applicationId" "Ljava/lang/String;" .null := D69 (Or.inr (W 56 rfl)) (ty := (.object "java/lang/String")) (by decide)
      have F75 : Fld Z h69 b69 "com/example/aurel/aurel/orders/Order" "packageName" "Ljava/lang/String;" .null := D69 (Or.inr (W 58 rfl)) (ty := (.object "java/lang/String")) (by decide)
      have F76 : Fld Z h69 b69 "com/example/aurel/aurel/orders/Order" "productId" "Ljava/lang/String;" .null := D69 (Or.inr (W 60 rfl)) (ty := (.object "java/lang/String")) (by decide)
      have F77 : Fld Z h69 b69 "com/example/aurel/aurel/orders/Order" "productType" "Lcom/example/aurel/aurel/catalog/ProductType;" .null := D69 (Or.inr (W 62 rfl)) (ty := (.object "com/example/aurel/aurel/catalog/ProductType")) (by decide)
      have F78 : Fld Z h69 b69 "com/example/aurel/aurel/orders/Order" "purchaseTime" "J" (.long (0 : Int64)) := D69 (Or.inr (W 64 rfl)) (ty := .long) (by decide)
      have F79 : Fld Z h69 b69 "com/example/aurel/aurel/orders/Order" "price" "J" (.long (0 : Int64)) := D69 (Or.inr (W 66 rfl)) (ty := .long) (by decide)
      have F80 : Fld Z h69 b69 "com/example/aurel/aurel/orders/Order" "currency" "Ljava/lang/String;" .null := D69 (Or.inr (W 68 rfl)) (ty := (.object "java/lang/String")) (by decide)
      have F81 : Fld Z h69 b69 "com/example/aurel/aurel/orders/Order" "deliveryConfirmed" "Z" (.int 0) := D69 (Or.inr (W 70 rfl)) (ty := .boolean) (by decide)
      have F82 : Fld Z h69 b69 "com/example/aurel/aurel/orders/Order" "sequence" "J" (.long (0 : Int64)) := D69 (Or.inr (W 72 rfl)) (ty := .long) (by decide)
      have F83 : Fld Z h69 b69 "com/example/aurel/aurel/orders/Order" "paidPeriod" "Lcom/example/aurel/aurel/orders/PaidPeriod;" .null := D69 (Or.inr (W 74 rfl)) (ty := (.object "com/example/aurel/aurel/orders/PaidPeriod")) (by decide)
      refine gz X69 195 #[vi p1, vi p2, .val (.long q3), .second, .val (.long q4), .second, .val (.long q5), .second, .val (.long q6), .second, vr b10, vr b18, vr b24, vr b31, vr b38, vr b45, vr b52, vr b59, vr o66, vi 0, .val .null, .unset, .unset] [.null, (.long q5), (.int 0), (.ref b59), (.long q4), (.long q3), (.ref o66), (.ref b52), (.ref b45), (.ref b38), (.ref b31), (.ref b24), (.ref b18), (.ref b69), (.ref b69)] (fun _ k => st69 _ (XS.dup X69.here hx rfl (dk at_169) rfl rfl (aI X69 hx (dk at_170) rfl rfl (aI X69 hx (dk at_172) rfl rfl (aI X69 hx (dk at_174) rfl rfl (aI X69 hx (dk at_176) rfl rfl (aI X69 hx (dk at_178) rfl rfl (aI X69 hx (dk at_180) rfl rfl (aI X69 hx (dk at_182) rfl rfl (XS.lloadN X69.here hx rfl (dk at_184) rfl (XS.lload X69.here hx rfl (dk at_185) rfl (aI X69 hx (dk at_187) rfl rfl (lI X69 hx (dk at_189) rfl (XS.lload X69.here hx rfl (dk at_191) rfl (aI X69 hx (dk at_193) rfl rfl k))))))))))))))) ?_
      refine goI X69 hx hZ hown (W 40 rfl) (m5 hw) 13 16 57 (rm_ord_n hw b69 b18 b24 b31 b38 b45 b52 o66 q3 q4 b59 (0 : Int32) q5 h69 n0 Z70 O70 A69 F71 F72 F73 F74 F75 F76 F77 F78 F79 F80 F81 F82 F83 (Nat.le_trans Z65 sz_b69)) N66 e69 pd_5 hml (dk at_195) ?_
      rintro _ T84 L84 X84 N84 ⟨rfl, K84, p84_0, p84_1, p84_2, p84_3, p84_4, p84_5, p84_6, p84_7, p84_8, p84_9, p84_10, p84_11, p84_12, p84_13⟩
      have O85 := O70.keep K84 (allS (Nat.le_trans Z65 sz_b69) all0)
      have Z85 : n0 ≤ T84.heap.size := Nat.le_trans Z70 K84.1
      have p84_11 : Fld Z T84.heap b69 "com/example/aurel/aurel/orders/Order" "deliveryConfirmed" "Z" (.int 0) := p84_11
      refine gz X84 202 #[vi p1, vi p2, .val (.long q3), .second, .val (.long q4), .second, .val (.long q5), .second, .val (.long q6), .second, vr b10, vr b18, vr b24, vr b31, vr b38, vr b45, vr b52, vr b59, vr o66, vi 0, .val .null, vr b69, .unset] [(.ref b69)] (fun _ k => tI X84 hx (dk at_198) rfl rfl rfl (.inl rfl) (aI X84 hx (dk at_200) rfl rfl k)) ?_
      refine goV X84 hx hZ hown (W 75 rfl) (m8 hw) p84_0 0 17 70 (rm_wdc_n hw b69 b18 b24 b31 b38 b45 b52 o66 q3 q4 b59 q5 T84.heap n0 Z85 O85 p84_1 p84_2 p84_3 p84_4 p84_5 p84_6 p84_7 p84_8 p84_9 p84_10 p84_12 p84_13) N84 rfl pd_8 hml (dk at_202) ?_
      rintro _ T86 L86 X86 N86 ⟨b86, rfl, K86, p86_0, p86_1, p86_2, p86_3, p86_4, p86_5, p86_6, p86_7, p86_8, p86_9, p86_10, p86_11, p86_12, p86_13, p86_14⟩
      have O87 := O85.keep K86 all0
      have Z87 : n0 ≤ T86.heap.size := Nat.le_trans Z85 K86.1
      have sz_b86 : T84.heap.size ≤ b86 := p86_14
      refine gz X86 216 #[vi p1, vi p2, .val (.long q3), .second, .val (.long q4), .second, .val (.long q5), .second, .val (.long q6), .second, vr b10, vr b18, vr b24, vr b31, vr b38, vr b45, vr b52, vr b59, vr o66, vi 0, .val .null, vr b69, vr b86] [(.ref b86)] (fun _ k => tI X86 hx (dk at_205) rfl rfl rfl (.inl rfl) (aI X86 hx (dk at_207) rfl rfl (XS.ifnonnullYes X86.here hx rfl (pc0 := 209) (pc' := 214) rfl (dk at_209) rfl (by decide) (by decide) (aI X86 hx (dk at_214) rfl rfl k)))) ?_
      refine goV X86 hx hZ hown (W 82 rfl) (m9 hw) p86_0 0 17 70 (rm_g_deliveryConfirmed_1 hw b86 T86.heap n0 Z87 p86_11) N86 rfl pd_9 hml (dk at_216) ?_
      rintro _ T88 L88 X88 N88 ⟨rfl, hh88⟩
      refine gz X88 224 #[vi p1, vi p2, .val (.long q3), .second, .val (.long q4), .second, .val (.long q5), .second, .val (.long q6), .second, vr b10, vr b18, vr b24, vr b31, vr b38, vr b45, vr b52, vr b59, vr o66, vi 0, .val .null, vr b69, vr b86] [(.ref b86)] (fun _ k => fN X88 hx (dk at_219) rfl ((if0 _ _).trans (feq (by decide)).1) (aI X88 hx (dk at_222) rfl rfl k)) ?_
      refine goV X88 hx hZ hown (W 87 rfl) (m10 hw) p86_0 0 17 70 (rm_g_purchaseOrderId hw b86 b18 T86.heap n0 Z87 p86_1) N88 hh88 pd_10 hml (dk at_224) ?_
      rintro _ T89 L89 X89 N89 ⟨rfl, hh89⟩
      refine gz X89 234 #[vi p1, vi p2, .val (.long q3), .second, .val (.long q4), .second, .val (.long q5), .second, .val (.long q6), .second, vr b10, vr b18, vr b24, vr b31, vr b38, vr b45, vr b52, vr b59, vr o66, vi 0, .val .null, vr b69, vr b86] [(.ref b86)] (fun _ k => aI X89 hx (dk at_227) rfl rfl (Jvm.RoadKit.acmp (g := (mkF m 229 #[vi p1, vi p2, .val (.long q3), .second, .val (.long q4), .second, .val (.long q5), .second, .val (.long q6), .second, vr b10, vr b18, vr b24, vr b31, vr b38, vr b45, vr b52, vr b59, vr o66, vi 0, .val .null, vr b69, vr b86] [(.ref b18), (.ref b18)])) X89 hx rfl rfl rfl (pc0 := 229) (pc' := 232) (same := true) rfl (dk at_229) rfl (decide_eq_true rfl) (by decide) (by decide) (aI X89 hx (dk at_232) rfl rfl k))) ?_
      refine goV X89 hx hZ hown (W 92 rfl) (m11 hw) p86_0 0 17 70 (rm_g_purchaseToken hw b86 b24 T86.heap n0 Z87 p86_2) N89 hh89 pd_10 hml (dk at_234) ?_
      rintro _ T90 L90 X90 N90 ⟨rfl, hh90⟩
      refine gz X90 244 #[vi p1, vi p2, .val (.long q3), .second, .val (.long q4), .second, .val (.long q5), .second, .val (.long q6), .second, vr b10, vr b18, vr b24, vr b31, vr b38, vr b45, vr b52, vr b59, vr o66, vi 0, .val .null, vr b69, vr b86] [(.ref b86)] (fun _ k => aI X90 hx (dk at_237) rfl rfl (Jvm.RoadKit.acmp (g := (mkF m 239 #[vi p1, vi p2, .val (.long q3), .second, .val (.long q4), .second, .val (.long q5), .second, .val (.long q6), .second, vr b10, vr b18, vr b24, vr b31, vr b38, vr b45, vr b52, vr b59, vr o66, vi 0, .val .null, vr b69, vr b86] [(.ref b24), (.ref b24)])) X90 hx rfl rfl rfl (pc0 := 239) (pc' := 242) (same := true) rfl (dk at_239) rfl (decide_eq_true rfl) (by decide) (by decide) (aI X90 hx (dk at_242) rfl rfl k))) ?_
      refine goV X90 hx hZ hown (W 97 rfl) (m12 hw) p86_0 0 17 70 (rm_g_userId hw b86 b31 T86.heap n0 Z87 p86_3) N90 hh90 pd_10 hml (dk at_244) ?_
      rintro _ T91 L91 X91 N91 ⟨rfl, hh91⟩
      refine gz X91 254 #[vi p1, vi p2, .val (.long q3), .second, .val (.long q4), .second, .val (.long q5), .second, .val (.long q6), .second, vr b10, vr b18, vr b24, vr b31, vr b38, vr b45, vr b52, vr b59, vr o66, vi 0, .val .null, vr b69, vr b86] [(.ref b86)] (fun _ k => aI X91 hx (dk at_247) rfl rfl (Jvm.RoadKit.acmp (g := (mkF m 249 #[vi p1, vi p2, .val (.long q3), .second, .val (.long q4), .second, .val (.long q5), .second, .val (.long q6), .second, vr b10, vr b18, vr b24, vr b31, vr b38, vr b45, vr b52, vr b59, vr o66, vi 0, .val .null, vr b69, vr b86] [(.ref b31), (.ref b31)])) X91 hx rfl rfl rfl (pc0 := 249) (pc' := 252) (same := true) rfl (dk at_249) rfl (decide_eq_true rfl) (by decide) (by decide) (aI X91 hx (dk at_252) rfl rfl k))) ?_
      refine goV X91 hx hZ hown (W 102 rfl) (m13 hw) p86_0 0 17 70 (rm_g_applicationId hw b86 b38 T86.heap n0 Z87 p86_4) N91 hh91 pd_10 hml (dk at_254) ?_
      rintro _ T92 L92 X92 N92 ⟨rfl, hh92⟩
      refine gz X92 264 #[vi p1, vi p2, .val (.long q3), .second, .val (.long q4), .second, .val (.long q5), .second, .val (.long q6), .second, vr b10, vr b18, vr b24, vr b31, vr b38, vr b45, vr b52, vr b59, vr o66, vi 0, .val .null, vr b69, vr b86] [(.ref b86)] (fun _ k => aI X92 hx (dk at_257) rfl rfl (Jvm.RoadKit.acmp (g := (mkF m 259 #[vi p1, vi p2, .val (.long q3), .second, .val (.long q4), .second, .val (.long q5), .second, .val (.long q6), .second, vr b10, vr b18, vr b24, vr b31, vr b38, vr b45, vr b52, vr b59, vr o66, vi 0, .val .null, vr b69, vr b86] [(.ref b38), (.ref b38)])) X92 hx rfl rfl rfl (pc0 := 259) (pc' := 262) (same := true) rfl (dk at_259) rfl (decide_eq_true rfl) (by decide) (by decide) (aI X92 hx (dk at_262) rfl rfl k))) ?_
      refine goV X92 hx hZ hown (W 107 rfl) (m14 hw) p86_0 0 17 70 (rm_g_packageName hw b86 b45 T86.heap n0 Z87 p86_5) N92 hh92 pd_10 hml (dk at_264) ?_
      rintro _ T93 L93 X93 N93 ⟨rfl, hh93⟩
      refine gz X93 274 #[vi p1, vi p2, .val (.long q3), .second, .val (.long q4), .second, .val (.long q5), .second, .val (.long q6), .second, vr b10, vr b18, vr b24, vr b31, vr b38, vr b45, vr b52, vr b59, vr o66, vi 0, .val .null, vr b69, vr b86] [(.ref b86)] (fun _ k => aI X93 hx (dk at_267) rfl rfl (Jvm.RoadKit.acmp (g := (mkF m 269 #[vi p1, vi p2, .val (.long q3), .second, .val (.long q4), .second, .val (.long q5), .second, .val (.long q6), .second, vr b10, vr b18, vr b24, vr b31, vr b38, vr b45, vr b52, vr b59, vr o66, vi 0, .val .null, vr b69, vr b86] [(.ref b45), (.ref b45)])) X93 hx rfl rfl rfl (pc0 := 269) (pc' := 272) (same := true) rfl (dk at_269) rfl (decide_eq_true rfl) (by decide) (by decide) (aI X93 hx (dk at_272) rfl rfl k))) ?_
      refine goV X93 hx hZ hown (W 112 rfl) (m15 hw) p86_0 0 17 70 (rm_g_productId hw b86 b52 T86.heap n0 Z87 p86_6) N93 hh93 pd_10 hml (dk at_274) ?_
      rintro _ T94 L94 X94 N94 ⟨rfl, hh94⟩
      refine gz X94 284 #[vi p1, vi p2, .val (.long q3), .second, .val (.long q4), .second, .val (.long q5), .second, .val (.long q6), .second, vr b10, vr b18, vr b24, vr b31, vr b38, vr b45, vr b52, vr b59, vr o66, vi 0, .val .null, vr b69, vr b86] [(.ref b86)] (fun _ k => aI X94 hx (dk at_277) rfl rfl (Jvm.RoadKit.acmp (g := (mkF m 279 #[vi p1, vi p2, .val (.long q3), .second, .val (.long q4), .second, .val (.long q5), .second, .val (.long q6), .second, vr b10, vr b18, vr b24, vr b31, vr b38, vr b45, vr b52, vr b59, vr o66, vi 0, .val .null, vr b69, vr b86] [(.ref b52), (.ref b52)])) X94 hx rfl rfl rfl (pc0 := 279) (pc' := 282) (same := true) rfl (dk at_279) rfl (decide_eq_true rfl) (by decide) (by decide) (aI X94 hx (dk at_282) rfl rfl k))) ?_
      refine goV X94 hx hZ hown (W 117 rfl) (m16 hw) p86_0 0 17 70 (rm_g_productType hw b86 o66 T86.heap n0 Z87 p86_7) N94 hh94 pd_11 hml (dk at_284) ?_
      rintro _ T95 L95 X95 N95 ⟨rfl, hh95⟩
      refine gz X95 294 #[vi p1, vi p2, .val (.long q3), .second, .val (.long q4), .second, .val (.long q5), .second, .val (.long q6), .second, vr b10, vr b18, vr b24, vr b31, vr b38, vr b45, vr b52, vr b59, vr o66, vi 0, .val .null, vr b69, vr b86] [(.ref b86)] (fun _ k => aI X95 hx (dk at_287) rfl rfl (Jvm.RoadKit.acmp (g := (mkF m 289 #[vi p1, vi p2, .val (.long q3), .second, .val (.long q4), .second, .val (.long q5), .second, .val (.long q6), .second, vr b10, vr b18, vr b24, vr b31, vr b38, vr b45, vr b52, vr b59, vr o66, vi 0, .val .null, vr b69, vr b86] [(.ref o66), (.ref o66)])) X95 hx rfl rfl rfl (pc0 := 289) (pc' := 292) (same := true) rfl (dk at_289) rfl (decide_eq_true rfl) (by decide) (by decide) (aI X95 hx (dk at_292) rfl rfl k))) ?_
      refine goV X95 hx hZ hown (W 122 rfl) (m17 hw) p86_0 0 17 70 (rm_g_purchaseTime hw b86 q3 T86.heap n0 Z87 p86_8) N95 hh95 pd_12 hml (dk at_294) ?_
      rintro _ T96 L96 X96 N96 ⟨rfl, hh96⟩
      refine gz X96 304 #[vi p1, vi p2, .val (.long q3), .second, .val (.long q4), .second, .val (.long q5), .second, .val (.long q6), .second, vr b10, vr b18, vr b24, vr b31, vr b38, vr b45, vr b52, vr b59, vr o66, vi 0, .val .null, vr b69, vr b86] [(.ref b86)] (fun _ k => XS.lloadN X96.here hx rfl (dk at_297) rfl (XS.lcmp X96.here hx rfl (dk at_298) rfl (fN X96 hx (dk at_299) rfl ((if0 _ _).trans (teq ((lw_eq _ _).mpr (rfl : q3 = q3))).2) (aI X96 hx (dk at_302) rfl rfl k)))) ?_
      refine goV X96 hx hZ hown (W 127 rfl) (m18 hw) p86_0 0 17 70 (rm_g_price hw b86 q4 T86.heap n0 Z87 p86_9) N96 hh96 pd_12 hml (dk at_304) ?_
      rintro _ T97 L97 X97 N97 ⟨rfl, hh97⟩
      refine gz X97 315 #[vi p1, vi p2, .val (.long q3), .second, .val (.long q4), .second, .val (.long q5), .second, .val (.long q6), .second, vr b10, vr b18, vr b24, vr b31, vr b38, vr b45, vr b52, vr b59, vr o66, vi 0, .val .null, vr b69, vr b86] [(.ref b86)] (fun _ k => XS.lload X97.here hx rfl (dk at_307) rfl (XS.lcmp X97.here hx rfl (dk at_309) rfl (fN X97 hx (dk at_310) rfl ((if0 _ _).trans (teq ((lw_eq _ _).mpr (rfl : q4 = q4))).2) (aI X97 hx (dk at_313) rfl rfl k)))) ?_
      refine goV X97 hx hZ hown (W 132 rfl) (m19 hw) p86_0 0 17 70 (rm_g_currency hw b86 b59 T86.heap n0 Z87 p86_10) N97 hh97 pd_10 hml (dk at_315) ?_
      rintro _ T98 L98 X98 N98 ⟨rfl, hh98⟩
      refine gz X98 325 #[vi p1, vi p2, .val (.long q3), .second, .val (.long q4), .second, .val (.long q5), .second, .val (.long q6), .second, vr b10, vr b18, vr b24, vr b31, vr b38, vr b45, vr b52, vr b59, vr o66, vi 0, .val .null, vr b69, vr b86] [(.ref b86)] (fun _ k => aI X98 hx (dk at_318) rfl rfl (Jvm.RoadKit.acmp (g := (mkF m 320 #[vi p1, vi p2, .val (.long q3), .second, .val (.long q4), .second, .val (.long q5), .second, .val (.long q6), .second, vr b10, vr b18, vr b24, vr b31, vr b38, vr b45, vr b52, vr b59, vr o66, vi 0, .val .null, vr b69, vr b86] [(.ref b59), (.ref b59)])) X98 hx rfl rfl rfl (pc0 := 320) (pc' := 323) (same := true) rfl (dk at_320) rfl (decide_eq_true rfl) (by decide) (by decide) (aI X98 hx (dk at_323) rfl rfl k))) ?_
      refine goV X98 hx hZ hown (W 137 rfl) (m20 hw) p86_0 0 17 70 (rm_g_sequence hw b86 q5 T86.heap n0 Z87 p86_12) N98 hh98 pd_12 hml (dk at_325) ?_
      rintro _ T99 L99 X99 N99 ⟨rfl, hh99⟩
      refine gz X99 336 #[vi p1, vi p2, .val (.long q3), .second, .val (.long q4), .second, .val (.long q5), .second, .val (.long q6), .second, vr b10, vr b18, vr b24, vr b31, vr b38, vr b45, vr b52, vr b59, vr o66, vi 0, .val .null, vr b69, vr b86] [(.ref b86)] (fun _ k => XS.lload X99.here hx rfl (dk at_328) rfl (XS.lcmp X99.here hx rfl (dk at_330) rfl (fN X99 hx (dk at_331) rfl ((if0 _ _).trans (teq ((lw_eq _ _).mpr (rfl : q5 = q5))).2) (aI X99 hx (dk at_334) rfl rfl k)))) ?_
      refine goV X99 hx hZ hown (W 142 rfl) (m21 hw) p86_0 0 17 70 (rm_g_paidPeriod_1 hw b86 T86.heap n0 Z87 p86_13) N99 hh99 pd_13 hml (dk at_336) ?_
      rintro _ T100 L100 X100 N100 ⟨rfl, hh100⟩
      refine gz X100 346 #[vi p1, vi p2, .val (.long q3), .second, .val (.long q4), .second, .val (.long q5), .second, .val (.long q6), .second, vr b10, vr b18, vr b24, vr b31, vr b38, vr b45, vr b52, vr b59, vr o66, vi 0, .val .null, vr b69, vr b86] [(.ref b69)] (fun _ k => aI X100 hx (dk at_339) rfl rfl (Jvm.RoadKit.acmp (g := (mkF m 341 #[vi p1, vi p2, .val (.long q3), .second, .val (.long q4), .second, .val (.long q5), .second, .val (.long q6), .second, vr b10, vr b18, vr b24, vr b31, vr b38, vr b45, vr b52, vr b59, vr o66, vi 0, .val .null, vr b69, vr b86] [.null, .null])) X100 hx rfl rfl rfl (pc0 := 341) (pc' := 344) (same := true) rfl (dk at_341) rfl (decide_eq_true rfl) (by decide) (by decide) (aI X100 hx (dk at_344) rfl rfl k))) ?_
      refine goV X100 hx hZ hown (W 82 rfl) (m9 hw) (p84_0.keep K86) 0 17 70 (rm_g_deliveryConfirmed_0 hw b69 T86.heap n0 Z87 (p84_11.keep K86 nin0)) N100 hh100 pd_9 hml (dk at_346) ?_
      rintro _ T101 L101 X101 N101 ⟨rfl, hh101⟩
      refine gz X101 359 #[vi p1, vi p2, .val (.long q3), .second, .val (.long q4), .second, .val (.long q5), .second, .val (.long q6), .second, vr b10, vr b18, vr b24, vr b31, vr b38, vr b45, vr b52, vr b59, vr o66, vi 0, .val .null, vr b69, vr b86] [(.int 1)] (fun _ k => lI X101 hx (dk at_349) rfl (cN X101 hx (dk at_351) rfl (teq (by decide)).2 (kC X101 hx (dk at_354) (gT X101 hx 355 359 rfl (dk at_355) k)))) ?_
      refine Go.retJ X101 hx hlk (t := .boolean) hret (dk at_359) ?_
      exact ⟨rfl, N101⟩
    · skip
      refine gz X66 137 #[vi p1, vi p2, .val (.long q3), .second, .val (.long q4), .second, .val (.long q5), .second, .val (.long q6), .second, vr b10, vr b18, vr b24, vr b31, vr b38, vr b45, vr b52, vr b59, vr o66, vi 0, .val .null, .unset, .unset] [] (fun _ k => fN X66 hx (dk at_134) rfl ((if0 _ _).trans (feq c68).1) k) ?_
      obtain ⟨T102, h102, X102, e102, E102, A102, D102, -, st102⟩ := newO X66 hx hZ hown (W 149 rfl) (W 150 rfl) (W 151 rfl) hh66 (g := (mkF m 137 #[vi p1, vi p2, .val (.long q3), .second, .val (.long q4), .second, .val (.long q5), .second, .val (.long q6), .second, vr b10, vr b18, vr b24, vr b31, vr b38, vr b45, vr b52, vr b59, vr o66, vi 0, .val .null, .unset, .unset] [])) rfl (dk at_137) (by decide) (by decide)
      obtain ⟨b102, g102⟩ : ∃ z, z = T64.heap.size := ⟨_, rfl⟩
      rw [← g102] at A102 D102 st102
      have sz_b102 : T64.heap.size ≤ b102 := Nat.le_of_eq g102.symm
      have O103 := O65.ext E102
      have Z103 : n0 ≤ h102.size := Nat.le_trans Z65 E102.1
      have F104 : Fld Z h102 b102 "com/example/aurel/aurel/orders/PaidPeriod" "subGroupId" "Ljava/lang/String;" .null := D102 (Or.inr (W 157 rfl)) (ty := (.object "java/lang/String")) (by decide)
      have F105 : Fld Z h102 b102 "com/example/aurel/aurel/orders/PaidPeriod" "subscriptionId" "Ljava/lang/String;" .null := D102 (Or.inr (W 159 rfl)) (ty := (.object "java/lang/String")) (by decide)
      have F106 : Fld Z h102 b102 "com/example/aurel/aurel/orders/PaidPeriod" "expiresTime" "J" (.long (0 : Int64)) := D102 (Or.inr (W 161 rfl)) (ty := .long) (by decide)
      refine gz X102 141 #[vi p1, vi p2, .val (.long q3), .second, .val (.long q4), .second, .val (.long q5), .second, .val (.long q6), .second, vr b10, vr b18, vr b24, vr b31, vr b38, vr b45, vr b52, vr b59, vr o66, vi 0, .val .null, .unset, .unset] [(.ref b102), (.ref b102)] (fun _ k => st102 _ (XS.dup X102.here hx rfl (dk at_140) rfl rfl k)) ?_
      obtain ⟨T107, h107, X107, e107, E107, A107, D107, -, st107⟩ := newO X102 hx hZ hown (W 1 rfl) (W 2 rfl) (W 3 rfl) e102 (g := (mkF m 141 #[vi p1, vi p2, .val (.long q3), .second, .val (.long q4), .second, .val (.long q5), .second, .val (.long q6), .second, vr b10, vr b18, vr b24, vr b31, vr b38, vr b45, vr b52, vr b59, vr o66, vi 0, .val .null, .unset, .unset] [(.ref b102), (.ref b102)])) rfl (dk at_141) (by decide) (by decide)
      obtain ⟨b107, g107⟩ : ∃ z, z = h102.size := ⟨_, rfl⟩
      rw [← g107] at A107 D107 st107
      have sz_b107 : h102.size ≤ b107 := Nat.le_of_eq g107.symm
      have O108 := O103.ext E107
      have Z108 : n0 ≤ h107.size := Nat.le_trans Z103 E107.1
      have F109 : FC Z h107 b107 0 := D107 (Or.inr (W 27 rfl)) (ty := .byte) (by decide)
      have F110 : Fld Z h107 b107 "java/lang/String" "value" "[B" .null := D107 (Or.inr (W 29 rfl)) (ty := (.array .byte)) (by decide)
      refine gz X107 147 #[vi p1, vi p2, .val (.long q3), .second, .val (.long q4), .second, .val (.long q5), .second, .val (.long q6), .second, vr b10, vr b18, vr b24, vr b31, vr b38, vr b45, vr b52, vr b59, vr o66, vi 0, .val .null, .unset, .unset] [(.ref b10), (.ref b107), (.ref b107), (.ref b102), (.ref b102)] (fun _ k => st107 _ (XS.dup X107.here hx rfl (dk at_144) rfl rfl (aI X107 hx (dk at_145) rfl rfl k))) ?_
      have f111 := (((f63.keep K64 (ninS (Nat.ne_of_lt (Nat.lt_of_lt_of_le (f56.keep K57 (ninS (Nat.ne_of_lt (Nat.lt_of_lt_of_le (f49.keep K50 (ninS (Nat.ne_of_lt (Nat.lt_of_lt_of_le (f42.keep K43 (ninS (Nat.ne_of_lt (Nat.lt_of_lt_of_le (f35.keep K36 (ninS (Nat.ne_of_lt (Nat.lt_of_lt_of_le (f28.keep K29 (ninS (Nat.ne_of_lt (Nat.lt_of_lt_of_le ((V16.ext E18).keep K22 (ninS (Nat.ne_of_lt (Nat.lt_of_lt_of_le V16.lt sz_b18)) nin0)).lt sz_b24)) nin0)).lt sz_b31)) nin0)).lt sz_b38)) nin0)).lt sz_b45)) nin0)).lt sz_b52)) nin0)).lt sz_b59)) nin0)).ext E102).ext E107)
      refine goI X107 hx hZ hown (W 4 rfl) (m6 hw) 1 18 53 (rm_sC_2 hw b107 b10 k10 (nar .char ((p1 &&& (255 : Int32)).toUInt32.toUInt16.toUInt32.toInt32)) (nar .char ((((p1.toUInt32 >>> ((8 : Int32) &&& 31).toUInt32).toInt32) &&& (255 : Int32)).toUInt32.toUInt16.toUInt32.toInt32)) cs h107 n0 Z108 O108 pr1 hcs A107 F110 F109 (Nat.le_trans Z103 sz_b107) f111 (own_chn _) (own_chn _)) N66 e107 pd_6 hml (dk at_147) ?_
      rintro _ T112 L112 X112 N112 ⟨t112, k112, rfl, K112, p112_0, p112_1, p112_2, p112_3, p112_4⟩
      have O113 := O108.keep K112 (allS (Nat.le_trans Z103 sz_b107) all0)
      have Z113 : n0 ≤ T112.heap.size := Nat.le_trans Z108 K112.1
      have sz_t112 : h107.size ≤ t112 := p112_4
      obtain ⟨T114, h114, X114, e114, E114, A114, D114, -, st114⟩ := newO X112 hx hZ hown (W 1 rfl) (W 2 rfl) (W 3 rfl) rfl (g := (mkF m 150 #[vi p1, vi p2, .val (.long q3), .second, .val (.long q4), .second, .val (.long q5), .second, .val (.long q6), .second, vr b10, vr b18, vr b24, vr b31, vr b38, vr b45, vr b52, vr b59, vr o66, vi 0, .val .null, .unset, .unset] [(.ref b107), (.ref b102), (.ref b102)])) rfl (dk at_150) (by decide) (by decide)
      obtain ⟨b114, g114⟩ : ∃ z, z = T112.heap.size := ⟨_, rfl⟩
      rw [← g114] at A114 D114 st114
      have sz_b114 : T112.heap.size ≤ b114 := Nat.le_of_eq g114.symm
      have O115 := O113.ext E114
      have Z115 : n0 ≤ h114.size := Nat.le_trans Z113 E114.1
      have F116 : FC Z h114 b114 0 := D114 (Or.inr (W 27 rfl)) (ty := .byte) (by decide)
      have F117 : Fld Z h114 b114 "java/lang/String" "value" "[B" .null := D114 (Or.inr (W 29 rfl)) (ty := (.array .byte)) (by decide)
      refine gz X114 156 #[vi p1, vi p2, .val (.long q3), .second, .val (.long q4), .second, .val (.long q5), .second, .val (.long q6), .second, vr b10, vr b18, vr b24, vr b31, vr b38, vr b45, vr b52, vr b59, vr o66, vi 0, .val .null, .unset, .unset] [(.ref b10), (.ref b114), (.ref b114), (.ref b107), (.ref b102), (.ref b102)] (fun _ k => st114 _ (XS.dup X114.here hx rfl (dk at_153) rfl rfl (aI X114 hx (dk at_154) rfl rfl k))) ?_
      have f118 := ((f111.keep K112 (ninS (Nat.ne_of_lt (Nat.lt_of_lt_of_le ((f63.keep K64 (ninS (Nat.ne_of_lt (Nat.lt_of_lt_of_le (f56.keep K57 (ninS (Nat.ne_of_lt (Nat.lt_of_lt_of_le (f49.keep K50 (ninS (Nat.ne_of_lt (Nat.lt_of_lt_of_le (f42.keep K43 (ninS (Nat.ne_of_lt (Nat.lt_of_lt_of_le (f35.keep K36 (ninS (Nat.ne_of_lt (Nat.lt_of_lt_of_le (f28.keep K29 (ninS (Nat.ne_of_lt (Nat.lt_of_lt_of_le ((V16.ext E18).keep K22 (ninS (Nat.ne_of_lt (Nat.lt_of_lt_of_le V16.lt sz_b18)) nin0)).lt sz_b24)) nin0)).lt sz_b31)) nin0)).lt sz_b38)) nin0)).lt sz_b45)) nin0)).lt sz_b52)) nin0)).lt sz_b59)) nin0)).ext E102).lt sz_b107)) nin0)).ext E114)
      refine goI X114 hx hZ hown (W 4 rfl) (m6 hw) 1 20 59 (rm_sC_2 hw b114 b10 k10 (nar .char ((p1 &&& (255 : Int32)).toUInt32.toUInt16.toUInt32.toInt32)) (nar .char ((((p1.toUInt32 >>> ((8 : Int32) &&& 31).toUInt32).toInt32) &&& (255 : Int32)).toUInt32.toUInt16.toUInt32.toInt32)) cs h114 n0 Z115 O115 pr1 hcs A114 F117 F116 (Nat.le_trans Z113 sz_b114) f118 (own_chn _) (own_chn _)) N112 e114 pd_6 hml (dk at_156) ?_
      rintro _ T119 L119 X119 N119 ⟨t119, k119, rfl, K119, p119_0, p119_1, p119_2, p119_3, p119_4⟩
      have O120 := O115.keep K119 (allS (Nat.le_trans Z113 sz_b114) all0)
      have Z120 : n0 ≤ T119.heap.size := Nat.le_trans Z115 K119.1
      have sz_t119 : h114.size ≤ t119 := p119_4
      refine gz X119 161 #[vi p1, vi p2, .val (.long q3), .second, .val (.long q4), .second, .val (.long q5), .second, .val (.long q6), .second, vr b10, vr b18, vr b24, vr b31, vr b38, vr b45, vr b52, vr b59, vr o66, vi 0, .val .null, .unset, .unset] [(.long q6), (.ref b114), (.ref b107), (.ref b102), (.ref b102)] (fun _ k => XS.lload X119.here hx rfl (dk at_159) rfl k) ?_
      have f121 := ((((A102.ext E107).keep K112).ext E114).keep K119)
      have f122 := ((((F104.ext E107).keep K112 (ninS (Nat.ne_of_lt (Nat.lt_of_lt_of_le A102.lt sz_b107)) nin0)).ext E114).keep K119 (ninS (Nat.ne_of_lt (Nat.lt_of_lt_of_le ((A102.ext E107).keep K112).lt sz_b114)) nin0))
      have f123 := ((((F105.ext E107).keep K112 (ninS (Nat.ne_of_lt (Nat.lt_of_lt_of_le A102.lt sz_b107)) nin0)).ext E114).keep K119 (ninS (Nat.ne_of_lt (Nat.lt_of_lt_of_le ((A102.ext E107).keep K112).lt sz_b114)) nin0))
      have f124 := ((((F106.ext E107).keep K112 (ninS (Nat.ne_of_lt (Nat.lt_of_lt_of_le A102.lt sz_b107)) nin0)).ext E114).keep K119 (ninS (Nat.ne_of_lt (Nat.lt_of_lt_of_le ((A102.ext E107).keep K112).lt sz_b114)) nin0))
      refine goI X119 hx hZ hown (W 152 rfl) (m22 hw) 3 20 59 (rm_pp hw b102 b107 b114 q6 T119.heap n0 Z120 O120 f121 f122 f123 f124 (Nat.le_trans Z65 sz_b102)) N119 rfl pd_14 hml (dk at_161) ?_
      rintro _ T125 L125 X125 N125 ⟨rfl, K125, p125_0, p125_1, p125_2, p125_3⟩
      have O126 := O120.keep K125 (allS (Nat.le_trans Z65 sz_b102) all0)
      have Z126 : n0 ≤ T125.heap.size := Nat.le_trans Z120 K125.1
      refine gz X125 166 #[vi p1, vi p2, .val (.long q3), .second, .val (.long q4), .second, .val (.long q5), .second, .val (.long q6), .second, vr b10, vr b18, vr b24, vr b31, vr b38, vr b45, vr b52, vr b59, vr o66, vi 0, vr b102, .unset, .unset] [] (fun _ k => tI X125 hx (dk at_164) rfl rfl rfl (.inr ⟨_, rfl, rfl⟩) k) ?_
      obtain ⟨T127, h127, X127, e127, E127, A127, D127, -, st127⟩ := newO X125 hx hZ hown (W 37 rfl) (W 38 rfl) (W 39 rfl) rfl (g := (mkF m 166 #[vi p1, vi p2, .val (.long q3), .second, .val (.long q4), .second, .val (.long q5), .second, .val (.long q6), .second, vr b10, vr b18, vr b24, vr b31, vr b38, vr b45, vr b52, vr b59, vr o66, vi 0, vr b102, .unset, .unset] [])) rfl (dk at_166) (by decide) (by decide)
      obtain ⟨b127, g127⟩ : ∃ z, z = T125.heap.size := ⟨_, rfl⟩
      rw [← g127] at A127 D127 st127
      have sz_b127 : T125.heap.size ≤ b127 := Nat.le_of_eq g127.symm
      have O128 := O126.ext E127
      have Z128 : n0 ≤ h127.size := Nat.le_trans Z126 E127.1
      have F129 : Fld Z h127 b127 "com/example/aurel/aurel/orders/Order" "purchaseOrderId" "Ljava/lang/String;" .null := D127 (Or.inr (W 50 rfl)) (ty := (.object "java/lang/String")) (by decide)
      have F130 : Fld Z h127 b127 "com/example/aurel/aurel/orders/Order" "purchaseToken" "Ljava/lang/String;" .null := D127 (Or.inr (W 52 rfl)) (ty := (.object "java/lang/String")) (by decide)
      have F131 : Fld Z h127 b127 "com/example/aurel/aurel/orders/Order" "userId" "Ljava/lang/String;" .null := D127 (Or.inr (W 54 rfl)) (ty := (.object "java/lang/String")) (by decide)
      have F132 : Fld Z h127 b127 "com/example/aurel/aurel/orders/Order" "applicationId" "Ljava/lang/String;" .null := D127 (Or.inr (W 56 rfl)) (ty := (.object "java/lang/String")) (by decide)
      have F133 : Fld Z h127 b127 "com/example/aurel/aurel/orders/Order" "packageName" "Ljava/lang/String;" .null := D127 (Or.inr (W 58 rfl)) (ty := (.object "java/lang/String")) (by decide)
      have F134 : Fld Z h127 b127 "com/example/aurel/aurel/orders/Order" "productId" "Ljava/lang/String;" .null := D127 (Or.inr (W 60 rfl)) (ty := (.object "java/lang/String")) (by decide)
      have F135 : Fld Z h127 b127 "com/example/aurel/aurel/orders/Order" "productType" "Lcom/example/aurel/aurel/catalog/ProductType;" .null := D127 (Or.inr (W 62 rfl)) (ty := (.object "com/example/aurel/aurel/catalog/ProductType")) (by decide)
      have F136 : Fld Z h127 b127 "com/example/aurel/aurel/orders/Order" "purchaseTime" "J" (.long (0 : Int64)) := D127 (Or.inr (W 64 rfl)) (ty := .long) (by decide)
      have F137 : Fld Z h127 b127 "com/example/aurel/aurel/orders/Order" "price" "J" (.long (0 : Int64)) := D127 (Or.inr (W 66 rfl)) (ty := .long) (by decide)
      have F138 : Fld Z h127 b127 "com/example/aurel/aurel/orders/Order" "currency" "Ljava/lang/String;" .null := D127 (Or.inr (W 68 rfl)) (ty := (.object "java/lang/String")) (by decide)
      have F139 : Fld Z h127 b127 "com/example/aurel/aurel/orders/Order" "deliveryConfirmed" "Z" (.int 0) := D127 (Or.inr (W 70 rfl)) (ty := .boolean) (by decide)
      have F140 : Fld Z h127 b127 "com/example/aurel/aurel/orders/Order" "sequence" "J" (.long (0 : Int64)) := D127 (Or.inr (W 72 rfl)) (ty := .long) (by decide)
      have F141 : Fld Z h127 b127 "com/example/aurel/aurel/orders/Order" "paidPeriod" "Lcom/example/aurel/aurel/orders/PaidPeriod;" .null := D127 (Or.inr (W 74 rfl)) (ty := (.object "com/example/aurel/aurel/orders/PaidPeriod")) (by decide)
      refine gz X127 195 #[vi p1, vi p2, .val (.long q3), .second, .val (.long q4), .second, .val (.long q5), .second, .val (.long q6), .second, vr b10, vr b18, vr b24, vr b31, vr b38, vr b45, vr b52, vr b59, vr o66, vi 0, vr b102, .unset, .unset] [(.ref b102), (.long q5), (.int 0), (.ref b59), (.long q4), (.long q3), (.ref o66), (.ref b52), (.ref b45), (.ref b38), (.ref b31), (.ref b24), (.ref b18), (.ref b127), (.ref b127)] (fun _ k => st127 _ (XS.dup X127.here hx rfl (dk at_169) rfl rfl (aI X127 hx (dk at_170) rfl rfl (aI X127 hx (dk at_172) rfl rfl (aI X127 hx (dk at_174) rfl rfl (aI X127 hx (dk at_176) rfl rfl (aI X127 hx (dk at_178) rfl rfl (aI X127 hx (dk at_180) rfl rfl (aI X127 hx (dk at_182) rfl rfl (XS.lloadN X127.here hx rfl (dk at_184) rfl (XS.lload X127.here hx rfl (dk at_185) rfl (aI X127 hx (dk at_187) rfl rfl (lI X127 hx (dk at_189) rfl (XS.lload X127.here hx rfl (dk at_191) rfl (aI X127 hx (dk at_193) rfl rfl k))))))))))))))) ?_
      refine goI X127 hx hZ hown (W 40 rfl) (m5 hw) 13 21 72 (rm_ord_r hw b127 b18 b24 b31 b38 b45 b52 o66 q3 q4 b59 (0 : Int32) q5 b102 h127 n0 Z128 O128 A127 F129 F130 F131 F132 F133 F134 F135 F136 F137 F138 F139 F140 F141 (Nat.le_trans Z126 sz_b127)) N125 e127 pd_5 hml (dk at_195) ?_
      rintro _ T142 L142 X142 N142 ⟨rfl, K142, p142_0, p142_1, p142_2, p142_3, p142_4, p142_5, p142_6, p142_7, p142_8, p142_9, p142_10, p142_11, p142_12, p142_13⟩
      have O143 := O128.keep K142 (allS (Nat.le_trans Z126 sz_b127) all0)
      have Z143 : n0 ≤ T142.heap.size := Nat.le_trans Z128 K142.1
      have p142_11 : Fld Z T142.heap b127 "com/example/aurel/aurel/orders/Order" "deliveryConfirmed" "Z" (.int 0) := p142_11
      refine gz X142 202 #[vi p1, vi p2, .val (.long q3), .second, .val (.long q4), .second, .val (.long q5), .second, .val (.long q6), .second, vr b10, vr b18, vr b24, vr b31, vr b38, vr b45, vr b52, vr b59, vr o66, vi 0, vr b102, vr b127, .unset] [(.ref b127)] (fun _ k => tI X142 hx (dk at_198) rfl rfl rfl (.inl rfl) (aI X142 hx (dk at_200) rfl rfl k)) ?_
      refine goV X142 hx hZ hown (W 75 rfl) (m8 hw) p142_0 0 22 85 (rm_wdc_r hw b127 b18 b24 b31 b38 b45 b52 o66 q3 q4 b59 q5 b102 T142.heap n0 Z143 O143 p142_1 p142_2 p142_3 p142_4 p142_5 p142_6 p142_7 p142_8 p142_9 p142_10 p142_12 p142_13) N142 rfl pd_8 hml (dk at_202) ?_
      rintro _ T144 L144 X144 N144 ⟨b144, rfl, K144, p144_0, p144_1, p144_2, p144_3, p144_4, p144_5, p144_6, p144_7, p144_8, p144_9, p144_10, p144_11, p144_12, p144_13, p144_14⟩
      have O145 := O143.keep K144 all0
      have Z145 : n0 ≤ T144.heap.size := Nat.le_trans Z143 K144.1
      have sz_b144 : T142.heap.size ≤ b144 := p144_14
      refine gz X144 216 #[vi p1, vi p2, .val (.long q3), .second, .val (.long q4), .second, .val (.long q5), .second, .val (.long q6), .second, vr b10, vr b18, vr b24, vr b31, vr b38, vr b45, vr b52, vr b59, vr o66, vi 0, vr b102, vr b127, vr b144] [(.ref b144)] (fun _ k => tI X144 hx (dk at_205) rfl rfl rfl (.inl rfl) (aI X144 hx (dk at_207) rfl rfl (XS.ifnonnullYes X144.here hx rfl (pc0 := 209) (pc' := 214) rfl (dk at_209) rfl (by decide) (by decide) (aI X144 hx (dk at_214) rfl rfl k)))) ?_
      refine goV X144 hx hZ hown (W 82 rfl) (m9 hw) p144_0 0 22 85 (rm_g_deliveryConfirmed_1 hw b144 T144.heap n0 Z145 p144_11) N144 rfl pd_9 hml (dk at_216) ?_
      rintro _ T146 L146 X146 N146 ⟨rfl, hh146⟩
      refine gz X146 224 #[vi p1, vi p2, .val (.long q3), .second, .val (.long q4), .second, .val (.long q5), .second, .val (.long q6), .second, vr b10, vr b18, vr b24, vr b31, vr b38, vr b45, vr b52, vr b59, vr o66, vi 0, vr b102, vr b127, vr b144] [(.ref b144)] (fun _ k => fN X146 hx (dk at_219) rfl ((if0 _ _).trans (feq (by decide)).1) (aI X146 hx (dk at_222) rfl rfl k)) ?_
      refine goV X146 hx hZ hown (W 87 rfl) (m10 hw) p144_0 0 22 85 (rm_g_purchaseOrderId hw b144 b18 T144.heap n0 Z145 p144_1) N146 hh146 pd_10 hml (dk at_224) ?_
      rintro _ T147 L147 X147 N147 ⟨rfl, hh147⟩
      refine gz X147 234 #[vi p1, vi p2, .val (.long q3), .second, .val (.long q4), .second, .val (.long q5), .second, .val (.long q6), .second, vr b10, vr b18, vr b24, vr b31, vr b38, vr b45, vr b52, vr b59, vr o66, vi 0, vr b102, vr b127, vr b144] [(.ref b144)] (fun _ k => aI X147 hx (dk at_227) rfl rfl (Jvm.RoadKit.acmp (g := (mkF m 229 #[vi p1, vi p2, .val (.long q3), .second, .val (.long q4), .second, .val (.long q5), .second, .val (.long q6), .second, vr b10, vr b18, vr b24, vr b31, vr b38, vr b45, vr b52, vr b59, vr o66, vi 0, vr b102, vr b127, vr b144] [(.ref b18), (.ref b18)])) X147 hx rfl rfl rfl (pc0 := 229) (pc' := 232) (same := true) rfl (dk at_229) rfl (decide_eq_true rfl) (by decide) (by decide) (aI X147 hx (dk at_232) rfl rfl k))) ?_
      refine goV X147 hx hZ hown (W 92 rfl) (m11 hw) p144_0 0 22 85 (rm_g_purchaseToken hw b144 b24 T144.heap n0 Z145 p144_2) N147 hh147 pd_10 hml (dk at_234) ?_
      rintro _ T148 L148 X148 N148 ⟨rfl, hh148⟩
      refine gz X148 244 #[vi p1, vi p2, .val (.long q3), .second, .val (.long q4), .second, .val (.long q5), .second, .val (.long q6), .second, vr b10, vr b18, vr b24, vr b31, vr b38, vr b45, vr b52, vr b59, vr o66, vi 0, vr b102, vr b127, vr b144] [(.ref b144)] (fun _ k => aI X148 hx (dk at_237) rfl rfl (Jvm.RoadKit.acmp (g := (mkF m 239 #[vi p1, vi p2, .val (.long q3), .second, .val (.long q4), .second, .val (.long q5), .second, .val (.long q6), .second, vr b10, vr b18, vr b24, vr b31, vr b38, vr b45, vr b52, vr b59, vr o66, vi 0, vr b102, vr b127, vr b144] [(.ref b24), (.ref b24)])) X148 hx rfl rfl rfl (pc0 := 239) (pc' := 242) (same := true) rfl (dk at_239) rfl (decide_eq_true rfl) (by decide) (by decide) (aI X148 hx (dk at_242) rfl rfl k))) ?_
      refine goV X148 hx hZ hown (W 97 rfl) (m12 hw) p144_0 0 22 85 (rm_g_userId hw b144 b31 T144.heap n0 Z145 p144_3) N148 hh148 pd_10 hml (dk at_244) ?_
      rintro _ T149 L149 X149 N149 ⟨rfl, hh149⟩
      refine gz X149 254 #[vi p1, vi p2, .val (.long q3), .second, .val (.long q4), .second, .val (.long q5), .second, .val (.long q6), .second, vr b10, vr b18, vr b24, vr b31, vr b38, vr b45, vr b52, vr b59, vr o66, vi 0, vr b102, vr b127, vr b144] [(.ref b144)] (fun _ k => aI X149 hx (dk at_247) rfl rfl (Jvm.RoadKit.acmp (g := (mkF m 249 #[vi p1, vi p2, .val (.long q3), .second, .val (.long q4), .second, .val (.long q5), .second, .val (.long q6), .second, vr b10, vr b18, vr b24, vr b31, vr b38, vr b45, vr b52, vr b59, vr o66, vi 0, vr b102, vr b127, vr b144] [(.ref b31), (.ref b31)])) X149 hx rfl rfl rfl (pc0 := 249) (pc' := 252) (same := true) rfl (dk at_249) rfl (decide_eq_true rfl) (by decide) (by decide) (aI X149 hx (dk at_252) rfl rfl k))) ?_
      refine goV X149 hx hZ hown (W 102 rfl) (m13 hw) p144_0 0 22 85 (rm_g_applicationId hw b144 b38 T144.heap n0 Z145 p144_4) N149 hh149 pd_10 hml (dk at_254) ?_
      rintro _ T150 L150 X150 N150 ⟨rfl, hh150⟩
      refine gz X150 264 #[vi p1, vi p2, .val (.long q3), .second, .val (.long q4), .second, .val (.long q5), .second, .val (.long q6), .second, vr b10, vr b18, vr b24, vr b31, vr b38, vr b45, vr b52, vr b59, vr o66, vi 0, vr b102, vr b127, vr b144] [(.ref b144)] (fun _ k => aI X150 hx (dk at_257) rfl rfl (Jvm.RoadKit.acmp (g := (mkF m 259 #[vi p1, vi p2, .val (.long q3), .second, .val (.long q4), .second, .val (.long q5), .second, .val (.long q6), .second, vr b10, vr b18, vr b24, vr b31, vr b38, vr b45, vr b52, vr b59, vr o66, vi 0, vr b102, vr b127, vr b144] [(.ref b38), (.ref b38)])) X150 hx rfl rfl rfl (pc0 := 259) (pc' := 262) (same := true) rfl (dk at_259) rfl (decide_eq_true rfl) (by decide) (by decide) (aI X150 hx (dk at_262) rfl rfl k))) ?_
      refine goV X150 hx hZ hown (W 107 rfl) (m14 hw) p144_0 0 22 85 (rm_g_packageName hw b144 b45 T144.heap n0 Z145 p144_5) N150 hh150 pd_10 hml (dk at_264) ?_
      rintro _ T151 L151 X151 N151 ⟨rfl, hh151⟩
      refine gz X151 274 #[vi p1, vi p2, .val (.long q3), .second, .val (.long q4), .second, .val (.long q5), .second, .val (.long q6), .second, vr b10, vr b18, vr b24, vr b31, vr b38, vr b45, vr b52, vr b59, vr o66, vi 0, vr b102, vr b127, vr b144] [(.ref b144)] (fun _ k => aI X151 hx (dk at_267) rfl rfl (Jvm.RoadKit.acmp (g := (mkF m 269 #[vi p1, vi p2, .val (.long q3), .second, .val (.long q4), .second, .val (.long q5), .second, .val (.long q6), .second, vr b10, vr b18, vr b24, vr b31, vr b38, vr b45, vr b52, vr b59, vr o66, vi 0, vr b102, vr b127, vr b144] [(.ref b45), (.ref b45)])) X151 hx rfl rfl rfl (pc0 := 269) (pc' := 272) (same := true) rfl (dk at_269) rfl (decide_eq_true rfl) (by decide) (by decide) (aI X151 hx (dk at_272) rfl rfl k))) ?_
      refine goV X151 hx hZ hown (W 112 rfl) (m15 hw) p144_0 0 22 85 (rm_g_productId hw b144 b52 T144.heap n0 Z145 p144_6) N151 hh151 pd_10 hml (dk at_274) ?_
      rintro _ T152 L152 X152 N152 ⟨rfl, hh152⟩
      refine gz X152 284 #[vi p1, vi p2, .val (.long q3), .second, .val (.long q4), .second, .val (.long q5), .second, .val (.long q6), .second, vr b10, vr b18, vr b24, vr b31, vr b38, vr b45, vr b52, vr b59, vr o66, vi 0, vr b102, vr b127, vr b144] [(.ref b144)] (fun _ k => aI X152 hx (dk at_277) rfl rfl (Jvm.RoadKit.acmp (g := (mkF m 279 #[vi p1, vi p2, .val (.long q3), .second, .val (.long q4), .second, .val (.long q5), .second, .val (.long q6), .second, vr b10, vr b18, vr b24, vr b31, vr b38, vr b45, vr b52, vr b59, vr o66, vi 0, vr b102, vr b127, vr b144] [(.ref b52), (.ref b52)])) X152 hx rfl rfl rfl (pc0 := 279) (pc' := 282) (same := true) rfl (dk at_279) rfl (decide_eq_true rfl) (by decide) (by decide) (aI X152 hx (dk at_282) rfl rfl k))) ?_
      refine goV X152 hx hZ hown (W 117 rfl) (m16 hw) p144_0 0 22 85 (rm_g_productType hw b144 o66 T144.heap n0 Z145 p144_7) N152 hh152 pd_11 hml (dk at_284) ?_
      rintro _ T153 L153 X153 N153 ⟨rfl, hh153⟩
      refine gz X153 294 #[vi p1, vi p2, .val (.long q3), .second, .val (.long q4), .second, .val (.long q5), .second, .val (.long q6), .second, vr b10, vr b18, vr b24, vr b31, vr b38, vr b45, vr b52, vr b59, vr o66, vi 0, vr b102, vr b127, vr b144] [(.ref b144)] (fun _ k => aI X153 hx (dk at_287) rfl rfl (Jvm.RoadKit.acmp (g := (mkF m 289 #[vi p1, vi p2, .val (.long q3), .second, .val (.long q4), .second, .val (.long q5), .second, .val (.long q6), .second, vr b10, vr b18, vr b24, vr b31, vr b38, vr b45, vr b52, vr b59, vr o66, vi 0, vr b102, vr b127, vr b144] [(.ref o66), (.ref o66)])) X153 hx rfl rfl rfl (pc0 := 289) (pc' := 292) (same := true) rfl (dk at_289) rfl (decide_eq_true rfl) (by decide) (by decide) (aI X153 hx (dk at_292) rfl rfl k))) ?_
      refine goV X153 hx hZ hown (W 122 rfl) (m17 hw) p144_0 0 22 85 (rm_g_purchaseTime hw b144 q3 T144.heap n0 Z145 p144_8) N153 hh153 pd_12 hml (dk at_294) ?_
      rintro _ T154 L154 X154 N154 ⟨rfl, hh154⟩
      refine gz X154 304 #[vi p1, vi p2, .val (.long q3), .second, .val (.long q4), .second, .val (.long q5), .second, .val (.long q6), .second, vr b10, vr b18, vr b24, vr b31, vr b38, vr b45, vr b52, vr b59, vr o66, vi 0, vr b102, vr b127, vr b144] [(.ref b144)] (fun _ k => XS.lloadN X154.here hx rfl (dk at_297) rfl (XS.lcmp X154.here hx rfl (dk at_298) rfl (fN X154 hx (dk at_299) rfl ((if0 _ _).trans (teq ((lw_eq _ _).mpr (rfl : q3 = q3))).2) (aI X154 hx (dk at_302) rfl rfl k)))) ?_
      refine goV X154 hx hZ hown (W 127 rfl) (m18 hw) p144_0 0 22 85 (rm_g_price hw b144 q4 T144.heap n0 Z145 p144_9) N154 hh154 pd_12 hml (dk at_304) ?_
      rintro _ T155 L155 X155 N155 ⟨rfl, hh155⟩
      refine gz X155 315 #[vi p1, vi p2, .val (.long q3), .second, .val (.long q4), .second, .val (.long q5), .second, .val (.long q6), .second, vr b10, vr b18, vr b24, vr b31, vr b38, vr b45, vr b52, vr b59, vr o66, vi 0, vr b102, vr b127, vr b144] [(.ref b144)] (fun _ k => XS.lload X155.here hx rfl (dk at_307) rfl (XS.lcmp X155.here hx rfl (dk at_309) rfl (fN X155 hx (dk at_310) rfl ((if0 _ _).trans (teq ((lw_eq _ _).mpr (rfl : q4 = q4))).2) (aI X155 hx (dk at_313) rfl rfl k)))) ?_
      refine goV X155 hx hZ hown (W 132 rfl) (m19 hw) p144_0 0 22 85 (rm_g_currency hw b144 b59 T144.heap n0 Z145 p144_10) N155 hh155 pd_10 hml (dk at_315) ?_
      rintro _ T156 L156 X156 N156 ⟨rfl, hh156⟩
      refine gz X156 325 #[vi p1, vi p2, .val (.long q3), .second, .val (.long q4), .second, .val (.long q5), .second, .val (.long q6), .second, vr b10, vr b18, vr b24, vr b31, vr b38, vr b45, vr b52, vr b59, vr o66, vi 0, vr b102, vr b127, vr b144] [(.ref b144)] (fun _ k => aI X156 hx (dk at_318) rfl rfl (Jvm.RoadKit.acmp (g := (mkF m 320 #[vi p1, vi p2, .val (.long q3), .second, .val (.long q4), .second, .val (.long q5), .second, .val (.long q6), .second, vr b10, vr b18, vr b24, vr b31, vr b38, vr b45, vr b52, vr b59, vr o66, vi 0, vr b102, vr b127, vr b144] [(.ref b59), (.ref b59)])) X156 hx rfl rfl rfl (pc0 := 320) (pc' := 323) (same := true) rfl (dk at_320) rfl (decide_eq_true rfl) (by decide) (by decide) (aI X156 hx (dk at_323) rfl rfl k))) ?_
      refine goV X156 hx hZ hown (W 137 rfl) (m20 hw) p144_0 0 22 85 (rm_g_sequence hw b144 q5 T144.heap n0 Z145 p144_12) N156 hh156 pd_12 hml (dk at_325) ?_
      rintro _ T157 L157 X157 N157 ⟨rfl, hh157⟩
      refine gz X157 336 #[vi p1, vi p2, .val (.long q3), .second, .val (.long q4), .second, .val (.long q5), .second, .val (.long q6), .second, vr b10, vr b18, vr b24, vr b31, vr b38, vr b45, vr b52, vr b59, vr o66, vi 0, vr b102, vr b127, vr b144] [(.ref b144)] (fun _ k => XS.lload X157.here hx rfl (dk at_328) rfl (XS.lcmp X157.here hx rfl (dk at_330) rfl (fN X157 hx (dk at_331) rfl ((if0 _ _).trans (teq ((lw_eq _ _).mpr (rfl : q5 = q5))).2) (aI X157 hx (dk at_334) rfl rfl k)))) ?_
      refine goV X157 hx hZ hown (W 142 rfl) (m21 hw) p144_0 0 22 85 (rm_g_paidPeriod_0 hw b144 b102 T144.heap n0 Z145 p144_13) N157 hh157 pd_13 hml (dk at_336) ?_
      rintro _ T158 L158 X158 N158 ⟨rfl, hh158⟩
      refine gz X158 346 #[vi p1, vi p2, .val (.long q3), .second, .val (.long q4), .second, .val (.long q5), .second, .val (.long q6), .second, vr b10, vr b18, vr b24, vr b31, vr b38, vr b45, vr b52, vr b59, vr o66, vi 0, vr b102, vr b127, vr b144] [(.ref b127)] (fun _ k => aI X158 hx (dk at_339) rfl rfl (Jvm.RoadKit.acmp (g := (mkF m 341 #[vi p1, vi p2, .val (.long q3), .second, .val (.long q4), .second, .val (.long q5), .second, .val (.long q6), .second, vr b10, vr b18, vr b24, vr b31, vr b38, vr b45, vr b52, vr b59, vr o66, vi 0, vr b102, vr b127, vr b144] [(.ref b102), (.ref b102)])) X158 hx rfl rfl rfl (pc0 := 341) (pc' := 344) (same := true) rfl (dk at_341) rfl (decide_eq_true rfl) (by decide) (by decide) (aI X158 hx (dk at_344) rfl rfl k))) ?_
      refine goV X158 hx hZ hown (W 82 rfl) (m9 hw) (p142_0.keep K144) 0 22 85 (rm_g_deliveryConfirmed_0 hw b127 T144.heap n0 Z145 (p142_11.keep K144 nin0)) N158 hh158 pd_9 hml (dk at_346) ?_
      rintro _ T159 L159 X159 N159 ⟨rfl, hh159⟩
      refine gz X159 359 #[vi p1, vi p2, .val (.long q3), .second, .val (.long q4), .second, .val (.long q5), .second, .val (.long q6), .second, vr b10, vr b18, vr b24, vr b31, vr b38, vr b45, vr b52, vr b59, vr o66, vi 0, vr b102, vr b127, vr b144] [(.int 1)] (fun _ k => lI X159 hx (dk at_349) rfl (cN X159 hx (dk at_351) rfl (teq (by decide)).2 (kC X159 hx (dk at_354) (gT X159 hx 355 359 rfl (dk at_355) k)))) ?_
      refine Go.retJ X159 hx hlk (t := .boolean) hret (dk at_359) ?_
      exact ⟨rfl, N159⟩
  · skip
    refine gz X66 134 #[vi p1, vi p2, .val (.long q3), .second, .val (.long q4), .second, .val (.long q5), .second, .val (.long q6), .second, vr b10, vr b18, vr b24, vr b31, vr b38, vr b45, vr b52, vr b59, vr o66, vi 1, .val .null, .unset, .unset] [(.int (((p2.toUInt32 >>> ((3 : Int32) &&& 31).toUInt32).toInt32) &&& (1 : Int32)))] (fun _ k => fN X66 hx (dk at_116) rfl ((if0 _ _).trans (feq c67).1) (kC X66 hx (dk at_119) (gT X66 hx 120 124 rfl (dk at_120) (sI X66 hx (dk at_124) rfl rfl (.inl rfl) (XS.aconstNull X66.here hx rfl (dk at_126) (tI X66 hx (dk at_127) rfl rfl rfl (.inl rfl) (lN X66 hx (dk at_129) rfl (kC X66 hx (dk at_130) (XS.iushr X66.here hx rfl (dk at_131) rfl (kC X66 hx (dk at_132) (XS.iand X66.here hx rfl (dk at_133) rfl k))))))))))) ?_
    by_cases c160 : (((p2.toUInt32 >>> ((3 : Int32) &&& 31).toUInt32).toInt32) &&& (1 : Int32)) = (0 : Int32)
    · skip
      refine gz X66 166 #[vi p1, vi p2, .val (.long q3), .second, .val (.long q4), .second, .val (.long q5), .second, .val (.long q6), .second, vr b10, vr b18, vr b24, vr b31, vr b38, vr b45, vr b52, vr b59, vr o66, vi 1, .val .null, .unset, .unset] [] (fun _ k => fY X66 hx 134 166 rfl (dk at_134) rfl ((if0 _ _).trans (teq c160).1) k) ?_
      obtain ⟨T161, h161, X161, e161, E161, A161, D161, -, st161⟩ := newO X66 hx hZ hown (W 37 rfl) (W 38 rfl) (W 39 rfl) hh66 (g := (mkF m 166 #[vi p1, vi p2, .val (.long q3), .second, .val (.long q4), .second, .val (.long q5), .second, .val (.long q6), .second, vr b10, vr b18, vr b24, vr b31, vr b38, vr b45, vr b52, vr b59, vr o66, vi 1, .val .null, .unset, .unset] [])) rfl (dk at_166) (by decide) (by decide)
      obtain ⟨b161, g161⟩ : ∃ z, z = T64.heap.size := ⟨_, rfl⟩
      rw [← g161] at A161 D161 st161
      have sz_b161 : T64.heap.size ≤ b161 := Nat.le_of_eq g161.symm
      have O162 := O65.ext E161
      have Z162 : n0 ≤ h161.size := Nat.le_trans Z65 E161.1
      have F163 : Fld Z h161 b161 "com/example/aurel/aurel/orders/Order" "purchaseOrderId" "Ljava/lang/String;" .null := D161 (Or.inr (W 50 rfl)) (ty := (.object "java/lang/String")) (by decide)
      have F164 : Fld Z h161 b161 "com/example/aurel/aurel/orders/Order" "purchaseToken" "Ljava/lang/String;" .null := D161 (Or.inr (W 52 rfl)) (ty := (.object "java/lang/String")) (by decide)
      have F165 : Fld Z h161 b161 "com/example/aurel/aurel/orders/Order" "userId" "Ljava/lang/String;" .null := D161 (Or.inr (W 54 rfl)) (ty := (.object "java/lang/String")) (by decide)
      have F166 : Fld Z h161 b161 "com/example/aurel/aurel/orders/Order" "applicationId" "Ljava/lang/String;" .null := D161 (Or.inr (W 56 rfl)) (ty := (.object "java/lang/String")) (by decide)
      have F167 : Fld Z h161 b161 "com/example/aurel/aurel/orders/Order" "packageName" "Ljava/lang/String;" .null := D161 (Or.inr (W 58 rfl)) (ty := (.object "java/lang/String")) (by decide)
      have F168 : Fld Z h161 b161 "com/example/aurel/aurel/orders/Order" "productId" "Ljava/lang/String;" .null := D161 (Or.inr (W 60 rfl)) (ty := (.object "java/lang/String")) (by decide)
      have F169 : Fld Z h161 b161 "com/example/aurel/aurel/orders/Order" "productType" "Lcom/example/aurel/aurel/catalog/ProductType;" .null := D161 (Or.inr (W 62 rfl)) (ty := (.object "com/example/aurel/aurel/catalog/ProductType")) (by decide)
      have F170 : Fld Z h161 b161 "com/example/aurel/aurel/orders/Order" "purchaseTime" "J" (.long (0 : Int64)) := D161 (Or.inr (W 64 rfl)) (ty := .long) (by decide)
      have F171 : Fld Z h161 b161 "com/example/aurel/aurel/orders/Order" "price" "J" (.long (0 : Int64)) := D161 (Or.inr (W 66 rfl)) (ty := .long) (by decide)
      have F172 : Fld Z h161 b161 "com/example/aurel/aurel/orders/Order" "currency" "Ljava/lang/String;" .null := D161 (Or.inr (W 68 rfl)) (ty := (.object "java/lang/String")) (by decide)
      have F173 : Fld Z h161 b161 "com/example/aurel/aurel/orders/Order" "deliveryConfirmed" "Z" (.int 0) := D161 (Or.inr (W 70 rfl)) (ty := .boolean) (by decide)
      have F174 : Fld Z h161 b161 "com/example/aurel/aurel/orders/Order" "sequence" "J" (.long (0 : Int64)) := D161 (Or.inr (W 72 rfl)) (ty := .long) (by decide)
      have F175 : Fld Z h161 b161 "com/example/aurel/aurel/orders/Order" "paidPeriod" "Lcom/example/aurel/aurel/orders/PaidPeriod;" .null := D161 (Or.inr (W 74 rfl)) (ty := (.object "com/example/aurel/aurel/orders/PaidPeriod")) (by decide)
      refine gz X161 195 #[vi p1, vi p2, .val (.long q3), .second, .val (.long q4), .second, .val (.long q5), .second, .val (.long q6), .second, vr b10, vr b18, vr b24, vr b31, vr b38, vr b45, vr b52, vr b59, vr o66, vi 1, .val .null, .unset, .unset] [.null, (.long q5), (.int 1), (.ref b59), (.long q4), (.long q3), (.ref o66), (.ref b52), (.ref b45), (.ref b38), (.ref b31), (.ref b24), (.ref b18), (.ref b161), (.ref b161)] (fun _ k => st161 _ (XS.dup X161.here hx rfl (dk at_169) rfl rfl (aI X161 hx (dk at_170) rfl rfl (aI X161 hx (dk at_172) rfl rfl (aI X161 hx (dk at_174) rfl rfl (aI X161 hx (dk at_176) rfl rfl (aI X161 hx (dk at_178) rfl rfl (aI X161 hx (dk at_180) rfl rfl (aI X161 hx (dk at_182) rfl rfl (XS.lloadN X161.here hx rfl (dk at_184) rfl (XS.lload X161.here hx rfl (dk at_185) rfl (aI X161 hx (dk at_187) rfl rfl (lI X161 hx (dk at_189) rfl (XS.lload X161.here hx rfl (dk at_191) rfl (aI X161 hx (dk at_193) rfl rfl k))))))))))))))) ?_
      refine goI X161 hx hZ hown (W 40 rfl) (m5 hw) 13 16 57 (rm_ord_n hw b161 b18 b24 b31 b38 b45 b52 o66 q3 q4 b59 (1 : Int32) q5 h161 n0 Z162 O162 A161 F163 F164 F165 F166 F167 F168 F169 F170 F171 F172 F173 F174 F175 (Nat.le_trans Z65 sz_b161)) N66 e161 pd_5 hml (dk at_195) ?_
      rintro _ T176 L176 X176 N176 ⟨rfl, K176, p176_0, p176_1, p176_2, p176_3, p176_4, p176_5, p176_6, p176_7, p176_8, p176_9, p176_10, p176_11, p176_12, p176_13⟩
      have O177 := O162.keep K176 (allS (Nat.le_trans Z65 sz_b161) all0)
      have Z177 : n0 ≤ T176.heap.size := Nat.le_trans Z162 K176.1
      have p176_11 : Fld Z T176.heap b161 "com/example/aurel/aurel/orders/Order" "deliveryConfirmed" "Z" (.int 1) := p176_11
      refine gz X176 202 #[vi p1, vi p2, .val (.long q3), .second, .val (.long q4), .second, .val (.long q5), .second, .val (.long q6), .second, vr b10, vr b18, vr b24, vr b31, vr b38, vr b45, vr b52, vr b59, vr o66, vi 1, .val .null, vr b161, .unset] [(.ref b161)] (fun _ k => tI X176 hx (dk at_198) rfl rfl rfl (.inl rfl) (aI X176 hx (dk at_200) rfl rfl k)) ?_
      refine goV X176 hx hZ hown (W 75 rfl) (m8 hw) p176_0 0 17 70 (rm_wdc_n hw b161 b18 b24 b31 b38 b45 b52 o66 q3 q4 b59 q5 T176.heap n0 Z177 O177 p176_1 p176_2 p176_3 p176_4 p176_5 p176_6 p176_7 p176_8 p176_9 p176_10 p176_12 p176_13) N176 rfl pd_8 hml (dk at_202) ?_
      rintro _ T178 L178 X178 N178 ⟨b178, rfl, K178, p178_0, p178_1, p178_2, p178_3, p178_4, p178_5, p178_6, p178_7, p178_8, p178_9, p178_10, p178_11, p178_12, p178_13, p178_14⟩
      have O179 := O177.keep K178 all0
      have Z179 : n0 ≤ T178.heap.size := Nat.le_trans Z177 K178.1
      have sz_b178 : T176.heap.size ≤ b178 := p178_14
      refine gz X178 216 #[vi p1, vi p2, .val (.long q3), .second, .val (.long q4), .second, .val (.long q5), .second, .val (.long q6), .second, vr b10, vr b18, vr b24, vr b31, vr b38, vr b45, vr b52, vr b59, vr o66, vi 1, .val .null, vr b161, vr b178] [(.ref b178)] (fun _ k => tI X178 hx (dk at_205) rfl rfl rfl (.inl rfl) (aI X178 hx (dk at_207) rfl rfl (XS.ifnonnullYes X178.here hx rfl (pc0 := 209) (pc' := 214) rfl (dk at_209) rfl (by decide) (by decide) (aI X178 hx (dk at_214) rfl rfl k)))) ?_
      refine goV X178 hx hZ hown (W 82 rfl) (m9 hw) p178_0 0 17 70 (rm_g_deliveryConfirmed_1 hw b178 T178.heap n0 Z179 p178_11) N178 rfl pd_9 hml (dk at_216) ?_
      rintro _ T180 L180 X180 N180 ⟨rfl, hh180⟩
      refine gz X180 224 #[vi p1, vi p2, .val (.long q3), .second, .val (.long q4), .second, .val (.long q5), .second, .val (.long q6), .second, vr b10, vr b18, vr b24, vr b31, vr b38, vr b45, vr b52, vr b59, vr o66, vi 1, .val .null, vr b161, vr b178] [(.ref b178)] (fun _ k => fN X180 hx (dk at_219) rfl ((if0 _ _).trans (feq (by decide)).1) (aI X180 hx (dk at_222) rfl rfl k)) ?_
      refine goV X180 hx hZ hown (W 87 rfl) (m10 hw) p178_0 0 17 70 (rm_g_purchaseOrderId hw b178 b18 T178.heap n0 Z179 p178_1) N180 hh180 pd_10 hml (dk at_224) ?_
      rintro _ T181 L181 X181 N181 ⟨rfl, hh181⟩
      refine gz X181 234 #[vi p1, vi p2, .val (.long q3), .second, .val (.long q4), .second, .val (.long q5), .second, .val (.long q6), .second, vr b10, vr b18, vr b24, vr b31, vr b38, vr b45, vr b52, vr b59, vr o66, vi 1, .val .null, vr b161, vr b178] [(.ref b178)] (fun _ k => aI X181 hx (dk at_227) rfl rfl (Jvm.RoadKit.acmp (g := (mkF m 229 #[vi p1, vi p2, .val (.long q3), .second, .val (.long q4), .second, .val (.long q5), .second, .val (.long q6), .second, vr b10, vr b18, vr b24, vr b31, vr b38, vr b45, vr b52, vr b59, vr o66, vi 1, .val .null, vr b161, vr b178] [(.ref b18), (.ref b18)])) X181 hx rfl rfl rfl (pc0 := 229) (pc' := 232) (same := true) rfl (dk at_229) rfl (decide_eq_true rfl) (by decide) (by decide) (aI X181 hx (dk at_232) rfl rfl k))) ?_
      refine goV X181 hx hZ hown (W 92 rfl) (m11 hw) p178_0 0 17 70 (rm_g_purchaseToken hw b178 b24 T178.heap n0 Z179 p178_2) N181 hh181 pd_10 hml (dk at_234) ?_
      rintro _ T182 L182 X182 N182 ⟨rfl, hh182⟩
      refine gz X182 244 #[vi p1, vi p2, .val (.long q3), .second, .val (.long q4), .second, .val (.long q5), .second, .val (.long q6), .second, vr b10, vr b18, vr b24, vr b31, vr b38, vr b45, vr b52, vr b59, vr o66, vi 1, .val .null, vr b161, vr b178] [(.ref b178)] (fun _ k => aI X182 hx (dk at_237) rfl rfl (Jvm.RoadKit.acmp (g := (mkF m 239 #[vi p1, vi p2, .val (.long q3), .second, .val (.long q4), .second, .val (.long q5), .second, .val (.long q6), .second, vr b10, vr b18, vr b24, vr b31, vr b38, vr b45, vr b52, vr b59, vr o66, vi 1, .val .null, vr b161, vr b178] [(.ref b24), (.ref b24)])) X182 hx rfl rfl rfl (pc0 := 239) (pc' := 242) (same := true) rfl (dk at_239) rfl (decide_eq_true rfl) (by decide) (by decide) (aI X182 hx (dk at_242) rfl rfl k))) ?_
      refine goV X182 hx hZ hown (W 97 rfl) (m12 hw) p178_0 0 17 70 (rm_g_userId hw b178 b31 T178.heap n0 Z179 p178_3) N182 hh182 pd_10 hml (dk at_244) ?_
      rintro _ T183 L183 X183 N183 ⟨rfl, hh183⟩
      refine gz X183 254 #[vi p1, vi p2, .val (.long q3), .second, .val (.long q4), .second, .val (.long q5), .second, .val (.long q6), .second, vr b10, vr b18, vr b24, vr b31, vr b38, vr b45, vr b52, vr b59, vr o66, vi 1, .val .null, vr b161, vr b178] [(.ref b178)] (fun _ k => aI X183 hx (dk at_247) rfl rfl (Jvm.RoadKit.acmp (g := (mkF m 249 #[vi p1, vi p2, .val (.long q3), .second, .val (.long q4), .second, .val (.long q5), .second, .val (.long q6), .second, vr b10, vr b18, vr b24, vr b31, vr b38, vr b45, vr b52, vr b59, vr o66, vi 1, .val .null, vr b161, vr b178] [(.ref b31), (.ref b31)])) X183 hx rfl rfl rfl (pc0 := 249) (pc' := 252) (same := true) rfl (dk at_249) rfl (decide_eq_true rfl) (by decide) (by decide) (aI X183 hx (dk at_252) rfl rfl k))) ?_
      refine goV X183 hx hZ hown (W 102 rfl) (m13 hw) p178_0 0 17 70 (rm_g_applicationId hw b178 b38 T178.heap n0 Z179 p178_4) N183 hh183 pd_10 hml (dk at_254) ?_
      rintro _ T184 L184 X184 N184 ⟨rfl, hh184⟩
      refine gz X184 264 #[vi p1, vi p2, .val (.long q3), .second, .val (.long q4), .second, .val (.long q5), .second, .val (.long q6), .second, vr b10, vr b18, vr b24, vr b31, vr b38, vr b45, vr b52, vr b59, vr o66, vi 1, .val .null, vr b161, vr b178] [(.ref b178)] (fun _ k => aI X184 hx (dk at_257) rfl rfl (Jvm.RoadKit.acmp (g := (mkF m 259 #[vi p1, vi p2, .val (.long q3), .second, .val (.long q4), .second, .val (.long q5), .second, .val (.long q6), .second, vr b10, vr b18, vr b24, vr b31, vr b38, vr b45, vr b52, vr b59, vr o66, vi 1, .val .null, vr b161, vr b178] [(.ref b38), (.ref b38)])) X184 hx rfl rfl rfl (pc0 := 259) (pc' := 262) (same := true) rfl (dk at_259) rfl (decide_eq_true rfl) (by decide) (by decide) (aI X184 hx (dk at_262) rfl rfl k))) ?_
      refine goV X184 hx hZ hown (W 107 rfl) (m14 hw) p178_0 0 17 70 (rm_g_packageName hw b178 b45 T178.heap n0 Z179 p178_5) N184 hh184 pd_10 hml (dk at_264) ?_
      rintro _ T185 L185 X185 N185 ⟨rfl, hh185⟩
      refine gz X185 274 #[vi p1, vi p2, .val (.long q3), .second, .val (.long q4), .second, .val (.long q5), .second, .val (.long q6), .second, vr b10, vr b18, vr b24, vr b31, vr b38, vr b45, vr b52, vr b59, vr o66, vi 1, .val .null, vr b161, vr b178] [(.ref b178)] (fun _ k => aI X185 hx (dk at_267) rfl rfl (Jvm.RoadKit.acmp (g := (mkF m 269 #[vi p1, vi p2, .val (.long q3), .second, .val (.long q4), .second, .val (.long q5), .second, .val (.long q6), .second, vr b10, vr b18, vr b24, vr b31, vr b38, vr b45, vr b52, vr b59, vr o66, vi 1, .val .null, vr b161, vr b178] [(.ref b45), (.ref b45)])) X185 hx rfl rfl rfl (pc0 := 269) (pc' := 272) (same := true) rfl (dk at_269) rfl (decide_eq_true rfl) (by decide) (by decide) (aI X185 hx (dk at_272) rfl rfl k))) ?_
      refine goV X185 hx hZ hown (W 112 rfl) (m15 hw) p178_0 0 17 70 (rm_g_productId hw b178 b52 T178.heap n0 Z179 p178_6) N185 hh185 pd_10 hml (dk at_274) ?_
      rintro _ T186 L186 X186 N186 ⟨rfl, hh186⟩
      refine gz X186 284 #[vi p1, vi p2, .val (.long q3), .second, .val (.long q4), .second, .val (.long q5), .second, .val (.long q6), .second, vr b10, vr b18, vr b24, vr b31, vr b38, vr b45, vr b52, vr b59, vr o66, vi 1, .val .null, vr b161, vr b178] [(.ref b178)] (fun _ k => aI X186 hx (dk at_277) rfl rfl (Jvm.RoadKit.acmp (g := (mkF m 279 #[vi p1, vi p2, .val (.long q3), .second, .val (.long q4), .second, .val (.long q5), .second, .val (.long q6), .second, vr b10, vr b18, vr b24, vr b31, vr b38, vr b45, vr b52, vr b59, vr o66, vi 1, .val .null, vr b161, vr b178] [(.ref b52), (.ref b52)])) X186 hx rfl rfl rfl (pc0 := 279) (pc' := 282) (same := true) rfl (dk at_279) rfl (decide_eq_true rfl) (by decide) (by decide) (aI X186 hx (dk at_282) rfl rfl k))) ?_
      refine goV X186 hx hZ hown (W 117 rfl) (m16 hw) p178_0 0 17 70 (rm_g_productType hw b178 o66 T178.heap n0 Z179 p178_7) N186 hh186 pd_11 hml (dk at_284) ?_
      rintro _ T187 L187 X187 N187 ⟨rfl, hh187⟩
      refine gz X187 294 #[vi p1, vi p2, .val (.long q3), .second, .val (.long q4), .second, .val (.long q5), .second, .val (.long q6), .second, vr b10, vr b18, vr b24, vr b31, vr b38, vr b45, vr b52, vr b59, vr o66, vi 1, .val .null, vr b161, vr b178] [(.ref b178)] (fun _ k => aI X187 hx (dk at_287) rfl rfl (Jvm.RoadKit.acmp (g := (mkF m 289 #[vi p1, vi p2, .val (.long q3), .second, .val (.long q4), .second, .val (.long q5), .second, .val (.long q6), .second, vr b10, vr b18, vr b24, vr b31, vr b38, vr b45, vr b52, vr b59, vr o66, vi 1, .val .null, vr b161, vr b178] [(.ref o66), (.ref o66)])) X187 hx rfl rfl rfl (pc0 := 289) (pc' := 292) (same := true) rfl (dk at_289) rfl (decide_eq_true rfl) (by decide) (by decide) (aI X187 hx (dk at_292) rfl rfl k))) ?_
      refine goV X187 hx hZ hown (W 122 rfl) (m17 hw) p178_0 0 17 70 (rm_g_purchaseTime hw b178 q3 T178.heap n0 Z179 p178_8) N187 hh187 pd_12 hml (dk at_294) ?_
      rintro _ T188 L188 X188 N188 ⟨rfl, hh188⟩
      refine gz X188 304 #[vi p1, vi p2, .val (.long q3), .second, .val (.long q4), .second, .val (.long q5), .second, .val (.long q6), .second, vr b10, vr b18, vr b24, vr b31, vr b38, vr b45, vr b52, vr b59, vr o66, vi 1, .val .null, vr b161, vr b178] [(.ref b178)] (fun _ k => XS.lloadN X188.here hx rfl (dk at_297) rfl (XS.lcmp X188.here hx rfl (dk at_298) rfl (fN X188 hx (dk at_299) rfl ((if0 _ _).trans (teq ((lw_eq _ _).mpr (rfl : q3 = q3))).2) (aI X188 hx (dk at_302) rfl rfl k)))) ?_
      refine goV X188 hx hZ hown (W 127 rfl) (m18 hw) p178_0 0 17 70 (rm_g_price hw b178 q4 T178.heap n0 Z179 p178_9) N188 hh188 pd_12 hml (dk at_304) ?_
      rintro _ T189 L189 X189 N189 ⟨rfl, hh189⟩
      refine gz X189 315 #[vi p1, vi p2, .val (.long q3), .second, .val (.long q4), .second, .val (.long q5), .second, .val (.long q6), .second, vr b10, vr b18, vr b24, vr b31, vr b38, vr b45, vr b52, vr b59, vr o66, vi 1, .val .null, vr b161, vr b178] [(.ref b178)] (fun _ k => XS.lload X189.here hx rfl (dk at_307) rfl (XS.lcmp X189.here hx rfl (dk at_309) rfl (fN X189 hx (dk at_310) rfl ((if0 _ _).trans (teq ((lw_eq _ _).mpr (rfl : q4 = q4))).2) (aI X189 hx (dk at_313) rfl rfl k)))) ?_
      refine goV X189 hx hZ hown (W 132 rfl) (m19 hw) p178_0 0 17 70 (rm_g_currency hw b178 b59 T178.heap n0 Z179 p178_10) N189 hh189 pd_10 hml (dk at_315) ?_
      rintro _ T190 L190 X190 N190 ⟨rfl, hh190⟩
      refine gz X190 325 #[vi p1, vi p2, .val (.long q3), .second, .val (.long q4), .second, .val (.long q5), .second, .val (.long q6), .second, vr b10, vr b18, vr b24, vr b31, vr b38, vr b45, vr b52, vr b59, vr o66, vi 1, .val .null, vr b161, vr b178] [(.ref b178)] (fun _ k => aI X190 hx (dk at_318) rfl rfl (Jvm.RoadKit.acmp (g := (mkF m 320 #[vi p1, vi p2, .val (.long q3), .second, .val (.long q4), .second, .val (.long q5), .second, .val (.long q6), .second, vr b10, vr b18, vr b24, vr b31, vr b38, vr b45, vr b52, vr b59, vr o66, vi 1, .val .null, vr b161, vr b178] [(.ref b59), (.ref b59)])) X190 hx rfl rfl rfl (pc0 := 320) (pc' := 323) (same := true) rfl (dk at_320) rfl (decide_eq_true rfl) (by decide) (by decide) (aI X190 hx (dk at_323) rfl rfl k))) ?_
      refine goV X190 hx hZ hown (W 137 rfl) (m20 hw) p178_0 0 17 70 (rm_g_sequence hw b178 q5 T178.heap n0 Z179 p178_12) N190 hh190 pd_12 hml (dk at_325) ?_
      rintro _ T191 L191 X191 N191 ⟨rfl, hh191⟩
      refine gz X191 336 #[vi p1, vi p2, .val (.long q3), .second, .val (.long q4), .second, .val (.long q5), .second, .val (.long q6), .second, vr b10, vr b18, vr b24, vr b31, vr b38, vr b45, vr b52, vr b59, vr o66, vi 1, .val .null, vr b161, vr b178] [(.ref b178)] (fun _ k => XS.lload X191.here hx rfl (dk at_328) rfl (XS.lcmp X191.here hx rfl (dk at_330) rfl (fN X191 hx (dk at_331) rfl ((if0 _ _).trans (teq ((lw_eq _ _).mpr (rfl : q5 = q5))).2) (aI X191 hx (dk at_334) rfl rfl k)))) ?_
      refine goV X191 hx hZ hown (W 142 rfl) (m21 hw) p178_0 0 17 70 (rm_g_paidPeriod_1 hw b178 T178.heap n0 Z179 p178_13) N191 hh191 pd_13 hml (dk at_336) ?_
      rintro _ T192 L192 X192 N192 ⟨rfl, hh192⟩
      refine gz X192 346 #[vi p1, vi p2, .val (.long q3), .second, .val (.long q4), .second, .val (.long q5), .second, .val (.long q6), .second, vr b10, vr b18, vr b24, vr b31, vr b38, vr b45, vr b52, vr b59, vr o66, vi 1, .val .null, vr b161, vr b178] [(.ref b161)] (fun _ k => aI X192 hx (dk at_339) rfl rfl (Jvm.RoadKit.acmp (g := (mkF m 341 #[vi p1, vi p2, .val (.long q3), .second, .val (.long q4), .second, .val (.long q5), .second, .val (.long q6), .second, vr b10, vr b18, vr b24, vr b31, vr b38, vr b45, vr b52, vr b59, vr o66, vi 1, .val .null, vr b161, vr b178] [.null, .null])) X192 hx rfl rfl rfl (pc0 := 341) (pc' := 344) (same := true) rfl (dk at_341) rfl (decide_eq_true rfl) (by decide) (by decide) (aI X192 hx (dk at_344) rfl rfl k))) ?_
      refine goV X192 hx hZ hown (W 82 rfl) (m9 hw) (p176_0.keep K178) 0 17 70 (rm_g_deliveryConfirmed_1 hw b161 T178.heap n0 Z179 (p176_11.keep K178 nin0)) N192 hh192 pd_9 hml (dk at_346) ?_
      rintro _ T193 L193 X193 N193 ⟨rfl, hh193⟩
      refine gz X193 359 #[vi p1, vi p2, .val (.long q3), .second, .val (.long q4), .second, .val (.long q5), .second, .val (.long q6), .second, vr b10, vr b18, vr b24, vr b31, vr b38, vr b45, vr b52, vr b59, vr o66, vi 1, .val .null, vr b161, vr b178] [(.int 1)] (fun _ k => lI X193 hx (dk at_349) rfl (cN X193 hx (dk at_351) rfl (teq (by decide)).2 (kC X193 hx (dk at_354) (gT X193 hx 355 359 rfl (dk at_355) k)))) ?_
      refine Go.retJ X193 hx hlk (t := .boolean) hret (dk at_359) ?_
      exact ⟨rfl, N193⟩
    · skip
      refine gz X66 137 #[vi p1, vi p2, .val (.long q3), .second, .val (.long q4), .second, .val (.long q5), .second, .val (.long q6), .second, vr b10, vr b18, vr b24, vr b31, vr b38, vr b45, vr b52, vr b59, vr o66, vi 1, .val .null, .unset, .unset] [] (fun _ k => fN X66 hx (dk at_134) rfl ((if0 _ _).trans (feq c160).1) k) ?_
      obtain ⟨T194, h194, X194, e194, E194, A194, D194, -, st194⟩ := newO X66 hx hZ hown (W 149 rfl) (W 150 rfl) (W 151 rfl) hh66 (g := (mkF m 137 #[vi p1, vi p2, .val (.long q3), .second, .val (.long q4), .second, .val (.long q5), .second, .val (.long q6), .second, vr b10, vr b18, vr b24, vr b31, vr b38, vr b45, vr b52, vr b59, vr o66, vi 1, .val .null, .unset, .unset] [])) rfl (dk at_137) (by decide) (by decide)
      obtain ⟨b194, g194⟩ : ∃ z, z = T64.heap.size := ⟨_, rfl⟩
      rw [← g194] at A194 D194 st194
      have sz_b194 : T64.heap.size ≤ b194 := Nat.le_of_eq g194.symm
      have O195 := O65.ext E194
      have Z195 : n0 ≤ h194.size := Nat.le_trans Z65 E194.1
      have F196 : Fld Z h194 b194 "com/example/aurel/aurel/orders/PaidPeriod" "subGroupId" "Ljava/lang/String;" .null := D194 (Or.inr (W 157 rfl)) (ty := (.object "java/lang/String")) (by decide)
      have F197 : Fld Z h194 b194 "com/example/aurel/aurel/orders/PaidPeriod" "subscriptionId" "Ljava/lang/String;" .null := D194 (Or.inr (W 159 rfl)) (ty := (.object "java/lang/String")) (by decide)
      have F198 : Fld Z h194 b194 "com/example/aurel/aurel/orders/PaidPeriod" "expiresTime" "J" (.long (0 : Int64)) := D194 (Or.inr (W 161 rfl)) (ty := .long) (by decide)
      refine gz X194 141 #[vi p1, vi p2, .val (.long q3), .second, .val (.long q4), .second, .val (.long q5), .second, .val (.long q6), .second, vr b10, vr b18, vr b24, vr b31, vr b38, vr b45, vr b52, vr b59, vr o66, vi 1, .val .null, .unset, .unset] [(.ref b194), (.ref b194)] (fun _ k => st194 _ (XS.dup X194.here hx rfl (dk at_140) rfl rfl k)) ?_
      obtain ⟨T199, h199, X199, e199, E199, A199, D199, -, st199⟩ := newO X194 hx hZ hown (W 1 rfl) (W 2 rfl) (W 3 rfl) e194 (g := (mkF m 141 #[vi p1, vi p2, .val (.long q3), .second, .val (.long q4), .second, .val (.long q5), .second, .val (.long q6), .second, vr b10, vr b18, vr b24, vr b31, vr b38, vr b45, vr b52, vr b59, vr o66, vi 1, .val .null, .unset, .unset] [(.ref b194), (.ref b194)])) rfl (dk at_141) (by decide) (by decide)
      obtain ⟨b199, g199⟩ : ∃ z, z = h194.size := ⟨_, rfl⟩
      rw [← g199] at A199 D199 st199
      have sz_b199 : h194.size ≤ b199 := Nat.le_of_eq g199.symm
      have O200 := O195.ext E199
      have Z200 : n0 ≤ h199.size := Nat.le_trans Z195 E199.1
      have F201 : FC Z h199 b199 0 := D199 (Or.inr (W 27 rfl)) (ty := .byte) (by decide)
      have F202 : Fld Z h199 b199 "java/lang/String" "value" "[B" .null := D199 (Or.inr (W 29 rfl)) (ty := (.array .byte)) (by decide)
      refine gz X199 147 #[vi p1, vi p2, .val (.long q3), .second, .val (.long q4), .second, .val (.long q5), .second, .val (.long q6), .second, vr b10, vr b18, vr b24, vr b31, vr b38, vr b45, vr b52, vr b59, vr o66, vi 1, .val .null, .unset, .unset] [(.ref b10), (.ref b199), (.ref b199), (.ref b194), (.ref b194)] (fun _ k => st199 _ (XS.dup X199.here hx rfl (dk at_144) rfl rfl (aI X199 hx (dk at_145) rfl rfl k))) ?_
      have f203 := (((f63.keep K64 (ninS (Nat.ne_of_lt (Nat.lt_of_lt_of_le (f56.keep K57 (ninS (Nat.ne_of_lt (Nat.lt_of_lt_of_le (f49.keep K50 (ninS (Nat.ne_of_lt (Nat.lt_of_lt_of_le (f42.keep K43 (ninS (Nat.ne_of_lt (Nat.lt_of_lt_of_le (f35.keep K36 (ninS (Nat.ne_of_lt (Nat.lt_of_lt_of_le (f28.keep K29 (ninS (Nat.ne_of_lt (Nat.lt_of_lt_of_le ((V16.ext E18).keep K22 (ninS (Nat.ne_of_lt (Nat.lt_of_lt_of_le V16.lt sz_b18)) nin0)).lt sz_b24)) nin0)).lt sz_b31)) nin0)).lt sz_b38)) nin0)).lt sz_b45)) nin0)).lt sz_b52)) nin0)).lt sz_b59)) nin0)).ext E194).ext E199)
      refine goI X199 hx hZ hown (W 4 rfl) (m6 hw) 1 18 53 (rm_sC_2 hw b199 b10 k10 (nar .char ((p1 &&& (255 : Int32)).toUInt32.toUInt16.toUInt32.toInt32)) (nar .char ((((p1.toUInt32 >>> ((8 : Int32) &&& 31).toUInt32).toInt32) &&& (255 : Int32)).toUInt32.toUInt16.toUInt32.toInt32)) cs h199 n0 Z200 O200 pr1 hcs A199 F202 F201 (Nat.le_trans Z195 sz_b199) f203 (own_chn _) (own_chn _)) N66 e199 pd_6 hml (dk at_147) ?_
      rintro _ T204 L204 X204 N204 ⟨t204, k204, rfl, K204, p204_0, p204_1, p204_2, p204_3, p204_4⟩
      have O205 := O200.keep K204 (allS (Nat.le_trans Z195 sz_b199) all0)
      have Z205 : n0 ≤ T204.heap.size := Nat.le_trans Z200 K204.1
      have sz_t204 : h199.size ≤ t204 := p204_4
      obtain ⟨T206, h206, X206, e206, E206, A206, D206, -, st206⟩ := newO X204 hx hZ hown (W 1 rfl) (W 2 rfl) (W 3 rfl) rfl (g := (mkF m 150 #[vi p1, vi p2, .val (.long q3), .second, .val (.long q4), .second, .val (.long q5), .second, .val (.long q6), .second, vr b10, vr b18, vr b24, vr b31, vr b38, vr b45, vr b52, vr b59, vr o66, vi 1, .val .null, .unset, .unset] [(.ref b199), (.ref b194), (.ref b194)])) rfl (dk at_150) (by decide) (by decide)
      obtain ⟨b206, g206⟩ : ∃ z, z = T204.heap.size := ⟨_, rfl⟩
      rw [← g206] at A206 D206 st206
      have sz_b206 : T204.heap.size ≤ b206 := Nat.le_of_eq g206.symm
      have O207 := O205.ext E206
      have Z207 : n0 ≤ h206.size := Nat.le_trans Z205 E206.1
      have F208 : FC Z h206 b206 0 := D206 (Or.inr (W 27 rfl)) (ty := .byte) (by decide)
      have F209 : Fld Z h206 b206 "java/lang/String" "value" "[B" .null := D206 (Or.inr (W 29 rfl)) (ty := (.array .byte)) (by decide)
      refine gz X206 156 #[vi p1, vi p2, .val (.long q3), .second, .val (.long q4), .second, .val (.long q5), .second, .val (.long q6), .second, vr b10, vr b18, vr b24, vr b31, vr b38, vr b45, vr b52, vr b59, vr o66, vi 1, .val .null, .unset, .unset] [(.ref b10), (.ref b206), (.ref b206), (.ref b199), (.ref b194), (.ref b194)] (fun _ k => st206 _ (XS.dup X206.here hx rfl (dk at_153) rfl rfl (aI X206 hx (dk at_154) rfl rfl k))) ?_
      have f210 := ((f203.keep K204 (ninS (Nat.ne_of_lt (Nat.lt_of_lt_of_le ((f63.keep K64 (ninS (Nat.ne_of_lt (Nat.lt_of_lt_of_le (f56.keep K57 (ninS (Nat.ne_of_lt (Nat.lt_of_lt_of_le (f49.keep K50 (ninS (Nat.ne_of_lt (Nat.lt_of_lt_of_le (f42.keep K43 (ninS (Nat.ne_of_lt (Nat.lt_of_lt_of_le (f35.keep K36 (ninS (Nat.ne_of_lt (Nat.lt_of_lt_of_le (f28.keep K29 (ninS (Nat.ne_of_lt (Nat.lt_of_lt_of_le ((V16.ext E18).keep K22 (ninS (Nat.ne_of_lt (Nat.lt_of_lt_of_le V16.lt sz_b18)) nin0)).lt sz_b24)) nin0)).lt sz_b31)) nin0)).lt sz_b38)) nin0)).lt sz_b45)) nin0)).lt sz_b52)) nin0)).lt sz_b59)) nin0)).ext E194).lt sz_b199)) nin0)).ext E206)
      refine goI X206 hx hZ hown (W 4 rfl) (m6 hw) 1 20 59 (rm_sC_2 hw b206 b10 k10 (nar .char ((p1 &&& (255 : Int32)).toUInt32.toUInt16.toUInt32.toInt32)) (nar .char ((((p1.toUInt32 >>> ((8 : Int32) &&& 31).toUInt32).toInt32) &&& (255 : Int32)).toUInt32.toUInt16.toUInt32.toInt32)) cs h206 n0 Z207 O207 pr1 hcs A206 F209 F208 (Nat.le_trans Z205 sz_b206) f210 (own_chn _) (own_chn _)) N204 e206 pd_6 hml (dk at_156) ?_
      rintro _ T211 L211 X211 N211 ⟨t211, k211, rfl, K211, p211_0, p211_1, p211_2, p211_3, p211_4⟩
      have O212 := O207.keep K211 (allS (Nat.le_trans Z205 sz_b206) all0)
      have Z212 : n0 ≤ T211.heap.size := Nat.le_trans Z207 K211.1
      have sz_t211 : h206.size ≤ t211 := p211_4
      refine gz X211 161 #[vi p1, vi p2, .val (.long q3), .second, .val (.long q4), .second, .val (.long q5), .second, .val (.long q6), .second, vr b10, vr b18, vr b24, vr b31, vr b38, vr b45, vr b52, vr b59, vr o66, vi 1, .val .null, .unset, .unset] [(.long q6), (.ref b206), (.ref b199), (.ref b194), (.ref b194)] (fun _ k => XS.lload X211.here hx rfl (dk at_159) rfl k) ?_
      have f213 := ((((A194.ext E199).keep K204).ext E206).keep K211)
      have f214 := ((((F196.ext E199).keep K204 (ninS (Nat.ne_of_lt (Nat.lt_of_lt_of_le A194.lt sz_b199)) nin0)).ext E206).keep K211 (ninS (Nat.ne_of_lt (Nat.lt_of_lt_of_le ((A194.ext E199).keep K204).lt sz_b206)) nin0))
      have f215 := ((((F197.ext E199).keep K204 (ninS (Nat.ne_of_lt (Nat.lt_of_lt_of_le A194.lt sz_b199)) nin0)).ext E206).keep K211 (ninS (Nat.ne_of_lt (Nat.lt_of_lt_of_le ((A194.ext E199).keep K204).lt sz_b206)) nin0))
      have f216 := ((((F198.ext E199).keep K204 (ninS (Nat.ne_of_lt (Nat.lt_of_lt_of_le A194.lt sz_b199)) nin0)).ext E206).keep K211 (ninS (Nat.ne_of_lt (Nat.lt_of_lt_of_le ((A194.ext E199).keep K204).lt sz_b206)) nin0))
      refine goI X211 hx hZ hown (W 152 rfl) (m22 hw) 3 20 59 (rm_pp hw b194 b199 b206 q6 T211.heap n0 Z212 O212 f213 f214 f215 f216 (Nat.le_trans Z65 sz_b194)) N211 rfl pd_14 hml (dk at_161) ?_
      rintro _ T217 L217 X217 N217 ⟨rfl, K217, p217_0, p217_1, p217_2, p217_3⟩
      have O218 := O212.keep K217 (allS (Nat.le_trans Z65 sz_b194) all0)
      have Z218 : n0 ≤ T217.heap.size := Nat.le_trans Z212 K217.1
      refine gz X217 166 #[vi p1, vi p2, .val (.long q3), .second, .val (.long q4), .second, .val (.long q5), .second, .val (.long q6), .second, vr b10, vr b18, vr b24, vr b31, vr b38, vr b45, vr b52, vr b59, vr o66, vi 1, vr b194, .unset, .unset] [] (fun _ k => tI X217 hx (dk at_164) rfl rfl rfl (.inr ⟨_, rfl, rfl⟩) k) ?_
      obtain ⟨T219, h219, X219, e219, E219, A219, D219, -, st219⟩ := newO X217 hx hZ hown (W 37 rfl) (W 38 rfl) (W 39 rfl) rfl (g := (mkF m 166 #[vi p1, vi p2, .val (.long q3), .second, .val (.long q4), .second, .val (.long q5), .second, .val (.long q6), .second, vr b10, vr b18, vr b24, vr b31, vr b38, vr b45, vr b52, vr b59, vr o66, vi 1, vr b194, .unset, .unset] [])) rfl (dk at_166) (by decide) (by decide)
      obtain ⟨b219, g219⟩ : ∃ z, z = T217.heap.size := ⟨_, rfl⟩
      rw [← g219] at A219 D219 st219
      have sz_b219 : T217.heap.size ≤ b219 := Nat.le_of_eq g219.symm
      have O220 := O218.ext E219
      have Z220 : n0 ≤ h219.size := Nat.le_trans Z218 E219.1
      have F221 : Fld Z h219 b219 "com/example/aurel/aurel/orders/Order" "purchaseOrderId" "Ljava/lang/String;" .null := D219 (Or.inr (W 50 rfl)) (ty := (.object "java/lang/String")) (by decide)
      have F222 : Fld Z h219 b219 "com/example/aurel/aurel/orders/Order" "purchaseToken" "Ljava/lang/String;" .null := D219 (Or.inr (W 52 rfl)) (ty := (.object "java/lang/String")) (by decide)
      have F223 : Fld Z h219 b219 "com/example/aurel/aurel/orders/Order" "userId" "Ljava/lang/String;" .null := D219 (Or.inr (W 54 rfl)) (ty := (.object "java/lang/String")) (by decide)
      have F224 : Fld Z h219 b219 "com/example/aurel/aurel/orders/Order" "applicationId" "Ljava/lang/String;" .null := D219 (Or.inr (W 56 rfl)) (ty := (.object "java/lang/String")) (by decide)
      have F225 : Fld Z h219 b219 "com/example/aurel/aurel/orders/Order" "packageName" "Ljava/lang/String;" .null := D219 (Or.inr (W 58 rfl)) (ty := (.object "java/lang/String")) (by decide)
      have F226 : Fld Z h219 b219 "com/example/aurel/aurel/orders/Order" "productId" "Ljava/lang/String;" .null := D219 (Or.inr (W 60 rfl)) (ty := (.object "java/lang/String")) (by decide)
      have F227 : Fld Z h219 b219 "com/example/aurel/aurel/orders/Order" "productType" "Lcom/example/aurel/aurel/catalog/ProductType;" .null := D219 (Or.inr (W 62 rfl)) (ty := (.object "com/example/aurel/aurel/catalog/ProductType")) (by decide)
      have F228 : Fld Z h219 b219 "com/example/aurel/aurel/orders/Order" "purchaseTime" "J" (.long (0 : Int64)) := D219 (Or.inr (W 64 rfl)) (ty := .long) (by decide)
      have F229 : Fld Z h219 b219 "com/example/aurel/aurel/orders/Order" "price" "J" (.long (0 : Int64)) := D219 (Or.inr (W 66 rfl)) (ty := .long) (by decide)
      have F230 : Fld Z h219 b219 "com/example/aurel/aurel/orders/Order" "currency" "Ljava/lang/String;" .null := D219 (Or.inr (W 68 rfl)) (ty := (.object "java/lang/String")) (by decide)
      have F231 : Fld Z h219 b219 "com/example/aurel/aurel/orders/Order" "deliveryConfirmed" "Z" (.int 0) := D219 (Or.inr (W 70 rfl)) (ty := .boolean) (by decide)
      have F232 : Fld Z h219 b219 "com/example/aurel/aurel/orders/Order" "sequence" "J" (.long (0 : Int64)) := D219 (Or.inr (W 72 rfl)) (ty := .long) (by decide)
      have F233 : Fld Z h219 b219 "com/example/aurel/aurel/orders/Order" "paidPeriod" "Lcom/example/aurel/aurel/orders/PaidPeriod;" .null := D219 (Or.inr (W 74 rfl)) (ty := (.object "com/example/aurel/aurel/orders/PaidPeriod")) (by decide)
      refine gz X219 195 #[vi p1, vi p2, .val (.long q3), .second, .val (.long q4), .second, .val (.long q5), .second, .val (.long q6), .second, vr b10, vr b18, vr b24, vr b31, vr b38, vr b45, vr b52, vr b59, vr o66, vi 1, vr b194, .unset, .unset] [(.ref b194), (.long q5), (.int 1), (.ref b59), (.long q4), (.long q3), (.ref o66), (.ref b52), (.ref b45), (.ref b38), (.ref b31), (.ref b24), (.ref b18), (.ref b219), (.ref b219)] (fun _ k => st219 _ (XS.dup X219.here hx rfl (dk at_169) rfl rfl (aI X219 hx (dk at_170) rfl rfl (aI X219 hx (dk at_172) rfl rfl (aI X219 hx (dk at_174) rfl rfl (aI X219 hx (dk at_176) rfl rfl (aI X219 hx (dk at_178) rfl rfl (aI X219 hx (dk at_180) rfl rfl (aI X219 hx (dk at_182) rfl rfl (XS.lloadN X219.here hx rfl (dk at_184) rfl (XS.lload X219.here hx rfl (dk at_185) rfl (aI X219 hx (dk at_187) rfl rfl (lI X219 hx (dk at_189) rfl (XS.lload X219.here hx rfl (dk at_191) rfl (aI X219 hx (dk at_193) rfl rfl k))))))))))))))) ?_
      refine goI X219 hx hZ hown (W 40 rfl) (m5 hw) 13 21 72 (rm_ord_r hw b219 b18 b24 b31 b38 b45 b52 o66 q3 q4 b59 (1 : Int32) q5 b194 h219 n0 Z220 O220 A219 F221 F222 F223 F224 F225 F226 F227 F228 F229 F230 F231 F232 F233 (Nat.le_trans Z218 sz_b219)) N217 e219 pd_5 hml (dk at_195) ?_
      rintro _ T234 L234 X234 N234 ⟨rfl, K234, p234_0, p234_1, p234_2, p234_3, p234_4, p234_5, p234_6, p234_7, p234_8, p234_9, p234_10, p234_11, p234_12, p234_13⟩
      have O235 := O220.keep K234 (allS (Nat.le_trans Z218 sz_b219) all0)
      have Z235 : n0 ≤ T234.heap.size := Nat.le_trans Z220 K234.1
      have p234_11 : Fld Z T234.heap b219 "com/example/aurel/aurel/orders/Order" "deliveryConfirmed" "Z" (.int 1) := p234_11
      refine gz X234 202 #[vi p1, vi p2, .val (.long q3), .second, .val (.long q4), .second, .val (.long q5), .second, .val (.long q6), .second, vr b10, vr b18, vr b24, vr b31, vr b38, vr b45, vr b52, vr b59, vr o66, vi 1, vr b194, vr b219, .unset] [(.ref b219)] (fun _ k => tI X234 hx (dk at_198) rfl rfl rfl (.inl rfl) (aI X234 hx (dk at_200) rfl rfl k)) ?_
      refine goV X234 hx hZ hown (W 75 rfl) (m8 hw) p234_0 0 22 85 (rm_wdc_r hw b219 b18 b24 b31 b38 b45 b52 o66 q3 q4 b59 q5 b194 T234.heap n0 Z235 O235 p234_1 p234_2 p234_3 p234_4 p234_5 p234_6 p234_7 p234_8 p234_9 p234_10 p234_12 p234_13) N234 rfl pd_8 hml (dk at_202) ?_
      rintro _ T236 L236 X236 N236 ⟨b236, rfl, K236, p236_0, p236_1, p236_2, p236_3, p236_4, p236_5, p236_6, p236_7, p236_8, p236_9, p236_10, p236_11, p236_12, p236_13, p236_14⟩
      have O237 := O235.keep K236 all0
      have Z237 : n0 ≤ T236.heap.size := Nat.le_trans Z235 K236.1
      have sz_b236 : T234.heap.size ≤ b236 := p236_14
      refine gz X236 216 #[vi p1, vi p2, .val (.long q3), .second, .val (.long q4), .second, .val (.long q5), .second, .val (.long q6), .second, vr b10, vr b18, vr b24, vr b31, vr b38, vr b45, vr b52, vr b59, vr o66, vi 1, vr b194, vr b219, vr b236] [(.ref b236)] (fun _ k => tI X236 hx (dk at_205) rfl rfl rfl (.inl rfl) (aI X236 hx (dk at_207) rfl rfl (XS.ifnonnullYes X236.here hx rfl (pc0 := 209) (pc' := 214) rfl (dk at_209) rfl (by decide) (by decide) (aI X236 hx (dk at_214) rfl rfl k)))) ?_
      refine goV X236 hx hZ hown (W 82 rfl) (m9 hw) p236_0 0 22 85 (rm_g_deliveryConfirmed_1 hw b236 T236.heap n0 Z237 p236_11) N236 rfl pd_9 hml (dk at_216) ?_
      rintro _ T238 L238 X238 N238 ⟨rfl, hh238⟩
      refine gz X238 224 #[vi p1, vi p2, .val (.long q3), .second, .val (.long q4), .second, .val (.long q5), .second, .val (.long q6), .second, vr b10, vr b18, vr b24, vr b31, vr b38, vr b45, vr b52, vr b59, vr o66, vi 1, vr b194, vr b219, vr b236] [(.ref b236)] (fun _ k => fN X238 hx (dk at_219) rfl ((if0 _ _).trans (feq (by decide)).1) (aI X238 hx (dk at_222) rfl rfl k)) ?_
      refine goV X238 hx hZ hown (W 87 rfl) (m10 hw) p236_0 0 22 85 (rm_g_purchaseOrderId hw b236 b18 T236.heap n0 Z237 p236_1) N238 hh238 pd_10 hml (dk at_224) ?_
      rintro _ T239 L239 X239 N239 ⟨rfl, hh239⟩
      refine gz X239 234 #[vi p1, vi p2, .val (.long q3), .second, .val (.long q4), .second, .val (.long q5), .second, .val (.long q6), .second, vr b10, vr b18, vr b24, vr b31, vr b38, vr b45, vr b52, vr b59, vr o66, vi 1, vr b194, vr b219, vr b236] [(.ref b236)] (fun _ k => aI X239 hx (dk at_227) rfl rfl (Jvm.RoadKit.acmp (g := (mkF m 229 #[vi p1, vi p2, .val (.long q3), .second, .val (.long q4), .second, .val (.long q5), .second, .val (.long q6), .second, vr b10, vr b18, vr b24, vr b31, vr b38, vr b45, vr b52, vr b59, vr o66, vi 1, vr b194, vr b219, vr b236] [(.ref b18), (.ref b18)])) X239 hx rfl rfl rfl (pc0 := 229) (pc' := 232) (same := true) rfl (dk at_229) rfl (decide_eq_true rfl) (by decide) (by decide) (aI X239 hx (dk at_232) rfl rfl k))) ?_
      refine goV X239 hx hZ hown (W 92 rfl) (m11 hw) p236_0 0 22 85 (rm_g_purchaseToken hw b236 b24 T236.heap n0 Z237 p236_2) N239 hh239 pd_10 hml (dk at_234) ?_
      rintro _ T240 L240 X240 N240 ⟨rfl, hh240⟩
      refine gz X240 244 #[vi p1, vi p2, .val (.long q3), .second, .val (.long q4), .second, .val (.long q5), .second, .val (.long q6), .second, vr b10, vr b18, vr b24, vr b31, vr b38, vr b45, vr b52, vr b59, vr o66, vi 1, vr b194, vr b219, vr b236] [(.ref b236)] (fun _ k => aI X240 hx (dk at_237) rfl rfl (Jvm.RoadKit.acmp (g := (mkF m 239 #[vi p1, vi p2, .val (.long q3), .second, .val (.long q4), .second, .val (.long q5), .second, .val (.long q6), .second, vr b10, vr b18, vr b24, vr b31, vr b38, vr b45, vr b52, vr b59, vr o66, vi 1, vr b194, vr b219, vr b236] [(.ref b24), (.ref b24)])) X240 hx rfl rfl rfl (pc0 := 239) (pc' := 242) (same := true) rfl (dk at_239) rfl (decide_eq_true rfl) (by decide) (by decide) (aI X240 hx (dk at_242) rfl rfl k))) ?_
      refine goV X240 hx hZ hown (W 97 rfl) (m12 hw) p236_0 0 22 85 (rm_g_userId hw b236 b31 T236.heap n0 Z237 p236_3) N240 hh240 pd_10 hml (dk at_244) ?_
      rintro _ T241 L241 X241 N241 ⟨rfl, hh241⟩
      refine gz X241 254 #[vi p1, vi p2, .val (.long q3), .second, .val (.long q4), .second, .val (.long q5), .second, .val (.long q6), .second, vr b10, vr b18, vr b24, vr b31, vr b38, vr b45, vr b52, vr b59, vr o66, vi 1, vr b194, vr b219, vr b236] [(.ref b236)] (fun _ k => aI X241 hx (dk at_247) rfl rfl (Jvm.RoadKit.acmp (g := (mkF m 249 #[vi p1, vi p2, .val (.long q3), .second, .val (.long q4), .second, .val (.long q5), .second, .val (.long q6), .second, vr b10, vr b18, vr b24, vr b31, vr b38, vr b45, vr b52, vr b59, vr o66, vi 1, vr b194, vr b219, vr b236] [(.ref b31), (.ref b31)])) X241 hx rfl rfl rfl (pc0 := 249) (pc' := 252) (same := true) rfl (dk at_249) rfl (decide_eq_true rfl) (by decide) (by decide) (aI X241 hx (dk at_252) rfl rfl k))) ?_
      refine goV X241 hx hZ hown (W 102 rfl) (m13 hw) p236_0 0 22 85 (rm_g_applicationId hw b236 b38 T236.heap n0 Z237 p236_4) N241 hh241 pd_10 hml (dk at_254) ?_
      rintro _ T242 L242 X242 N242 ⟨rfl, hh242⟩
      refine gz X242 264 #[vi p1, vi p2, .val (.long q3), .second, .val (.long q4), .second, .val (.long q5), .second, .val (.long q6), .second, vr b10, vr b18, vr b24, vr b31, vr b38, vr b45, vr b52, vr b59, vr o66, vi 1, vr b194, vr b219, vr b236] [(.ref b236)] (fun _ k => aI X242 hx (dk at_257) rfl rfl (Jvm.RoadKit.acmp (g := (mkF m 259 #[vi p1, vi p2, .val (.long q3), .second, .val (.long q4), .second, .val (.long q5), .second, .val (.long q6), .second, vr b10, vr b18, vr b24, vr b31, vr b38, vr b45, vr b52, vr b59, vr o66, vi 1, vr b194, vr b219, vr b236] [(.ref b38), (.ref b38)])) X242 hx rfl rfl rfl (pc0 := 259) (pc' := 262) (same := true) rfl (dk at_259) rfl (decide_eq_true rfl) (by decide) (by decide) (aI X242 hx (dk at_262) rfl rfl k))) ?_
      refine goV X242 hx hZ hown (W 107 rfl) (m14 hw) p236_0 0 22 85 (rm_g_packageName hw b236 b45 T236.heap n0 Z237 p236_5) N242 hh242 pd_10 hml (dk at_264) ?_
      rintro _ T243 L243 X243 N243 ⟨rfl, hh243⟩
      refine gz X243 274 #[vi p1, vi p2, .val (.long q3), .second, .val (.long q4), .second, .val (.long q5), .second, .val (.long q6), .second, vr b10, vr b18, vr b24, vr b31, vr b38, vr b45, vr b52, vr b59, vr o66, vi 1, vr b194, vr b219, vr b236] [(.ref b236)] (fun _ k => aI X243 hx (dk at_267) rfl rfl (Jvm.RoadKit.acmp (g := (mkF m 269 #[vi p1, vi p2, .val (.long q3), .second, .val (.long q4), .second, .val (.long q5), .second, .val (.long q6), .second, vr b10, vr b18, vr b24, vr b31, vr b38, vr b45, vr b52, vr b59, vr o66, vi 1, vr b194, vr b219, vr b236] [(.ref b45), (.ref b45)])) X243 hx rfl rfl rfl (pc0 := 269) (pc' := 272) (same := true) rfl (dk at_269) rfl (decide_eq_true rfl) (by decide) (by decide) (aI X243 hx (dk at_272) rfl rfl k))) ?_
      refine goV X243 hx hZ hown (W 112 rfl) (m15 hw) p236_0 0 22 85 (rm_g_productId hw b236 b52 T236.heap n0 Z237 p236_6) N243 hh243 pd_10 hml (dk at_274) ?_
      rintro _ T244 L244 X244 N244 ⟨rfl, hh244⟩
      refine gz X244 284 #[vi p1, vi p2, .val (.long q3), .second, .val (.long q4), .second, .val (.long q5), .second, .val (.long q6), .second, vr b10, vr b18, vr b24, vr b31, vr b38, vr b45, vr b52, vr b59, vr o66, vi 1, vr b194, vr b219, vr b236] [(.ref b236)] (fun _ k => aI X244 hx (dk at_277) rfl rfl (Jvm.RoadKit.acmp (g := (mkF m 279 #[vi p1, vi p2, .val (.long q3), .second, .val (.long q4), .second, .val (.long q5), .second, .val (.long q6), .second, vr b10, vr b18, vr b24, vr b31, vr b38, vr b45, vr b52, vr b59, vr o66, vi 1, vr b194, vr b219, vr b236] [(.ref b52), (.ref b52)])) X244 hx rfl rfl rfl (pc0 := 279) (pc' := 282) (same := true) rfl (dk at_279) rfl (decide_eq_true rfl) (by decide) (by decide) (aI X244 hx (dk at_282) rfl rfl k))) ?_
      refine goV X244 hx hZ hown (W 117 rfl) (m16 hw) p236_0 0 22 85 (rm_g_productType hw b236 o66 T236.heap n0 Z237 p236_7) N244 hh244 pd_11 hml (dk at_284) ?_
      rintro _ T245 L245 X245 N245 ⟨rfl, hh245⟩
      refine gz X245 294 #[vi p1, vi p2, .val (.long q3), .second, .val (.long q4), .second, .val (.long q5), .second, .val (.long q6), .second, vr b10, vr b18, vr b24, vr b31, vr b38, vr b45, vr b52, vr b59, vr o66, vi 1, vr b194, vr b219, vr b236] [(.ref b236)] (fun _ k => aI X245 hx (dk at_287) rfl rfl (Jvm.RoadKit.acmp (g := (mkF m 289 #[vi p1, vi p2, .val (.long q3), .second, .val (.long q4), .second, .val (.long q5), .second, .val (.long q6), .second, vr b10, vr b18, vr b24, vr b31, vr b38, vr b45, vr b52, vr b59, vr o66, vi 1, vr b194, vr b219, vr b236] [(.ref o66), (.ref o66)])) X245 hx rfl rfl rfl (pc0 := 289) (pc' := 292) (same := true) rfl (dk at_289) rfl (decide_eq_true rfl) (by decide) (by decide) (aI X245 hx (dk at_292) rfl rfl k))) ?_
      refine goV X245 hx hZ hown (W 122 rfl) (m17 hw) p236_0 0 22 85 (rm_g_purchaseTime hw b236 q3 T236.heap n0 Z237 p236_8) N245 hh245 pd_12 hml (dk at_294) ?_
      rintro _ T246 L246 X246 N246 ⟨rfl, hh246⟩
      refine gz X246 304 #[vi p1, vi p2, .val (.long q3), .second, .val (.long q4), .second, .val (.long q5), .second, .val (.long q6), .second, vr b10, vr b18, vr b24, vr b31, vr b38, vr b45, vr b52, vr b59, vr o66, vi 1, vr b194, vr b219, vr b236] [(.ref b236)] (fun _ k => XS.lloadN X246.here hx rfl (dk at_297) rfl (XS.lcmp X246.here hx rfl (dk at_298) rfl (fN X246 hx (dk at_299) rfl ((if0 _ _).trans (teq ((lw_eq _ _).mpr (rfl : q3 = q3))).2) (aI X246 hx (dk at_302) rfl rfl k)))) ?_
      refine goV X246 hx hZ hown (W 127 rfl) (m18 hw) p236_0 0 22 85 (rm_g_price hw b236 q4 T236.heap n0 Z237 p236_9) N246 hh246 pd_12 hml (dk at_304) ?_
      rintro _ T247 L247 X247 N247 ⟨rfl, hh247⟩
      refine gz X247 315 #[vi p1, vi p2, .val (.long q3), .second, .val (.long q4), .second, .val (.long q5), .second, .val (.long q6), .second, vr b10, vr b18, vr b24, vr b31, vr b38, vr b45, vr b52, vr b59, vr o66, vi 1, vr b194, vr b219, vr b236] [(.ref b236)] (fun _ k => XS.lload X247.here hx rfl (dk at_307) rfl (XS.lcmp X247.here hx rfl (dk at_309) rfl (fN X247 hx (dk at_310) rfl ((if0 _ _).trans (teq ((lw_eq _ _).mpr (rfl : q4 = q4))).2) (aI X247 hx (dk at_313) rfl rfl k)))) ?_
      refine goV X247 hx hZ hown (W 132 rfl) (m19 hw) p236_0 0 22 85 (rm_g_currency hw b236 b59 T236.heap n0 Z237 p236_10) N247 hh247 pd_10 hml (dk at_315) ?_
      rintro _ T248 L248 X248 N248 ⟨rfl, hh248⟩
      refine gz X248 325 #[vi p1, vi p2, .val (.long q3), .second, .val (.long q4), .second, .val (.long q5), .second, .val (.long q6), .second, vr b10, vr b18, vr b24, vr b31, vr b38, vr b45, vr b52, vr b59, vr o66, vi 1, vr b194, vr b219, vr b236] [(.ref b236)] (fun _ k => aI X248 hx (dk at_318) rfl rfl (Jvm.RoadKit.acmp (g := (mkF m 320 #[vi p1, vi p2, .val (.long q3), .second, .val (.long q4), .second, .val (.long q5), .second, .val (.long q6), .second, vr b10, vr b18, vr b24, vr b31, vr b38, vr b45, vr b52, vr b59, vr o66, vi 1, vr b194, vr b219, vr b236] [(.ref b59), (.ref b59)])) X248 hx rfl rfl rfl (pc0 := 320) (pc' := 323) (same := true) rfl (dk at_320) rfl (decide_eq_true rfl) (by decide) (by decide) (aI X248 hx (dk at_323) rfl rfl k))) ?_
      refine goV X248 hx hZ hown (W 137 rfl) (m20 hw) p236_0 0 22 85 (rm_g_sequence hw b236 q5 T236.heap n0 Z237 p236_12) N248 hh248 pd_12 hml (dk at_325) ?_
      rintro _ T249 L249 X249 N249 ⟨rfl, hh249⟩
      refine gz X249 336 #[vi p1, vi p2, .val (.long q3), .second, .val (.long q4), .second, .val (.long q5), .second, .val (.long q6), .second, vr b10, vr b18, vr b24, vr b31, vr b38, vr b45, vr b52, vr b59, vr o66, vi 1, vr b194, vr b219, vr b236] [(.ref b236)] (fun _ k => XS.lload X249.here hx rfl (dk at_328) rfl (XS.lcmp X249.here hx rfl (dk at_330) rfl (fN X249 hx (dk at_331) rfl ((if0 _ _).trans (teq ((lw_eq _ _).mpr (rfl : q5 = q5))).2) (aI X249 hx (dk at_334) rfl rfl k)))) ?_
      refine goV X249 hx hZ hown (W 142 rfl) (m21 hw) p236_0 0 22 85 (rm_g_paidPeriod_0 hw b236 b194 T236.heap n0 Z237 p236_13) N249 hh249 pd_13 hml (dk at_336) ?_
      rintro _ T250 L250 X250 N250 ⟨rfl, hh250⟩
      refine gz X250 346 #[vi p1, vi p2, .val (.long q3), .second, .val (.long q4), .second, .val (.long q5), .second, .val (.long q6), .second, vr b10, vr b18, vr b24, vr b31, vr b38, vr b45, vr b52, vr b59, vr o66, vi 1, vr b194, vr b219, vr b236] [(.ref b219)] (fun _ k => aI X250 hx (dk at_339) rfl rfl (Jvm.RoadKit.acmp (g := (mkF m 341 #[vi p1, vi p2, .val (.long q3), .second, .val (.long q4), .second, .val (.long q5), .second, .val (.long q6), .second, vr b10, vr b18, vr b24, vr b31, vr b38, vr b45, vr b52, vr b59, vr o66, vi 1, vr b194, vr b219, vr b236] [(.ref b194), (.ref b194)])) X250 hx rfl rfl rfl (pc0 := 341) (pc' := 344) (same := true) rfl (dk at_341) rfl (decide_eq_true rfl) (by decide) (by decide) (aI X250 hx (dk at_344) rfl rfl k))) ?_
      refine goV X250 hx hZ hown (W 82 rfl) (m9 hw) (p234_0.keep K236) 0 22 85 (rm_g_deliveryConfirmed_1 hw b219 T236.heap n0 Z237 (p234_11.keep K236 nin0)) N250 hh250 pd_9 hml (dk at_346) ?_
      rintro _ T251 L251 X251 N251 ⟨rfl, hh251⟩
      refine gz X251 359 #[vi p1, vi p2, .val (.long q3), .second, .val (.long q4), .second, .val (.long q5), .second, .val (.long q6), .second, vr b10, vr b18, vr b24, vr b31, vr b38, vr b45, vr b52, vr b59, vr o66, vi 1, vr b194, vr b219, vr b236] [(.int 1)] (fun _ k => lI X251 hx (dk at_349) rfl (cN X251 hx (dk at_351) rfl (teq (by decide)).2 (kC X251 hx (dk at_354) (gT X251 hx 355 359 rfl (dk at_355) k)))) ?_
      refine Go.retJ X251 hx hlk (t := .boolean) hret (dk at_359) ?_
      exact ⟨rfl, N251⟩
theorem comes_1 {Post : Tables → Env → Array Value → State → Outcome → State → Prop} (hpost : ∀ tb e args s v u, (limb_1_1.after args s (.returned v) u = true ∧ limb_1_2.after args s (.returned v) u = true ∧ True) → FrameEnd s (.returned v) u (Jvm.fieldLocs frame_1_writes args s ++ Jvm.arrayLocs frame_1_arrays args s ++ Jvm.staticLocs frame_1_statics s) 56 256 → Post tb e args s (.returned v) u) :
    ArmFor flags0 classFile x code maxLocals ret World_1 tables_1 room_1 Calls_1 rest_1 Pre_1 Post := by
  intro l hfl _ _ p e ha hc hk s m args below hf hA hF happ hP
  obtain ⟨hcalls, hrest, hpre⟩ := hP
  obtain ⟨-, -, -, hnamed, -, -, -, hat⟩ := (Spec.applies_iff hf).mp happ
  obtain ⟨hg, hn⟩ := and_e (Cond.before_iff.mp (show (Jvm.Cond.and given_1 narrow_1).before args s = true from hpre))
  obtain ⟨hg0, hgr0⟩ := and_e hg
  obtain ⟨ga0, hgr1⟩ := and_e hgr0
  obtain ⟨ga1, hgr2⟩ := and_e hgr1
  obtain ⟨ga2, hgr3⟩ := and_e hgr2
  obtain ⟨ga3, hgr4⟩ := and_e hgr3
  obtain ⟨ga4, hgr5⟩ := and_e hgr4
  obtain ⟨w0, w1, w2, w3, w4, w5, rfl⟩ : ∃ w0 w1 w2 w3 w4 w5 : Value, args = #[w0, w1, w2, w3, w4, w5] := by
    have hs : args.size = 6 := by simpa [Cond.value, given_1] using hg0
    obtain ⟨L⟩ := args
    match L, hs with
    | [w0, w1, w2, w3, w4, w5], _ => exact ⟨w0, w1, w2, w3, w4, w5, rfl⟩
  have hw := fun d (hd : d ∈ tables_1) => atoms_spec (ws := Jvm.Cond.code x code maxLocals ret :: tables_1) hat d (List.mem_cons_of_mem _ hd)
  have hfit : Fit s := fun {y c} hc i hi => by
    obtain ⟨ha, rfl⟩ := Array.getElem?_eq_some_iff.mp hc
    have q := List.all_eq_true.mp ((Array.all_eq_true_iff_forall_mem.mp hF) _ (Array.getElem_mem ha)) i (List.mem_range.mpr hi)
    simpa [Array.getElem?_eq_getElem hi] using q
  obtain ⟨hsets, hown0⟩ := atoms_of _ (rest_1_c_eq ▸ (show rest_1_c.before _ s = true from hrest))
  have hr0 := Cond.before_iff.mp hown0
  obtain ⟨i0, ei0⟩ := is_v ga0
  obtain rfl : w0 = (.int i0) := Option.some.inj ei0
  obtain ⟨i1, ei1⟩ := is_v ga1
  obtain rfl : w1 = (.int i1) := Option.some.inj ei1
  obtain ⟨i2, ei2⟩ := isL_v ga2
  obtain rfl : w2 = (.long i2) := Option.some.inj ei2
  obtain ⟨i3, ei3⟩ := isL_v ga3
  obtain rfl : w3 = (.long i3) := Option.some.inj ei3
  obtain ⟨i4, ei4⟩ := isL_v ga4
  obtain rfl : w4 = (.long i4) := Option.some.inj ei4
  obtain ⟨i5, ei5⟩ := isL_v hgr5
  obtain rfl : w5 = (.long i5) := Option.some.inj ei5
  obtain ⟨hn252, hn253⟩ := and_e hn
  obtain ⟨hn254, hn255⟩ := and_e hn253
  obtain ⟨hn256, hn257⟩ := and_e hn255
  obtain ⟨w_NON_RENEWING_SUBSCRIPTION, ev_w_NON_RENEWING_SUBSCRIPTION⟩ := exa_v hn252
  have S_w_NON_RENEWING_SUBSCRIPTION : Sta s s.heap "com/example/aurel/aurel/catalog/ProductType" "NON_RENEWING_SUBSCRIPTION" "Lcom/example/aurel/aurel/catalog/ProductType;" (.ref w_NON_RENEWING_SUBSCRIPTION) := Sta.start ev_w_NON_RENEWING_SUBSCRIPTION (Or.inr ⟨(wd hw 35 rfl), (wd hw 36 rfl)⟩)
  have E_w_NON_RENEWING_SUBSCRIPTION := Exa.start ev_w_NON_RENEWING_SUBSCRIPTION hn252
  obtain ⟨w_NON_CONSUMABLE, ev_w_NON_CONSUMABLE⟩ := exa_v hn254
  have S_w_NON_CONSUMABLE : Sta s s.heap "com/example/aurel/aurel/catalog/ProductType" "NON_CONSUMABLE" "Lcom/example/aurel/aurel/catalog/ProductType;" (.ref w_NON_CONSUMABLE) := Sta.start ev_w_NON_CONSUMABLE (Or.inr ⟨(wd hw 35 rfl), (wd hw 148 rfl)⟩)
  have E_w_NON_CONSUMABLE := Exa.start ev_w_NON_CONSUMABLE hn254
  obtain ⟨w_AUTO_RENEWING_SUBSCRIPTION, ev_w_AUTO_RENEWING_SUBSCRIPTION⟩ := exa_v hn256
  have S_w_AUTO_RENEWING_SUBSCRIPTION : Sta s s.heap "com/example/aurel/aurel/catalog/ProductType" "AUTO_RENEWING_SUBSCRIPTION" "Lcom/example/aurel/aurel/catalog/ProductType;" (.ref w_AUTO_RENEWING_SUBSCRIPTION) := Sta.start ev_w_AUTO_RENEWING_SUBSCRIPTION (Or.inr ⟨(wd hw 35 rfl), (wd hw 163 rfl)⟩)
  have E_w_AUTO_RENEWING_SUBSCRIPTION := Exa.start ev_w_AUTO_RENEWING_SUBSCRIPTION hn256
  obtain ⟨w_CONSUMABLE, ev_w_CONSUMABLE⟩ := exa_v hn257
  have S_w_CONSUMABLE : Sta s s.heap "com/example/aurel/aurel/catalog/ProductType" "CONSUMABLE" "Lcom/example/aurel/aurel/catalog/ProductType;" (.ref w_CONSUMABLE) := Sta.start ev_w_CONSUMABLE (Or.inr ⟨(wd hw 35 rfl), (wd hw 165 rfl)⟩)
  have E_w_CONSUMABLE := Exa.start ev_w_CONSUMABLE hn257
  have ncs := not_v (Cond.before_iff.mp (hsets _ (List.mem_of_getElem? (i := 2) rfl)))
  obtain ⟨cs, ecs⟩ := is_v (Cond.before_iff.mp (hsets _ (List.mem_of_getElem? (i := 1) rfl)))
  have Scs : Sta s s.heap "java/lang/String" "COMPACT_STRINGS" "Z" (.int cs) := Sta.start ecs (Or.inl (hsets _ (List.mem_of_getElem? (i := 0) rfl)))
  have hcs : ¬ (cs = (0 : Int32)) := gotF (Cond.eq_ints ecs (Term.int_eval (0))) ncs
  obtain ⟨n, o, h1, h2, h3, _, L, rfl, ⟨rfl, N⟩, hq⟩ := rm0 l s _ hw tables_1 i0 i1 i2 i3 i4 i5 cs w_CONSUMABLE w_NON_CONSUMABLE w_AUTO_RENEWING_SUBSCRIPTION w_NON_RENEWING_SUBSCRIPTION s.heap s.heap.size (Nat.le_refl _) (Old.start s) Scs hcs S_w_CONSUMABLE S_w_NON_CONSUMABLE S_w_AUTO_RENEWING_SUBSCRIPTION S_w_NON_RENEWING_SUBSCRIPTION p e ha hc hk s m _ below hf ((Spec.applies_iff_loose hf).mp happ).1 ⟨rfl, State.Warmed39.refl s, rfl⟩ trivial
  refine ⟨n, _, h1, h2, h3, hpost _ _ _ _ _ _ ⟨Cond.after_iff.mpr rfl, Cond.after_iff.mpr (eq_i res_at (Term.int_eval (1)) rfl), trivial⟩ ⟨hq.1, hq.2.1, (hq.2.2.sift fun y hy => Or.inr (N y hy)).mono (by decide) (by decide)⟩⟩
theorem main_1_1 : Claimed_1_1 := comes_1 fun _ _ _ _ _ _ h hF => ⟨h.1, hF⟩
theorem main_1_2 : Claimed_1_2 := comes_1 fun _ _ _ _ _ _ h hF => ⟨h.2.1, hF⟩
end Jvm.Pilot.@@N@@
namespace Jvm.Pilot.@@N@@
open Jvm Jvm.ClassFile Sem Op Lib Jvm.Free Jvm.Stand Jvm.Pilot.@@N@@.Jvm.D
/-! MADE BY PROGRAM (witnessworld.py) out of the Statement's table words and the real class files: 24 classes; the members and pool entries that the words name. The judged class is class 1, her method 2. -/
namespace start1
open Jvm.ClassFile
def u (s : String) : CpInfo := .utf8 (stringToUtf16 s)
/-- a pool by its gaps: so many unusable entries, then the entry; so many at the end -/
def gap : Nat → List CpInfo → List CpInfo
  | 0, r => r
  | n + 1, r => .unusable :: gap n r
def poolList (es : List (Nat × CpInfo)) (last : Nat) : List CpInfo := es.foldr (fun e r => gap e.1 (e.2 :: r)) (gap last [])
def pool (es : List (Nat × CpInfo)) (last : Nat) : Array CpInfo := ⟨poolList es last⟩
def fileOf (pool : Array CpInfo) (this : Nat) (attrs : Array Attribute := #[]) (ms : Array MethodInfo := #[]) (fl : Nat := 33) (sup : Nat := 0) (ifs : Array Nat := #[]) (fds : Array FieldInfo := #[]) : ClassFile where
  minorVersion := 0
  majorVersion := 65
  constantPool := pool
  accessFlags := fl
  thisClass := this
  superClass := sup
  interfaces := ifs
  fields := fds
  methods := ms
  attributes := attrs
def plain (name : String) (sup : Option ClassId) : Class where
  name := name
  kind := .ordinary
  loader := none
  accessFlags := 33
  super := sup
  interfaces := #[]
  cf := none
  fields := #[]
  methods := #[]
  instanceTypes := #[]
  staticTypes := #[]
  resolved := #[]
  callSites := []
  init := .initialized
  statics := none
  mirror := none

def pool0 : Array CpInfo := pool [(5, u "<init>"), (0, u "()V"), (1, .class_ 10), (1, u "java/lang/Object")] 113

def k0c0 : Code := { maxStack := 0, maxLocals := 1, code := object_method_1_code, exceptionTable := #[], attributes := #[] }
def k0m0 : Method := { name := "<init>", desc := "()V", sig := { parameters := [], returnType := none }, accessFlags := 1, code := some k0c0 }
/-- java/lang/Object -/
def k0 : Class := { plain "java/lang/Object" none with
  accessFlags := 33
  interfaces := #[]
  cf := some (fileOf pool0 8 #[] #[{ accessFlags := 1, nameIndex := 5, descriptorIndex := 6, attributes := #[] }] 33 0 #[] #[])
  fields := #[]
  methods := #[k0m0]
  instanceTypes := #[]
  staticTypes := #[]
  resolved := Array.replicate 124 none
  statics := none }

def pool1 : Array CpInfo := pool [(2, .class_ 4), (1, u "java/lang/Object"), (0, u "<init>"), (0, u "()V"), (0, .fieldref 8 9), (0, .class_ 10), (0, .nameAndType 11 12), (0, u "com/example/aurel/aurel/catalog/ProductType"), (0, u "CONSUMABLE"), (0, u "Lcom/example/aurel/aurel/catalog/ProductType;"), (0, .fieldref 8 14), (0, .nameAndType 15 12), (0, u "NON_CONSUMABLE"), (0, .fieldref 8 17), (0, .nameAndType 18 12), (0, u "AUTO_RENEWING_SUBSCRIPTION"), (0, .fieldref 8 20), (0, .nameAndType 21 12), (0, u "NON_RENEWING_SUBSCRIPTION"), (0, .class_ 23), (0, u "java/lang/String"), (0, .methodref 22 25), (0, .nameAndType 5 26), (0, u "([C)V"), (0, .methodref 28 29), (0, .class_ 30), (0, .nameAndType 31 32), (0, u "com/example/aurel/aurel/orders/OrderWithDeliveryConfirmedPinLaw"), (0, u "type"), (0, u "(I)Lcom/example/aurel/aurel/catalog/ProductType;"), (0, .class_ 34), (0, u "com/example/aurel/aurel/orders/PaidPeriod"), (0, .methodref 33 36), (0, .nameAndType 5 37), (0, u "(Ljava/lang/String;Ljava/lang/String;J)V"), (0, .class_ 39), (0, u "com/example/aurel/aurel/orders/Order"), (0, .methodref 38 41), (0, .nameAndType 5 42), (0, u "(Ljava/lang/String;Ljava/lang/String;Ljava/lang/String;Ljava/lang/String;Ljava/lang/String;Ljava/lang/String;Lcom/example/aurel/aurel/catalog/ProductType;JJLjava/lang/String;ZJLcom/example/aurel/aurel/orders/PaidPeriod;)V"), (0, .methodref 38 44), (0, .nameAndType 45 46), (0, u "withDeliveryConfirmed"), (0, u "()Lcom/example/aurel/aurel/orders/Order;"), (0, .methodref 38 48), (0, .nameAndType 49 50), (0, u "deliveryConfirmed"), (0, u "()Z"), (0, .methodref 38 52), (0, .nameAndType 53 54), (0, u "purchaseOrderId"), (0, u "()Ljava/lang/String;"), (0, .methodref 38 56), (0, .nameAndType 57 54), (0, u "purchaseToken"), (0, .methodref 38 59), (0, .nameAndType 60 54), (0, u "userId"), (0, .methodref 38 62), (0, .nameAndType 63 54), (0, u "applicationId"), (0, .methodref 38 65), (0, .nameAndType 66 54), (0, u "packageName"), (0, .methodref 38 68), (0, .nameAndType 69 54), (0, u "productId"), (0, .methodref 38 71), (0, .nameAndType 72 73), (0, u "productType"), (0, u "()Lcom/example/aurel/aurel/catalog/ProductType;"), (0, .methodref 38 75), (0, .nameAndType 76 77), (0, u "purchaseTime"), (0, u "()J"), (0, .methodref 38 79), (0, .nameAndType 80 77), (0, u "price"), (0, .methodref 38 82), (0, .nameAndType 83 54), (0, u "currency"), (0, .methodref 38 85), (0, .nameAndType 86 77), (0, u "sequence"), (0, .methodref 38 88), (0, .nameAndType 89 90), (0, u "paidPeriod"), (0, u "()Lcom/example/aurel/aurel/orders/PaidPeriod;"), (3, u "law"), (0, u "(IIJJJJ)Z")] 4

def k1m0 : Method := { name := "<init>", desc := "()V", sig := { parameters := [], returnType := none }, accessFlags := 1, code := none }
def k1c1 : Code := { maxStack := 2, maxLocals := 1, code := method_2_code, exceptionTable := #[], attributes := #[] }
def k1m1 : Method := { name := "type", desc := "(I)Lcom/example/aurel/aurel/catalog/ProductType;", sig := { parameters := [.int], returnType := some (.object "com/example/aurel/aurel/catalog/ProductType") }, accessFlags := 10, code := some k1c1 }
def k1c2 : Code := { maxStack := 18, maxLocals := 23, code := code, exceptionTable := #[], attributes := #[] }
def k1m2 : Method := { name := "law", desc := "(IIJJJJ)Z", sig := { parameters := [.int, .int, .long, .long, .long, .long], returnType := some .boolean }, accessFlags := 9, code := some k1c2 }
/-- com/example/aurel/aurel/orders/OrderWithDeliveryConfirmedPinLaw -/
def k1 : Class := { plain "com/example/aurel/aurel/orders/OrderWithDeliveryConfirmedPinLaw" (some 0) with
  accessFlags := 49
  interfaces := #[]
  cf := some (fileOf pool1 28 #[] #[{ accessFlags := 1, nameIndex := 5, descriptorIndex := 6, attributes := #[] }, { accessFlags := 10, nameIndex := 31, descriptorIndex := 32, attributes := #[] }, { accessFlags := 9, nameIndex := 94, descriptorIndex := 95, attributes := #[] }] 49 2 #[] #[])
  fields := #[]
  methods := #[k1m0, k1m1, k1m2]
  instanceTypes := #[]
  staticTypes := #[]
  resolved := Array.replicate 100 none
  statics := none }

def pool2 : Array CpInfo := pool [(1, .class_ 2), (0, u "java/io/Serializable"), (0, .class_ 4), (0, u "java/lang/Object")] 2

/-- java/io/Serializable -/
def k2 : Class := { plain "java/io/Serializable" (some 0) with
  accessFlags := 1537
  interfaces := #[]
  cf := some (fileOf pool2 1 #[] #[] 1537 3 #[] #[])
  fields := #[]
  methods := #[]
  instanceTypes := #[]
  staticTypes := #[]
  resolved := Array.replicate 7 none
  statics := none }

def pool3 : Array CpInfo := pool [(1, .class_ 2), (0, u "java/lang/Comparable"), (0, .class_ 4), (0, u "java/lang/Object")] 7

/-- java/lang/Comparable -/
def k3 : Class := { plain "java/lang/Comparable" (some 0) with
  accessFlags := 1537
  interfaces := #[]
  cf := some (fileOf pool3 1 #[] #[] 1537 3 #[] #[])
  fields := #[]
  methods := #[]
  instanceTypes := #[]
  staticTypes := #[]
  resolved := Array.replicate 12 none
  statics := none }

def pool4 : Array CpInfo := pool [(2, .class_ 4), (1, u "java/lang/CharSequence"), (42, .class_ 48), (0, u "java/lang/CharSequence$1CodePointIterator"), (10, .class_ 60), (0, u "java/lang/CharSequence$1CharIterator"), (5, .class_ 67), (0, u "java/lang/Object")] 63

/-- java/lang/CharSequence -/
def k4 : Class := { plain "java/lang/CharSequence" (some 0) with
  accessFlags := 1537
  interfaces := #[]
  cf := some (fileOf pool4 2 #[.nestMembers #[47, 59]] #[] 1537 66 #[] #[])
  fields := #[]
  methods := #[]
  instanceTypes := #[]
  staticTypes := #[]
  resolved := Array.replicate 131 none
  statics := none }

def pool5 : Array CpInfo := pool [(1, .class_ 2), (0, u "java/lang/constant/Constable"), (0, .class_ 4), (0, u "java/lang/Object")] 6

/-- java/lang/constant/Constable -/
def k5 : Class := { plain "java/lang/constant/Constable" (some 0) with
  accessFlags := 1537
  interfaces := #[]
  cf := some (fileOf pool5 1 #[] #[] 1537 3 #[] #[])
  fields := #[]
  methods := #[]
  instanceTypes := #[]
  staticTypes := #[]
  resolved := Array.replicate 11 none
  statics := none }

def pool6 : Array CpInfo := pool [(1, .class_ 2), (0, u "java/lang/constant/ConstantDesc"), (0, .class_ 4), (0, u "java/lang/Object")] 32

/-- java/lang/constant/ConstantDesc -/
def k6 : Class := { plain "java/lang/constant/ConstantDesc" (some 0) with
  accessFlags := 1537
  interfaces := #[]
  cf := some (fileOf pool6 1 #[] #[] 1537 3 #[] #[])
  fields := #[]
  methods := #[]
  instanceTypes := #[]
  staticTypes := #[]
  resolved := Array.replicate 37 none
  statics := none }

def pool7 : Array CpInfo := pool [(1, .methodref 2 3), (0, .class_ 4), (0, .nameAndType 5 6), (0, u "java/lang/Object"), (0, u "<init>"), (0, u "()V"), (2, .fieldref 10 11), (0, .class_ 12), (0, .nameAndType 13 14), (0, u "java/lang/String"), (0, u "value"), (0, u "[B"), (0, .fieldref 10 16), (0, .nameAndType 17 18), (0, u "coder"), (0, u "B"), (2, u "hash"), (0, u "I"), (2, u "hashIsZero"), (0, u "Z"), (0, .methodref 10 28), (0, .nameAndType 5 29), (0, u "([CIILjava/lang/Void;)V"), (8, .fieldref 10 39), (0, .nameAndType 40 26), (0, u "COMPACT_STRINGS"), (1, .class_ 44), (1, u "java/lang/StringUTF16"), (0, u "compress"), (1, .methodref 42 48), (0, .nameAndType 49 50), (0, u "coderFromArrayLen"), (0, u "([BI)B"), (126, .methodref 42 178), (0, .nameAndType 45 179), (0, u "([CII)[B"), (395, .class_ 576), (0, u "java/lang/CharSequence"), (22, u "CASE_INSENSITIVE_ORDER"), (0, u "Ljava/util/Comparator;"), (409, u "([C)V"), (90, u "serialPersistentFields"), (0, u "[Ljava/io/ObjectStreamField;"), (0, .class_ 1104), (0, u "java/lang/String$CaseInsensitiveComparator"), (1, .class_ 1107), (0, u "java/io/Serializable"), (0, .class_ 1109), (0, u "java/lang/Comparable"), (0, .class_ 1111), (0, u "java/lang/constant/Constable"), (0, .class_ 1113), (0, u "java/lang/constant/ConstantDesc"), (2, u "serialVersionUID"), (0, u "J"), (3, u "REPL"), (0, u "C"), (2, u "LATIN1"), (1, u "UTF16")] 323

def k7m0 : Method := { name := "<init>", desc := "()V", sig := { parameters := [], returnType := none }, accessFlags := 1, code := none }
def k7c1 : Code := { maxStack := 5, maxLocals := 2, code := jdk_42_method_3_code, exceptionTable := #[], attributes := #[] }
def k7m1 : Method := { name := "<init>", desc := "([C)V", sig := { parameters := [(.array .char)], returnType := none }, accessFlags := 1, code := some k7c1 }
def k7c2 : Code := { maxStack := 4, maxLocals := 6, code := jdk_42_method_149_code, exceptionTable := #[], attributes := #[] }
def k7m2 : Method := { name := "<init>", desc := "([CIILjava/lang/Void;)V", sig := { parameters := [(.array .char), .int, .int, (.object "java/lang/Void")], returnType := none }, accessFlags := 2, code := some k7c2 }
/-- java/lang/String -/
def k7 : Class := { plain "java/lang/String" (some 0) with
  accessFlags := 49
  interfaces := #[2, 3, 4, 5, 6]
  cf := some (fileOf pool7 10 #[.nestMembers #[1103]] #[{ accessFlags := 1, nameIndex := 5, descriptorIndex := 6, attributes := #[] }, { accessFlags := 1, nameIndex := 5, descriptorIndex := 1010, attributes := #[] }, { accessFlags := 2, nameIndex := 5, descriptorIndex := 29, attributes := #[] }] 49 2 #[1106, 1108, 575, 1110, 1112] #[{ accessFlags := 18, nameIndex := 13, descriptorIndex := 14, attributes := #[] }, { accessFlags := 18, nameIndex := 17, descriptorIndex := 18, attributes := #[] }, { accessFlags := 2, nameIndex := 21, descriptorIndex := 22, attributes := #[] }, { accessFlags := 2, nameIndex := 25, descriptorIndex := 26, attributes := #[] }, { accessFlags := 26, nameIndex := 1116, descriptorIndex := 1117, attributes := #[] }, { accessFlags := 24, nameIndex := 40, descriptorIndex := 26, attributes := #[] }, { accessFlags := 26, nameIndex := 1101, descriptorIndex := 1102, attributes := #[] }, { accessFlags := 26, nameIndex := 1121, descriptorIndex := 1122, attributes := #[] }, { accessFlags := 25, nameIndex := 599, descriptorIndex := 600, attributes := #[] }, { accessFlags := 24, nameIndex := 1125, descriptorIndex := 18, attributes := #[] }, { accessFlags := 24, nameIndex := 1127, descriptorIndex := 18, attributes := #[] }])
  fields := #[{ name := "value", type := (.array .byte), accessFlags := 18, slot := 0, constantValue := 0 }, { name := "coder", type := .byte, accessFlags := 18, slot := 1, constantValue := 0 }, { name := "hash", type := .int, accessFlags := 2, slot := 2, constantValue := 0 }, { name := "hashIsZero", type := .boolean, accessFlags := 2, slot := 3, constantValue := 0 }, { name := "serialVersionUID", type := .long, accessFlags := 26, slot := 0, constantValue := 0 }, { name := "COMPACT_STRINGS", type := .boolean, accessFlags := 24, slot := 1, constantValue := 0 }, { name := "serialPersistentFields", type := (.array (.object "java/io/ObjectStreamField")), accessFlags := 26, slot := 2, constantValue := 0 }, { name := "REPL", type := .char, accessFlags := 26, slot := 3, constantValue := 0 }, { name := "CASE_INSENSITIVE_ORDER", type := (.object "java/util/Comparator"), accessFlags := 25, slot := 4, constantValue := 0 }, { name := "LATIN1", type := .byte, accessFlags := 24, slot := 5, constantValue := 0 }, { name := "UTF16", type := .byte, accessFlags := 24, slot := 6, constantValue := 0 }]
  methods := #[k7m0, k7m1, k7m2]
  instanceTypes := #[(.array .byte), .byte, .int, .boolean]
  staticTypes := #[.long, .boolean, (.array (.object "java/io/ObjectStreamField")), .char, (.object "java/util/Comparator"), .byte, .byte]
  resolved := Array.replicate 1451 none
  statics := some 0 }

def pool8 : Array CpInfo := pool [(6, .class_ 8), (1, u "java/lang/Object"), (0, u "<init>"), (0, u "()V"), (1, .class_ 14), (1, u "java/lang/StringUTF16"), (31, u "$assertionsDisabled"), (0, u "Z"), (13, u "HI_BYTE_SHIFT"), (0, u "I"), (2, u "LO_BYTE_SHIFT"), (49, .methodref 12 116), (0, .nameAndType 117 118), (0, u "compress"), (0, u "([CI[BII)I"), (3, u "([CII)[B"), (138, u "coderFromArrayLen"), (0, u "([BI)B"), (106, .class_ 371), (1, u "java/lang/StringUTF16$LinesSpliterator"), (58, u "MAX_LENGTH"), (196, .class_ 628), (0, u "java/lang/StringUTF16$CodePointsSpliterator"), (0, .class_ 630), (0, u "java/lang/StringUTF16$CharsSpliterator")] 4

def k8m0 : Method := { name := "<init>", desc := "()V", sig := { parameters := [], returnType := none }, accessFlags := 0, code := none }
def k8c1 : Code := { maxStack := 2, maxLocals := 2, code := jdk_52_method_15_code, exceptionTable := #[], attributes := #[] }
def k8m1 : Method := { name := "coderFromArrayLen", desc := "([BI)B", sig := { parameters := [(.array .byte), .int], returnType := some .byte }, accessFlags := 8, code := some k8c1 }
def k8c2 : Code := { maxStack := 5, maxLocals := 6, code := jdk_52_method_16_code, exceptionTable := #[], attributes := #[] }
def k8m2 : Method := { name := "compress", desc := "([CII)[B", sig := { parameters := [(.array .char), .int, .int], returnType := some (.array .byte) }, accessFlags := 9, code := some k8c2 }
def k8c3 : Code := { maxStack := 3, maxLocals := 7, code := jdk_52_method_21_code, exceptionTable := #[], attributes := #[] }
def k8m3 : Method := { name := "compress", desc := "([CI[BII)I", sig := { parameters := [(.array .char), .int, (.array .byte), .int, .int], returnType := some .int }, accessFlags := 9, code := some k8c3 }
/-- java/lang/StringUTF16 -/
def k8 : Class := { plain "java/lang/StringUTF16" (some 0) with
  accessFlags := 48
  interfaces := #[]
  cf := some (fileOf pool8 12 #[.nestMembers #[627, 629, 369]] #[{ accessFlags := 0, nameIndex := 9, descriptorIndex := 10, attributes := #[] }, { accessFlags := 8, nameIndex := 261, descriptorIndex := 262, attributes := #[] }, { accessFlags := 9, nameIndex := 117, descriptorIndex := 122, attributes := #[] }, { accessFlags := 9, nameIndex := 117, descriptorIndex := 118, attributes := #[] }] 48 6 #[] #[{ accessFlags := 26, nameIndex := 61, descriptorIndex := 62, attributes := #[] }, { accessFlags := 26, nameIndex := 65, descriptorIndex := 62, attributes := #[] }, { accessFlags := 24, nameIndex := 430, descriptorIndex := 62, attributes := #[] }, { accessFlags := 4120, nameIndex := 46, descriptorIndex := 47, attributes := #[] }])
  fields := #[{ name := "HI_BYTE_SHIFT", type := .int, accessFlags := 26, slot := 0, constantValue := 0 }, { name := "LO_BYTE_SHIFT", type := .int, accessFlags := 26, slot := 1, constantValue := 0 }, { name := "MAX_LENGTH", type := .int, accessFlags := 24, slot := 2, constantValue := 0 }, { name := "$assertionsDisabled", type := .boolean, accessFlags := 4120, slot := 3, constantValue := 0 }]
  methods := #[k8m0, k8m1, k8m2, k8m3]
  instanceTypes := #[]
  staticTypes := #[.int, .int, .int, .boolean]
  resolved := Array.replicate 635 none
  statics := none }

def pool9 : Array CpInfo := pool [(2, .class_ 4), (1, u "java/lang/Enum"), (0, u "name"), (0, u "Ljava/lang/String;"), (2, u "ordinal"), (0, u "I"), (1, .class_ 14), (1, u "java/lang/Object"), (4, u "hash"), (86, .class_ 108), (1, u "java/lang/Enum$EnumDesc"), (2, .class_ 112), (0, u "java/lang/constant/Constable"), (0, .class_ 114), (0, u "java/lang/Comparable"), (0, .class_ 116), (0, u "java/io/Serializable")] 87

/-- java/lang/Enum -/
def k9 : Class := { plain "java/lang/Enum" (some 0) with
  accessFlags := 1057
  interfaces := #[5, 3, 2]
  cf := some (fileOf pool9 2 #[.nestMembers #[106]] #[] 1057 12 #[111, 113, 115] #[{ accessFlags := 18, nameIndex := 5, descriptorIndex := 6, attributes := #[] }, { accessFlags := 18, nameIndex := 9, descriptorIndex := 10, attributes := #[] }, { accessFlags := 2, nameIndex := 19, descriptorIndex := 10, attributes := #[] }])
  fields := #[{ name := "name", type := (.object "java/lang/String"), accessFlags := 18, slot := 0, constantValue := 0 }, { name := "ordinal", type := .int, accessFlags := 18, slot := 1, constantValue := 0 }, { name := "hash", type := .int, accessFlags := 2, slot := 2, constantValue := 0 }]
  methods := #[]
  instanceTypes := #[(.object "java/lang/String"), .int, .int]
  staticTypes := #[]
  resolved := Array.replicate 204 none
  statics := none }

def pool10 : Array CpInfo := pool [(1, .class_ 2), (0, u "com/example/aurel/aurel/catalog/ProductType"), (2, u "CONSUMABLE"), (0, u "Lcom/example/aurel/aurel/catalog/ProductType;"), (2, u "NON_CONSUMABLE"), (2, u "AUTO_RENEWING_SUBSCRIPTION"), (2, u "NON_RENEWING_SUBSCRIPTION"), (2, u "$VALUES"), (0, u "[Lcom/example/aurel/aurel/catalog/ProductType;"), (6, .class_ 28), (1, u "java/lang/Enum"), (8, u "code"), (0, u "I"), (2, u "description"), (0, u "Ljava/lang/String;")] 62

/-- com/example/aurel/aurel/catalog/ProductType -/
def k10 : Class := { plain "com/example/aurel/aurel/catalog/ProductType" (some 9) with
  accessFlags := 16433
  interfaces := #[]
  cf := some (fileOf pool10 1 #[] #[] 16433 26 #[] #[{ accessFlags := 16409, nameIndex := 5, descriptorIndex := 6, attributes := #[] }, { accessFlags := 16409, nameIndex := 9, descriptorIndex := 6, attributes := #[] }, { accessFlags := 16409, nameIndex := 12, descriptorIndex := 6, attributes := #[] }, { accessFlags := 16409, nameIndex := 15, descriptorIndex := 6, attributes := #[] }, { accessFlags := 18, nameIndex := 37, descriptorIndex := 38, attributes := #[] }, { accessFlags := 18, nameIndex := 41, descriptorIndex := 42, attributes := #[] }, { accessFlags := 4122, nameIndex := 18, descriptorIndex := 19, attributes := #[] }])
  fields := #[{ name := "CONSUMABLE", type := (.object "com/example/aurel/aurel/catalog/ProductType"), accessFlags := 16409, slot := 0, constantValue := 0 }, { name := "NON_CONSUMABLE", type := (.object "com/example/aurel/aurel/catalog/ProductType"), accessFlags := 16409, slot := 1, constantValue := 0 }, { name := "AUTO_RENEWING_SUBSCRIPTION", type := (.object "com/example/aurel/aurel/catalog/ProductType"), accessFlags := 16409, slot := 2, constantValue := 0 }, { name := "NON_RENEWING_SUBSCRIPTION", type := (.object "com/example/aurel/aurel/catalog/ProductType"), accessFlags := 16409, slot := 3, constantValue := 0 }, { name := "code", type := .int, accessFlags := 18, slot := 3, constantValue := 0 }, { name := "description", type := (.object "java/lang/String"), accessFlags := 18, slot := 4, constantValue := 0 }, { name := "$VALUES", type := (.array (.object "com/example/aurel/aurel/catalog/ProductType")), accessFlags := 4122, slot := 4, constantValue := 0 }]
  methods := #[]
  instanceTypes := #[(.object "java/lang/String"), .int, .int, .int, (.object "java/lang/String")]
  staticTypes := #[(.object "com/example/aurel/aurel/catalog/ProductType"), (.object "com/example/aurel/aurel/catalog/ProductType"), (.object "com/example/aurel/aurel/catalog/ProductType"), (.object "com/example/aurel/aurel/catalog/ProductType"), (.array (.object "com/example/aurel/aurel/catalog/ProductType"))]
  resolved := Array.replicate 105 none
  statics := some 1 }

def pool11 : Array CpInfo := pool [(1, .methodref 2 3), (0, .class_ 4), (0, .nameAndType 5 6), (0, u "java/lang/Object"), (0, u "<init>"), (0, u "()V"), (0, .class_ 8), (0, u "java/lang/Record")] 13

def k11c0 : Code := { maxStack := 1, maxLocals := 1, code := jdk_30_method_1_code, exceptionTable := #[], attributes := #[] }
def k11m0 : Method := { name := "<init>", desc := "()V", sig := { parameters := [], returnType := none }, accessFlags := 4, code := some k11c0 }
/-- java/lang/Record -/
def k11 : Class := { plain "java/lang/Record" (some 0) with
  accessFlags := 1057
  interfaces := #[]
  cf := some (fileOf pool11 7 #[] #[{ accessFlags := 4, nameIndex := 5, descriptorIndex := 6, attributes := #[] }] 1057 2 #[] #[])
  fields := #[]
  methods := #[k11m0]
  instanceTypes := #[]
  staticTypes := #[]
  resolved := Array.replicate 22 none
  statics := none }

def pool12 : Array CpInfo := pool [(1, .methodref 2 3), (0, .class_ 4), (0, .nameAndType 5 6), (0, u "java/lang/Record"), (0, u "<init>"), (0, u "()V"), (0, .fieldref 8 9), (0, .class_ 10), (0, .nameAndType 11 12), (0, u "com/example/aurel/aurel/orders/Order"), (0, u "purchaseOrderId"), (0, u "Ljava/lang/String;"), (0, .fieldref 8 14), (0, .nameAndType 15 12), (0, u "purchaseToken"), (0, .fieldref 8 17), (0, .nameAndType 18 12), (0, u "userId"), (0, .fieldref 8 20), (0, .nameAndType 21 12), (0, u "applicationId"), (0, .fieldref 8 23), (0, .nameAndType 24 12), (0, u "packageName"), (0, .fieldref 8 26), (0, .nameAndType 27 12), (0, u "productId"), (0, .fieldref 8 29), (0, .nameAndType 30 31), (0, u "productType"), (0, u "Lcom/example/aurel/aurel/catalog/ProductType;"), (0, .fieldref 8 33), (0, .nameAndType 34 35), (0, u "purchaseTime"), (0, u "J"), (0, .fieldref 8 37), (0, .nameAndType 38 35), (0, u "price"), (0, .fieldref 8 40), (0, .nameAndType 41 12), (0, u "currency"), (0, .fieldref 8 43), (0, .nameAndType 44 45), (0, u "deliveryConfirmed"), (0, u "Z"), (0, .fieldref 8 47), (0, .nameAndType 48 35), (0, u "sequence"), (0, .fieldref 8 50), (0, .nameAndType 51 52), (0, u "paidPeriod"), (0, u "Lcom/example/aurel/aurel/orders/PaidPeriod;"), (0, .methodref 8 54), (0, .nameAndType 5 55), (0, u "(Ljava/lang/String;Ljava/lang/String;Ljava/lang/String;Ljava/lang/String;Ljava/lang/String;Ljava/lang/String;Lcom/example/aurel/aurel/catalog/ProductType;JJLjava/lang/String;ZJLcom/example/aurel/aurel/orders/PaidPeriod;)V"), (15, u "withDeliveryConfirmed"), (0, u "()Lcom/example/aurel/aurel/orders/Order;"), (0, u "()Ljava/lang/String;"), (2, u "()Lcom/example/aurel/aurel/catalog/ProductType;"), (0, u "()J"), (0, u "()Z"), (0, u "()Lcom/example/aurel/aurel/orders/PaidPeriod;")] 32

def k12c0 : Code := { maxStack := 3, maxLocals := 17, code := prog_25_method_1_code, exceptionTable := #[], attributes := #[] }
def k12m0 : Method := { name := "<init>", desc := "(Ljava/lang/String;Ljava/lang/String;Ljava/lang/String;Ljava/lang/String;Ljava/lang/String;Ljava/lang/String;Lcom/example/aurel/aurel/catalog/ProductType;JJLjava/lang/String;ZJLcom/example/aurel/aurel/orders/PaidPeriod;)V", sig := { parameters := [(.object "java/lang/String"), (.object "java/lang/String"), (.object "java/lang/String"), (.object "java/lang/String"), (.object "java/lang/String"), (.object "java/lang/String"), (.object "com/example/aurel/aurel/catalog/ProductType"), .long, .long, (.object "java/lang/String"), .boolean, .long, (.object "com/example/aurel/aurel/orders/PaidPeriod")], returnType := none }, accessFlags := 1, code := some k12c0 }
def k12c1 : Code := { maxStack := 18, maxLocals := 1, code := prog_25_method_2_code, exceptionTable := #[], attributes := #[] }
def k12m1 : Method := { name := "withDeliveryConfirmed", desc := "()Lcom/example/aurel/aurel/orders/Order;", sig := { parameters := [], returnType := some (.object "com/example/aurel/aurel/orders/Order") }, accessFlags := 1, code := some k12c1 }
def k12c2 : Code := { maxStack := 1, maxLocals := 1, code := prog_25_method_6_code, exceptionTable := #[], attributes := #[] }
def k12m2 : Method := { name := "purchaseOrderId", desc := "()Ljava/lang/String;", sig := { parameters := [], returnType := some (.object "java/lang/String") }, accessFlags := 1, code := some k12c2 }
def k12c3 : Code := { maxStack := 1, maxLocals := 1, code := prog_25_method_7_code, exceptionTable := #[], attributes := #[] }
def k12m3 : Method := { name := "purchaseToken", desc := "()Ljava/lang/String;", sig := { parameters := [], returnType := some (.object "java/lang/String") }, accessFlags := 1, code := some k12c3 }
def k12c4 : Code := { maxStack := 1, maxLocals := 1, code := prog_25_method_8_code, exceptionTable := #[], attributes := #[] }
def k12m4 : Method := { name := "userId", desc := "()Ljava/lang/String;", sig := { parameters := [], returnType := some (.object "java/lang/String") }, accessFlags := 1, code := some k12c4 }
def k12c5 : Code := { maxStack := 1, maxLocals := 1, code := prog_25_method_9_code, exceptionTable := #[], attributes := #[] }
def k12m5 : Method := { name := "applicationId", desc := "()Ljava/lang/String;", sig := { parameters := [], returnType := some (.object "java/lang/String") }, accessFlags := 1, code := some k12c5 }
def k12c6 : Code := { maxStack := 1, maxLocals := 1, code := prog_25_method_10_code, exceptionTable := #[], attributes := #[] }
def k12m6 : Method := { name := "packageName", desc := "()Ljava/lang/String;", sig := { parameters := [], returnType := some (.object "java/lang/String") }, accessFlags := 1, code := some k12c6 }
def k12c7 : Code := { maxStack := 1, maxLocals := 1, code := prog_25_method_11_code, exceptionTable := #[], attributes := #[] }
def k12m7 : Method := { name := "productId", desc := "()Ljava/lang/String;", sig := { parameters := [], returnType := some (.object "java/lang/String") }, accessFlags := 1, code := some k12c7 }
def k12c8 : Code := { maxStack := 1, maxLocals := 1, code := prog_25_method_12_code, exceptionTable := #[], attributes := #[] }
def k12m8 : Method := { name := "productType", desc := "()Lcom/example/aurel/aurel/catalog/ProductType;", sig := { parameters := [], returnType := some (.object "com/example/aurel/aurel/catalog/ProductType") }, accessFlags := 1, code := some k12c8 }
def k12c9 : Code := { maxStack := 2, maxLocals := 1, code := prog_25_method_13_code, exceptionTable := #[], attributes := #[] }
def k12m9 : Method := { name := "purchaseTime", desc := "()J", sig := { parameters := [], returnType := some .long }, accessFlags := 1, code := some k12c9 }
def k12c10 : Code := { maxStack := 2, maxLocals := 1, code := prog_25_method_14_code, exceptionTable := #[], attributes := #[] }
def k12m10 : Method := { name := "price", desc := "()J", sig := { parameters := [], returnType := some .long }, accessFlags := 1, code := some k12c10 }
def k12c11 : Code := { maxStack := 1, maxLocals := 1, code := prog_25_method_15_code, exceptionTable := #[], attributes := #[] }
def k12m11 : Method := { name := "currency", desc := "()Ljava/lang/String;", sig := { parameters := [], returnType := some (.object "java/lang/String") }, accessFlags := 1, code := some k12c11 }
def k12c12 : Code := { maxStack := 1, maxLocals := 1, code := prog_25_method_16_code, exceptionTable := #[], attributes := #[] }
def k12m12 : Method := { name := "deliveryConfirmed", desc := "()Z", sig := { parameters := [], returnType := some .boolean }, accessFlags := 1, code := some k12c12 }
def k12c13 : Code := { maxStack := 2, maxLocals := 1, code := prog_25_method_17_code, exceptionTable := #[], attributes := #[] }
def k12m13 : Method := { name := "sequence", desc := "()J", sig := { parameters := [], returnType := some .long }, accessFlags := 1, code := some k12c13 }
def k12c14 : Code := { maxStack := 1, maxLocals := 1, code := prog_25_method_18_code, exceptionTable := #[], attributes := #[] }
def k12m14 : Method := { name := "paidPeriod", desc := "()Lcom/example/aurel/aurel/orders/PaidPeriod;", sig := { parameters := [], returnType := some (.object "com/example/aurel/aurel/orders/PaidPeriod") }, accessFlags := 1, code := some k12c14 }
/-- com/example/aurel/aurel/orders/Order -/
def k12 : Class := { plain "com/example/aurel/aurel/orders/Order" (some 11) with
  accessFlags := 49
  interfaces := #[]
  cf := some (fileOf pool12 8 #[] #[{ accessFlags := 1, nameIndex := 5, descriptorIndex := 55, attributes := #[] }, { accessFlags := 1, nameIndex := 71, descriptorIndex := 72, attributes := #[] }, { accessFlags := 1, nameIndex := 11, descriptorIndex := 73, attributes := #[] }, { accessFlags := 1, nameIndex := 15, descriptorIndex := 73, attributes := #[] }, { accessFlags := 1, nameIndex := 18, descriptorIndex := 73, attributes := #[] }, { accessFlags := 1, nameIndex := 21, descriptorIndex := 73, attributes := #[] }, { accessFlags := 1, nameIndex := 24, descriptorIndex := 73, attributes := #[] }, { accessFlags := 1, nameIndex := 27, descriptorIndex := 73, attributes := #[] }, { accessFlags := 1, nameIndex := 30, descriptorIndex := 76, attributes := #[] }, { accessFlags := 1, nameIndex := 34, descriptorIndex := 77, attributes := #[] }, { accessFlags := 1, nameIndex := 38, descriptorIndex := 77, attributes := #[] }, { accessFlags := 1, nameIndex := 41, descriptorIndex := 73, attributes := #[] }, { accessFlags := 1, nameIndex := 44, descriptorIndex := 78, attributes := #[] }, { accessFlags := 1, nameIndex := 48, descriptorIndex := 77, attributes := #[] }, { accessFlags := 1, nameIndex := 51, descriptorIndex := 79, attributes := #[] }] 49 2 #[] #[{ accessFlags := 18, nameIndex := 11, descriptorIndex := 12, attributes := #[] }, { accessFlags := 18, nameIndex := 15, descriptorIndex := 12, attributes := #[] }, { accessFlags := 18, nameIndex := 18, descriptorIndex := 12, attributes := #[] }, { accessFlags := 18, nameIndex := 21, descriptorIndex := 12, attributes := #[] }, { accessFlags := 18, nameIndex := 24, descriptorIndex := 12, attributes := #[] }, { accessFlags := 18, nameIndex := 27, descriptorIndex := 12, attributes := #[] }, { accessFlags := 18, nameIndex := 30, descriptorIndex := 31, attributes := #[] }, { accessFlags := 18, nameIndex := 34, descriptorIndex := 35, attributes := #[] }, { accessFlags := 18, nameIndex := 38, descriptorIndex := 35, attributes := #[] }, { accessFlags := 18, nameIndex := 41, descriptorIndex := 12, attributes := #[] }, { accessFlags := 18, nameIndex := 44, descriptorIndex := 45, attributes := #[] }, { accessFlags := 18, nameIndex := 48, descriptorIndex := 35, attributes := #[] }, { accessFlags := 18, nameIndex := 51, descriptorIndex := 52, attributes := #[] }])
  fields := #[{ name := "purchaseOrderId", type := (.object "java/lang/String"), accessFlags := 18, slot := 0, constantValue := 0 }, { name := "purchaseToken", type := (.object "java/lang/String"), accessFlags := 18, slot := 1, constantValue := 0 }, { name := "userId", type := (.object "java/lang/String"), accessFlags := 18, slot := 2, constantValue := 0 }, { name := "applicationId", type := (.object "java/lang/String"), accessFlags := 18, slot := 3, constantValue := 0 }, { name := "packageName", type := (.object "java/lang/String"), accessFlags := 18, slot := 4, constantValue := 0 }, { name := "productId", type := (.object "java/lang/String"), accessFlags := 18, slot := 5, constantValue := 0 }, { name := "productType", type := (.object "com/example/aurel/aurel/catalog/ProductType"), accessFlags := 18, slot := 6, constantValue := 0 }, { name := "purchaseTime", type := .long, accessFlags := 18, slot := 7, constantValue := 0 }, { name := "price", type := .long, accessFlags := 18, slot := 8, constantValue := 0 }, { name := "currency", type := (.object "java/lang/String"), accessFlags := 18, slot := 9, constantValue := 0 }, { name := "deliveryConfirmed", type := .boolean, accessFlags := 18, slot := 10, constantValue := 0 }, { name := "sequence", type := .long, accessFlags := 18, slot := 11, constantValue := 0 }, { name := "paidPeriod", type := (.object "com/example/aurel/aurel/orders/PaidPeriod"), accessFlags := 18, slot := 12, constantValue := 0 }]
  methods := #[k12m0, k12m1, k12m2, k12m3, k12m4, k12m5, k12m6, k12m7, k12m8, k12m9, k12m10, k12m11, k12m12, k12m13, k12m14]
  instanceTypes := #[(.object "java/lang/String"), (.object "java/lang/String"), (.object "java/lang/String"), (.object "java/lang/String"), (.object "java/lang/String"), (.object "java/lang/String"), (.object "com/example/aurel/aurel/catalog/ProductType"), .long, .long, (.object "java/lang/String"), .boolean, .long, (.object "com/example/aurel/aurel/orders/PaidPeriod")]
  staticTypes := #[]
  resolved := Array.replicate 112 none
  statics := none }

def pool13 : Array CpInfo := pool [(1, .methodref 2 3), (0, .class_ 4), (0, .nameAndType 5 6), (0, u "java/lang/Record"), (0, u "<init>"), (0, u "()V"), (0, .fieldref 8 9), (0, .class_ 10), (0, .nameAndType 11 12), (0, u "com/example/aurel/aurel/orders/PaidPeriod"), (0, u "subGroupId"), (0, u "Ljava/lang/String;"), (0, .fieldref 8 14), (0, .nameAndType 15 12), (0, u "subscriptionId"), (0, .fieldref 8 17), (0, .nameAndType 18 19), (0, u "expiresTime"), (0, u "J"), (12, u "(Ljava/lang/String;Ljava/lang/String;J)V")] 29

def k13c0 : Code := { maxStack := 3, maxLocals := 5, code := prog_27_method_1_code, exceptionTable := #[], attributes := #[] }
def k13m0 : Method := { name := "<init>", desc := "(Ljava/lang/String;Ljava/lang/String;J)V", sig := { parameters := [(.object "java/lang/String"), (.object "java/lang/String"), .long], returnType := none }, accessFlags := 1, code := some k13c0 }
/-- com/example/aurel/aurel/orders/PaidPeriod -/
def k13 : Class := { plain "com/example/aurel/aurel/orders/PaidPeriod" (some 11) with
  accessFlags := 49
  interfaces := #[]
  cf := some (fileOf pool13 8 #[] #[{ accessFlags := 1, nameIndex := 5, descriptorIndex := 32, attributes := #[] }] 49 2 #[] #[{ accessFlags := 18, nameIndex := 11, descriptorIndex := 12, attributes := #[] }, { accessFlags := 18, nameIndex := 15, descriptorIndex := 12, attributes := #[] }, { accessFlags := 18, nameIndex := 18, descriptorIndex := 19, attributes := #[] }])
  fields := #[{ name := "subGroupId", type := (.object "java/lang/String"), accessFlags := 18, slot := 0, constantValue := 0 }, { name := "subscriptionId", type := (.object "java/lang/String"), accessFlags := 18, slot := 1, constantValue := 0 }, { name := "expiresTime", type := .long, accessFlags := 18, slot := 2, constantValue := 0 }]
  methods := #[k13m0]
  instanceTypes := #[(.object "java/lang/String"), (.object "java/lang/String"), .long]
  staticTypes := #[]
  resolved := Array.replicate 62 none
  statics := none }

def pool14 : Array CpInfo := pool [(4, .class_ 6), (1, u "java/lang/Object"), (0, u "<init>"), (0, u "()V"), (5, .class_ 16), (1, u "java/lang/StringLatin1"), (104, u "$assertionsDisabled"), (0, u "Z"), (98, .class_ 223), (1, u "java/lang/StringLatin1$LinesSpliterator"), (166, .class_ 391), (0, u "java/lang/StringLatin1$CharsSpliterator")] 3

def k14m0 : Method := { name := "<init>", desc := "()V", sig := { parameters := [], returnType := none }, accessFlags := 0, code := none }
/-- java/lang/StringLatin1 -/
def k14 : Class := { plain "java/lang/StringLatin1" (some 0) with
  accessFlags := 48
  interfaces := #[]
  cf := some (fileOf pool14 14 #[.nestMembers #[390, 221]] #[{ accessFlags := 0, nameIndex := 7, descriptorIndex := 8, attributes := #[] }] 48 4 #[] #[{ accessFlags := 4120, nameIndex := 121, descriptorIndex := 122, attributes := #[] }])
  fields := #[{ name := "$assertionsDisabled", type := .boolean, accessFlags := 4120, slot := 0, constantValue := 0 }]
  methods := #[k14m0]
  instanceTypes := #[]
  staticTypes := #[.boolean]
  resolved := Array.replicate 395 none
  statics := none }

def pool15 : Array CpInfo := pool [(2, .class_ 4), (1, u "java/lang/Object"), (0, u "<init>"), (0, u "()V"), (17, .class_ 26), (1, u "jdk/internal/util/Preconditions"), (28, .class_ 56), (0, u "jdk/internal/util/Preconditions$4"), (57, .class_ 115), (0, u "jdk/internal/util/Preconditions$1"), (7, u "SIOOBE_FORMATTER"), (0, u "Ljava/util/function/BiFunction;"), (0, .class_ 126), (0, u "jdk/internal/util/Preconditions$2"), (3, u "AIOOBE_FORMATTER"), (0, .class_ 132), (0, u "jdk/internal/util/Preconditions$3"), (3, u "IOOBE_FORMATTER")] 57

def k15m0 : Method := { name := "<init>", desc := "()V", sig := { parameters := [], returnType := none }, accessFlags := 1, code := none }
/-- jdk/internal/util/Preconditions -/
def k15 : Class := { plain "jdk/internal/util/Preconditions" (some 0) with
  accessFlags := 33
  interfaces := #[]
  cf := some (fileOf pool15 24 #[.nestMembers #[55, 131, 125, 114]] #[{ accessFlags := 1, nameIndex := 5, descriptorIndex := 6, attributes := #[] }] 33 2 #[] #[{ accessFlags := 25, nameIndex := 123, descriptorIndex := 124, attributes := #[] }, { accessFlags := 25, nameIndex := 130, descriptorIndex := 124, attributes := #[] }, { accessFlags := 25, nameIndex := 136, descriptorIndex := 124, attributes := #[] }])
  fields := #[{ name := "SIOOBE_FORMATTER", type := (.object "java/util/function/BiFunction"), accessFlags := 25, slot := 0, constantValue := 0 }, { name := "AIOOBE_FORMATTER", type := (.object "java/util/function/BiFunction"), accessFlags := 25, slot := 1, constantValue := 0 }, { name := "IOOBE_FORMATTER", type := (.object "java/util/function/BiFunction"), accessFlags := 25, slot := 2, constantValue := 0 }]
  methods := #[k15m0]
  instanceTypes := #[]
  staticTypes := #[(.object "java/util/function/BiFunction"), (.object "java/util/function/BiFunction"), (.object "java/util/function/BiFunction")]
  resolved := Array.replicate 194 none
  statics := some 2 }

def pool16 : Array CpInfo := pool [(9, u "<init>"), (6, .class_ 18), (1, u "java/lang/Object"), (0, u "()V"), (1, .class_ 23), (1, u "jdk/internal/util/ArraysSupport"), (0, u "LOG2_ARRAY_LONG_INDEX_SCALE"), (0, u "I"), (2, u "U"), (0, u "Ljdk/internal/misc/Unsafe;"), (8, u "BIG_ENDIAN"), (0, u "Z"), (8, u "LOG2_BYTE_BIT_SIZE"), (4, u "LOG2_ARRAY_INT_INDEX_SCALE"), (54, u "JLA"), (0, u "Ljdk/internal/access/JavaLangAccess;"), (11, u "LOG2_ARRAY_BOOLEAN_INDEX_SCALE"), (9, u "LOG2_ARRAY_BYTE_INDEX_SCALE"), (5, u "LOG2_ARRAY_CHAR_INDEX_SCALE"), (5, u "LOG2_ARRAY_SHORT_INDEX_SCALE"), (18, u "LOG2_ARRAY_FLOAT_INDEX_SCALE"), (24, u "LOG2_ARRAY_DOUBLE_INDEX_SCALE"), (89, u "T_BOOLEAN"), (2, u "T_CHAR"), (1, u "T_FLOAT"), (1, u "T_DOUBLE"), (1, u "T_BYTE"), (1, u "T_SHORT"), (1, u "T_INT"), (1, u "T_LONG"), (1, u "SOFT_MAX_ARRAY_LENGTH")] 83

def k16m0 : Method := { name := "<init>", desc := "()V", sig := { parameters := [], returnType := none }, accessFlags := 2, code := none }
/-- jdk/internal/util/ArraysSupport -/
def k16 : Class := { plain "jdk/internal/util/ArraysSupport" (some 0) with
  accessFlags := 33
  interfaces := #[]
  cf := some (fileOf pool16 21 #[] #[{ accessFlags := 2, nameIndex := 9, descriptorIndex := 19, attributes := #[] }] 33 16 #[] #[{ accessFlags := 24, nameIndex := 28, descriptorIndex := 29, attributes := #[] }, { accessFlags := 26, nameIndex := 38, descriptorIndex := 39, attributes := #[] }, { accessFlags := 25, nameIndex := 121, descriptorIndex := 25, attributes := #[] }, { accessFlags := 25, nameIndex := 131, descriptorIndex := 25, attributes := #[] }, { accessFlags := 25, nameIndex := 137, descriptorIndex := 25, attributes := #[] }, { accessFlags := 25, nameIndex := 143, descriptorIndex := 25, attributes := #[] }, { accessFlags := 25, nameIndex := 53, descriptorIndex := 25, attributes := #[] }, { accessFlags := 25, nameIndex := 24, descriptorIndex := 25, attributes := #[] }, { accessFlags := 25, nameIndex := 162, descriptorIndex := 25, attributes := #[] }, { accessFlags := 25, nameIndex := 187, descriptorIndex := 25, attributes := #[] }, { accessFlags := 26, nameIndex := 48, descriptorIndex := 25, attributes := #[] }, { accessFlags := 25, nameIndex := 277, descriptorIndex := 25, attributes := #[] }, { accessFlags := 25, nameIndex := 280, descriptorIndex := 25, attributes := #[] }, { accessFlags := 25, nameIndex := 282, descriptorIndex := 25, attributes := #[] }, { accessFlags := 25, nameIndex := 284, descriptorIndex := 25, attributes := #[] }, { accessFlags := 25, nameIndex := 286, descriptorIndex := 25, attributes := #[] }, { accessFlags := 25, nameIndex := 288, descriptorIndex := 25, attributes := #[] }, { accessFlags := 25, nameIndex := 290, descriptorIndex := 25, attributes := #[] }, { accessFlags := 25, nameIndex := 292, descriptorIndex := 25, attributes := #[] }, { accessFlags := 26, nameIndex := 108, descriptorIndex := 109, attributes := #[] }, { accessFlags := 25, nameIndex := 294, descriptorIndex := 25, attributes := #[] }])
  fields := #[{ name := "U", type := (.object "jdk/internal/misc/Unsafe"), accessFlags := 24, slot := 0, constantValue := 0 }, { name := "BIG_ENDIAN", type := .boolean, accessFlags := 26, slot := 1, constantValue := 0 }, { name := "LOG2_ARRAY_BOOLEAN_INDEX_SCALE", type := .int, accessFlags := 25, slot := 2, constantValue := 0 }, { name := "LOG2_ARRAY_BYTE_INDEX_SCALE", type := .int, accessFlags := 25, slot := 3, constantValue := 0 }, { name := "LOG2_ARRAY_CHAR_INDEX_SCALE", type := .int, accessFlags := 25, slot := 4, constantValue := 0 }, { name := "LOG2_ARRAY_SHORT_INDEX_SCALE", type := .int, accessFlags := 25, slot := 5, constantValue := 0 }, { name := "LOG2_ARRAY_INT_INDEX_SCALE", type := .int, accessFlags := 25, slot := 6, constantValue := 0 }, { name := "LOG2_ARRAY_LONG_INDEX_SCALE", type := .int, accessFlags := 25, slot := 7, constantValue := 0 }, { name := "LOG2_ARRAY_FLOAT_INDEX_SCALE", type := .int, accessFlags := 25, slot := 8, constantValue := 0 }, { name := "LOG2_ARRAY_DOUBLE_INDEX_SCALE", type := .int, accessFlags := 25, slot := 9, constantValue := 0 }, { name := "LOG2_BYTE_BIT_SIZE", type := .int, accessFlags := 26, slot := 10, constantValue := 0 }, { name := "T_BOOLEAN", type := .int, accessFlags := 25, slot := 11, constantValue := 0 }, { name := "T_CHAR", type := .int, accessFlags := 25, slot := 12, constantValue := 0 }, { name := "T_FLOAT", type := .int, accessFlags := 25, slot := 13, constantValue := 0 }, { name := "T_DOUBLE", type := .int, accessFlags := 25, slot := 14, constantValue := 0 }, { name := "T_BYTE", type := .int, accessFlags := 25, slot := 15, constantValue := 0 }, { name := "T_SHORT", type := .int, accessFlags := 25, slot := 16, constantValue := 0 }, { name := "T_INT", type := .int, accessFlags := 25, slot := 17, constantValue := 0 }, { name := "T_LONG", type := .int, accessFlags := 25, slot := 18, constantValue := 0 }, { name := "JLA", type := (.object "jdk/internal/access/JavaLangAccess"), accessFlags := 26, slot := 19, constantValue := 0 }, { name := "SOFT_MAX_ARRAY_LENGTH", type := .int, accessFlags := 25, slot := 20, constantValue := 0 }]
  methods := #[k16m0]
  instanceTypes := #[]
  staticTypes := #[(.object "jdk/internal/misc/Unsafe"), .boolean, .int, .int, .int, .int, .int, .int, .int, .int, .int, .int, .int, .int, .int, .int, .int, .int, .int, (.object "jdk/internal/access/JavaLangAccess"), .int]
  resolved := Array.replicate 378 none
  statics := none }

def pool17 : Array CpInfo := pool [(1, u "java/lang/Cloneable"), (0, .class_ 1), (0, u "java/lang/Object"), (0, .class_ 3)] 3

/-- java/lang/Cloneable -/
def k17 : Class := { plain "java/lang/Cloneable" (some 0) with
  accessFlags := 1537
  interfaces := #[]
  cf := some (fileOf pool17 2 #[] #[] 1537 4 #[] #[])
  fields := #[]
  methods := #[]
  instanceTypes := #[]
  staticTypes := #[]
  resolved := Array.replicate 8 none
  statics := none }

/-- the primitive byte -/
def k18 : Class := { plain "byte" none with kind := .primitive 'B', accessFlags := 0x411 }
/-- [B -/
def k19 : Class := { plain "[B" (some 0) with kind := .array 18 .byte, interfaces := #[17, 2], accessFlags := 1041 }

/-- the primitive char -/
def k20 : Class := { plain "char" none with kind := .primitive 'C', accessFlags := 0x411 }
/-- [C -/
def k21 : Class := { plain "[C" (some 0) with kind := .array 20 .char, interfaces := #[17, 2], accessFlags := 1041 }

/-- the primitive int -/
def k22 : Class := { plain "int" none with kind := .primitive 'I', accessFlags := 0x411 }
/-- [I -/
def k23 : Class := { plain "[I" (some 0) with kind := .array 22 .int, interfaces := #[17, 2], accessFlags := 1041 }

def heap : Heap := #[{ cls := 7, slots := #[.long 0, .int 1, .null, .int 0, .null, .int 0, .int 0], vm := .statics 7 },
  { cls := 10, slots := #[.ref 6, .ref 4, .ref 5, .ref 3, .null], vm := .statics 10 },
  { cls := 15, slots := #[.null, .null, .null], vm := .statics 15 },
  { cls := 10, slots := #[.null, .int 0, .int 0, .int 0, .null], vm := .none },
  { cls := 10, slots := #[.null, .int 0, .int 0, .int 0, .null], vm := .none },
  { cls := 10, slots := #[.null, .int 0, .int 0, .int 0, .null], vm := .none },
  { cls := 10, slots := #[.null, .int 0, .int 0, .int 0, .null], vm := .none }]
def classes : Array Class := #[k0, k1, k2, k3, k4, k5, k6, k7, k8, k9, k10, k11, k12, k13, k14, k15, k16, k17, k18, k19, k20, k21, k22, k23]
def interned : List (Array UInt16 × Addr) := []
def slotsUsed : Nat := 35
def theMethod : MethodId := ⟨1, 2⟩
def args0 : Array Value := #[.int 5, .int 6, .long 7, .long 8, .long 9, .long 10]
def aboutOver (below : List Frame) : State where
  vm := { classes := classes, interned := interned.toArray }
  heap := heap
  slotsUsed := slotsUsed
  threads := #[{ frames := .invoking theMethod args0 :: below }]
def below0 : List Frame := [.native { method := ⟨0, 0⟩, args := #[] }]
def about1 : State := aboutOver below0
def p0 : Program := .bare "" "" ""
def e0 : Env := launch0.env 0 0 0
theorem w_frames : about1.frames = Frame.invoking theMethod args0 :: below0 := rfl
set_option maxRecDepth 65536 in
theorem w_args : argsFit about1.vm theMethod args0 = true := by decide +kernel
set_option maxRecDepth 65536 in
theorem w_heap : heapFits about1 = true := by decide +kernel
set_option maxRecDepth 65536 in
theorem w_runnable : about1.curStatus? = some .runnable := by decide +kernel
set_option maxRecDepth 65536 in
theorem w_alone : about1.alone = true := by decide +kernel
set_option maxRecDepth 65536 in
theorem w_named : about1.methodNamed? x = some theMethod := by decide +kernel
set_option maxRecDepth 65536 in
theorem w_hears : about1.hears theMethod below0 = true := by decide +kernel
set_option maxRecDepth 65536 in
theorem w_ripe : about1.ripe theMethod args0 below0 = true := by decide +kernel
theorem w_running : about1.status = .running := rfl
set_option maxRecDepth 65536 in
theorem w_room : about1.hasRoom e0.platform room_1 = true :=
  launch0.hasRoom_least _ room_1 (by decide +kernel) (by decide +kernel) (by decide +kernel) (by decide +kernel) (by decide +kernel) (by decide +kernel)
theorem allAtoms_all (ts : List Jvm.Cond) (a : Array Jvm.Value) (st : Jvm.State) : (allAtoms ts).before a st = ts.all (fun c => c.before a st) := by
  induction ts with
  | nil => rfl
  | cons c t ih =>
    show (Jvm.Cond.and c (allAtoms t)).before a st = _
    rw [Jvm.Cond.before_and, ih, List.all_cons]
def words1 : List Jvm.Cond := Jvm.Cond.code x code maxLocals ret :: tables_1
/-- a 'code' word, met by the world's own term for the bytes: nothing is compared byte by byte -/
theorem code_word {y : MethodName} {bytes : ByteArray} {mx : Nat} {rt : Option FieldType} {a : Array Value} {s : State} {m : MethodId} {meth : Method} {c : Code} (h1 : s.methodNamed? y = some m) (h2 : s.vm.method? m = some meth) (h3 : meth.code = some c) (h4 : c.code = bytes)
    (h5 : (c.maxLocals == mx && c.exceptionTable.isEmpty && decide (c.maxStack ≤ mostOperands) && decide (meth.sig.returnType = rt) && !meth.locks && decide (parseMethodDescriptor y.desc = some meth.sig)) = true) : (Jvm.Cond.code y bytes mx rt).before a s = true := by
  simp only [Bool.and_eq_true, beq_iff_eq, Bool.not_eq_true', decide_eq_true_eq] at h5
  obtain ⟨⟨⟨⟨⟨g1, g2⟩, g3⟩, g4⟩, g5⟩, g6⟩ := h5
  simp [Cond.before, Cond.holds, Cond.value, h1, h2, h3, h4, g1, g2, g3, g4, g5, g6]
def isCode : Jvm.Cond → Bool
  | .code _ _ _ _ => true
  | _ => false
theorem all_split {L : List Jvm.Cond} {P : Jvm.Cond → Bool} (h1 : L.all (fun c => isCode c || P c) = true) (h2 : ∀ c ∈ L.filter isCode, P c = true) : L.all P = true := by
  refine List.all_eq_true.mpr fun c hc => ?_
  have h := List.all_eq_true.mp h1 c hc
  rcases Bool.eq_false_or_eq_true (isCode c) with hi | hi
  · exact h2 c (List.mem_filter.mpr ⟨hc, hi⟩)
  · simpa [hi] using h
set_option maxRecDepth 65536 in
theorem w_c0 : (Jvm.Cond.code x code maxLocals ret).before args0 about1 = true := code_word (m := ⟨1, 2⟩) (meth := k1m2) (c := k1c2) (by decide +kernel) rfl rfl rfl (by decide +kernel)
set_option maxRecDepth 65536 in
theorem w_c1 : (Jvm.Cond.code ({ cls := "java/lang/String", name := "<init>", desc := "([C)V" } : Jvm.MethodName) jdk_42_method_3_code (2 : Nat) (Option.none : Option Jvm.ClassFile.FieldType)).before args0 about1 = true := code_word (m := ⟨7, 1⟩) (meth := k7m1) (c := k7c1) (by decide +kernel) rfl rfl rfl (by decide +kernel)
set_option maxRecDepth 65536 in
theorem w_c2 : (Jvm.Cond.code ({ cls := "java/lang/String", name := "<init>", desc := "([CIILjava/lang/Void;)V" } : Jvm.MethodName) jdk_42_method_149_code (6 : Nat) (Option.none : Option Jvm.ClassFile.FieldType)).before args0 about1 = true := code_word (m := ⟨7, 2⟩) (meth := k7m2) (c := k7c2) (by decide +kernel) rfl rfl rfl (by decide +kernel)
set_option maxRecDepth 65536 in
theorem w_c3 : (Jvm.Cond.code ({ cls := "java/lang/Object", name := "<init>", desc := "()V" } : Jvm.MethodName) object_method_1_code (1 : Nat) (Option.none : Option Jvm.ClassFile.FieldType)).before args0 about1 = true := code_word (m := ⟨0, 0⟩) (meth := k0m0) (c := k0c0) (by decide +kernel) rfl rfl rfl (by decide +kernel)
set_option maxRecDepth 65536 in
theorem w_c4 : (Jvm.Cond.code ({ cls := "java/lang/StringUTF16", name := "compress", desc := "([CII)[B" } : Jvm.MethodName) jdk_52_method_16_code (6 : Nat) (Option.some (Jvm.ClassFile.FieldType.array Jvm.ClassFile.FieldType.byte))).before args0 about1 = true := code_word (m := ⟨8, 2⟩) (meth := k8m2) (c := k8c2) (by decide +kernel) rfl rfl rfl (by decide +kernel)
set_option maxRecDepth 65536 in
theorem w_c5 : (Jvm.Cond.code ({ cls := "java/lang/StringUTF16", name := "compress", desc := "([CI[BII)I" } : Jvm.MethodName) jdk_52_method_21_code (7 : Nat) (Option.some Jvm.ClassFile.FieldType.int)).before args0 about1 = true := code_word (m := ⟨8, 3⟩) (meth := k8m3) (c := k8c3) (by decide +kernel) rfl rfl rfl (by decide +kernel)
set_option maxRecDepth 65536 in
theorem w_c6 : (Jvm.Cond.code ({ cls := "java/lang/StringUTF16", name := "coderFromArrayLen", desc := "([BI)B" } : Jvm.MethodName) jdk_52_method_15_code (2 : Nat) (Option.some Jvm.ClassFile.FieldType.byte)).before args0 about1 = true := code_word (m := ⟨8, 1⟩) (meth := k8m1) (c := k8c1) (by decide +kernel) rfl rfl rfl (by decide +kernel)
set_option maxRecDepth 65536 in
theorem w_c7 : (Jvm.Cond.code ({ cls := "com/example/aurel/aurel/orders/OrderWithDeliveryConfirmedPinLaw", name := "type", desc := "(I)Lcom/example/aurel/aurel/catalog/ProductType;" } : Jvm.MethodName) method_2_code (1 : Nat) (Option.some (Jvm.ClassFile.FieldType.object "com/example/aurel/aurel/catalog/ProductType"))).before args0 about1 = true := code_word (m := ⟨1, 1⟩) (meth := k1m1) (c := k1c1) (by decide +kernel) rfl rfl rfl (by decide +kernel)
set_option maxRecDepth 65536 in
theorem w_c8 : (Jvm.Cond.code ({ cls := "com/example/aurel/aurel/orders/Order", name := "<init>", desc := "(Ljava/lang/String;Ljava/lang/String;Ljava/lang/String;Ljava/lang/String;Ljava/lang/String;Ljava/lang/String;Lcom/example/aurel/aurel/catalog/ProductType;JJLjava/lang/String;ZJLcom/example/aurel/aurel/orders/PaidPeriod;)V" } : Jvm.MethodName) prog_25_method_1_code (17 : Nat) (Option.none : Option Jvm.ClassFile.FieldType)).before args0 about1 = true := code_word (m := ⟨12, 0⟩) (meth := k12m0) (c := k12c0) (by decide +kernel) rfl rfl rfl (by decide +kernel)
set_option maxRecDepth 65536 in
theorem w_c9 : (Jvm.Cond.code ({ cls := "java/lang/Record", name := "<init>", desc := "()V" } : Jvm.MethodName) jdk_30_method_1_code (1 : Nat) (Option.none : Option Jvm.ClassFile.FieldType)).before args0 about1 = true := code_word (m := ⟨11, 0⟩) (meth := k11m0) (c := k11c0) (by decide +kernel) rfl rfl rfl (by decide +kernel)
set_option maxRecDepth 65536 in
theorem w_c10 : (Jvm.Cond.code ({ cls := "com/example/aurel/aurel/orders/Order", name := "withDeliveryConfirmed", desc := "()Lcom/example/aurel/aurel/orders/Order;" } : Jvm.MethodName) prog_25_method_2_code (1 : Nat) (Option.some (Jvm.ClassFile.FieldType.object "com/example/aurel/aurel/orders/Order"))).before args0 about1 = true := code_word (m := ⟨12, 1⟩) (meth := k12m1) (c := k12c1) (by decide +kernel) rfl rfl rfl (by decide +kernel)
set_option maxRecDepth 65536 in
theorem w_c11 : (Jvm.Cond.code ({ cls := "com/example/aurel/aurel/orders/Order", name := "deliveryConfirmed", desc := "()Z" } : Jvm.MethodName) prog_25_method_16_code (1 : Nat) (Option.some Jvm.ClassFile.FieldType.boolean)).before args0 about1 = true := code_word (m := ⟨12, 12⟩) (meth := k12m12) (c := k12c12) (by decide +kernel) rfl rfl rfl (by decide +kernel)
set_option maxRecDepth 65536 in
theorem w_c12 : (Jvm.Cond.code ({ cls := "com/example/aurel/aurel/orders/Order", name := "purchaseOrderId", desc := "()Ljava/lang/String;" } : Jvm.MethodName) prog_25_method_6_code (1 : Nat) (Option.some (Jvm.ClassFile.FieldType.object "java/lang/String"))).before args0 about1 = true := code_word (m := ⟨12, 2⟩) (meth := k12m2) (c := k12c2) (by decide +kernel) rfl rfl rfl (by decide +kernel)
set_option maxRecDepth 65536 in
theorem w_c13 : (Jvm.Cond.code ({ cls := "com/example/aurel/aurel/orders/Order", name := "purchaseToken", desc := "()Ljava/lang/String;" } : Jvm.MethodName) prog_25_method_7_code (1 : Nat) (Option.some (Jvm.ClassFile.FieldType.object "java/lang/String"))).before args0 about1 = true := code_word (m := ⟨12, 3⟩) (meth := k12m3) (c := k12c3) (by decide +kernel) rfl rfl rfl (by decide +kernel)
set_option maxRecDepth 65536 in
theorem w_c14 : (Jvm.Cond.code ({ cls := "com/example/aurel/aurel/orders/Order", name := "userId", desc := "()Ljava/lang/String;" } : Jvm.MethodName) prog_25_method_8_code (1 : Nat) (Option.some (Jvm.ClassFile.FieldType.object "java/lang/String"))).before args0 about1 = true := code_word (m := ⟨12, 4⟩) (meth := k12m4) (c := k12c4) (by decide +kernel) rfl rfl rfl (by decide +kernel)
set_option maxRecDepth 65536 in
theorem w_c15 : (Jvm.Cond.code ({ cls := "com/example/aurel/aurel/orders/Order", name := "applicationId", desc := "()Ljava/lang/String;" } : Jvm.MethodName) prog_25_method_9_code (1 : Nat) (Option.some (Jvm.ClassFile.FieldType.object "java/lang/String"))).before args0 about1 = true := code_word (m := ⟨12, 5⟩) (meth := k12m5) (c := k12c5) (by decide +kernel) rfl rfl rfl (by decide +kernel)
set_option maxRecDepth 65536 in
theorem w_c16 : (Jvm.Cond.code ({ cls := "com/example/aurel/aurel/orders/Order", name := "packageName", desc := "()Ljava/lang/String;" } : Jvm.MethodName) prog_25_method_10_code (1 : Nat) (Option.some (Jvm.ClassFile.FieldType.object "java/lang/String"))).before args0 about1 = true := code_word (m := ⟨12, 6⟩) (meth := k12m6) (c := k12c6) (by decide +kernel) rfl rfl rfl (by decide +kernel)
set_option maxRecDepth 65536 in
theorem w_c17 : (Jvm.Cond.code ({ cls := "com/example/aurel/aurel/orders/Order", name := "productId", desc := "()Ljava/lang/String;" } : Jvm.MethodName) prog_25_method_11_code (1 : Nat) (Option.some (Jvm.ClassFile.FieldType.object "java/lang/String"))).before args0 about1 = true := code_word (m := ⟨12, 7⟩) (meth := k12m7) (c := k12c7) (by decide +kernel) rfl rfl rfl (by decide +kernel)
set_option maxRecDepth 65536 in
theorem w_c18 : (Jvm.Cond.code ({ cls := "com/example/aurel/aurel/orders/Order", name := "productType", desc := "()Lcom/example/aurel/aurel/catalog/ProductType;" } : Jvm.MethodName) prog_25_method_12_code (1 : Nat) (Option.some (Jvm.ClassFile.FieldType.object "com/example/aurel/aurel/catalog/ProductType"))).before args0 about1 = true := code_word (m := ⟨12, 8⟩) (meth := k12m8) (c := k12c8) (by decide +kernel) rfl rfl rfl (by decide +kernel)
set_option maxRecDepth 65536 in
theorem w_c19 : (Jvm.Cond.code ({ cls := "com/example/aurel/aurel/orders/Order", name := "purchaseTime", desc := "()J" } : Jvm.MethodName) prog_25_method_13_code (1 : Nat) (Option.some Jvm.ClassFile.FieldType.long)).before args0 about1 = true := code_word (m := ⟨12, 9⟩) (meth := k12m9) (c := k12c9) (by decide +kernel) rfl rfl rfl (by decide +kernel)
set_option maxRecDepth 65536 in
theorem w_c20 : (Jvm.Cond.code ({ cls := "com/example/aurel/aurel/orders/Order", name := "price", desc := "()J" } : Jvm.MethodName) prog_25_method_14_code (1 : Nat) (Option.some Jvm.ClassFile.FieldType.long)).before args0 about1 = true := code_word (m := ⟨12, 10⟩) (meth := k12m10) (c := k12c10) (by decide +kernel) rfl rfl rfl (by decide +kernel)
set_option maxRecDepth 65536 in
theorem w_c21 : (Jvm.Cond.code ({ cls := "com/example/aurel/aurel/orders/Order", name := "currency", desc := "()Ljava/lang/String;" } : Jvm.MethodName) prog_25_method_15_code (1 : Nat) (Option.some (Jvm.ClassFile.FieldType.object "java/lang/String"))).before args0 about1 = true := code_word (m := ⟨12, 11⟩) (meth := k12m11) (c := k12c11) (by decide +kernel) rfl rfl rfl (by decide +kernel)
set_option maxRecDepth 65536 in
theorem w_c22 : (Jvm.Cond.code ({ cls := "com/example/aurel/aurel/orders/Order", name := "sequence", desc := "()J" } : Jvm.MethodName) prog_25_method_17_code (1 : Nat) (Option.some Jvm.ClassFile.FieldType.long)).before args0 about1 = true := code_word (m := ⟨12, 13⟩) (meth := k12m13) (c := k12c13) (by decide +kernel) rfl rfl rfl (by decide +kernel)
set_option maxRecDepth 65536 in
theorem w_c23 : (Jvm.Cond.code ({ cls := "com/example/aurel/aurel/orders/Order", name := "paidPeriod", desc := "()Lcom/example/aurel/aurel/orders/PaidPeriod;" } : Jvm.MethodName) prog_25_method_18_code (1 : Nat) (Option.some (Jvm.ClassFile.FieldType.object "com/example/aurel/aurel/orders/PaidPeriod"))).before args0 about1 = true := code_word (m := ⟨12, 14⟩) (meth := k12m14) (c := k12c14) (by decide +kernel) rfl rfl rfl (by decide +kernel)
set_option maxRecDepth 65536 in
theorem w_c24 : (Jvm.Cond.code ({ cls := "com/example/aurel/aurel/orders/PaidPeriod", name := "<init>", desc := "(Ljava/lang/String;Ljava/lang/String;J)V" } : Jvm.MethodName) prog_27_method_1_code (5 : Nat) (Option.none : Option Jvm.ClassFile.FieldType)).before args0 about1 = true := code_word (m := ⟨13, 0⟩) (meth := k13m0) (c := k13c0) (by decide +kernel) rfl rfl rfl (by decide +kernel)
def codes1 : List Jvm.Cond := [Jvm.Cond.code x code maxLocals ret, Jvm.Cond.code ({ cls := "java/lang/String", name := "<init>", desc := "([C)V" } : Jvm.MethodName) jdk_42_method_3_code (2 : Nat) (Option.none : Option Jvm.ClassFile.FieldType), Jvm.Cond.code ({ cls := "java/lang/String", name := "<init>", desc := "([CIILjava/lang/Void;)V" } : Jvm.MethodName) jdk_42_method_149_code (6 : Nat) (Option.none : Option Jvm.ClassFile.FieldType), Jvm.Cond.code ({ cls := "java/lang/Object", name := "<init>", desc := "()V" } : Jvm.MethodName) object_method_1_code (1 : Nat) (Option.none : Option Jvm.ClassFile.FieldType), Jvm.Cond.code ({ cls := "java/lang/StringUTF16", name := "compress", desc := "([CII)[B" } : Jvm.MethodName) jdk_52_method_16_code (6 : Nat) (Option.some (Jvm.ClassFile.FieldType.array Jvm.ClassFile.FieldType.byte)), Jvm.Cond.code ({ cls := "java/lang/StringUTF16", name := "compress", desc := "([CI[BII)I" } : Jvm.MethodName) jdk_52_method_21_code (7 : Nat) (Option.some Jvm.ClassFile.FieldType.int), Jvm.Cond.code ({ cls := "java/lang/StringUTF16", name := "coderFromArrayLen", desc := "([BI)B" } : Jvm.MethodName) jdk_52_method_15_code (2 : Nat) (Option.some Jvm.ClassFile.FieldType.byte), Jvm.Cond.code ({ cls := "com/example/aurel/aurel/orders/OrderWithDeliveryConfirmedPinLaw", name := "type", desc := "(I)Lcom/example/aurel/aurel/catalog/ProductType;" } : Jvm.MethodName) method_2_code (1 : Nat) (Option.some (Jvm.ClassFile.FieldType.object "com/example/aurel/aurel/catalog/ProductType")), Jvm.Cond.code ({ cls := "com/example/aurel/aurel/orders/Order", name := "<init>", desc := "(Ljava/lang/String;Ljava/lang/String;Ljava/lang/String;Ljava/lang/String;Ljava/lang/String;Ljava/lang/String;Lcom/example/aurel/aurel/catalog/ProductType;JJLjava/lang/String;ZJLcom/example/aurel/aurel/orders/PaidPeriod;)V" } : Jvm.MethodName) prog_25_method_1_code (17 : Nat) (Option.none : Option Jvm.ClassFile.FieldType), Jvm.Cond.code ({ cls := "java/lang/Record", name := "<init>", desc := "()V" } : Jvm.MethodName) jdk_30_method_1_code (1 : Nat) (Option.none : Option Jvm.ClassFile.FieldType), Jvm.Cond.code ({ cls := "com/example/aurel/aurel/orders/Order", name := "withDeliveryConfirmed", desc := "()Lcom/example/aurel/aurel/orders/Order;" } : Jvm.MethodName) prog_25_method_2_code (1 : Nat) (Option.some (Jvm.ClassFile.FieldType.object "com/example/aurel/aurel/orders/Order")), Jvm.Cond.code ({ cls := "com/example/aurel/aurel/orders/Order", name := "deliveryConfirmed", desc := "()Z" } : Jvm.MethodName) prog_25_method_16_code (1 : Nat) (Option.some Jvm.ClassFile.FieldType.boolean), Jvm.Cond.code ({ cls := "com/example/aurel/aurel/orders/Order", name := "purchaseOrderId", desc := "()Ljava/lang/String;" } : Jvm.MethodName) prog_25_method_6_code (1 : Nat) (Option.some (Jvm.ClassFile.FieldType.object "java/lang/String")), Jvm.Cond.code ({ cls := "com/example/aurel/aurel/orders/Order", name := "purchaseToken", desc := "()Ljava/lang/String;" } : Jvm.MethodName) prog_25_method_7_code (1 : Nat) (Option.some (Jvm.ClassFile.FieldType.object "java/lang/String")), Jvm.Cond.code ({ cls := "com/example/aurel/aurel/orders/Order", name := "userId", desc := "()Ljava/lang/String;" } : Jvm.MethodName) prog_25_method_8_code (1 : Nat) (Option.some (Jvm.ClassFile.FieldType.object "java/lang/String")), Jvm.Cond.code ({ cls := "com/example/aurel/aurel/orders/Order", name := "applicationId", desc := "()Ljava/lang/String;" } : Jvm.MethodName) prog_25_method_9_code (1 : Nat) (Option.some (Jvm.ClassFile.FieldType.object "java/lang/String")), Jvm.Cond.code ({ cls := "com/example/aurel/aurel/orders/Order", name := "packageName", desc := "()Ljava/lang/String;" } : Jvm.MethodName) prog_25_method_10_code (1 : Nat) (Option.some (Jvm.ClassFile.FieldType.object "java/lang/String")), Jvm.Cond.code ({ cls := "com/example/aurel/aurel/orders/Order", name := "productId", desc := "()Ljava/lang/String;" } : Jvm.MethodName) prog_25_method_11_code (1 : Nat) (Option.some (Jvm.ClassFile.FieldType.object "java/lang/String")), Jvm.Cond.code ({ cls := "com/example/aurel/aurel/orders/Order", name := "productType", desc := "()Lcom/example/aurel/aurel/catalog/ProductType;" } : Jvm.MethodName) prog_25_method_12_code (1 : Nat) (Option.some (Jvm.ClassFile.FieldType.object "com/example/aurel/aurel/catalog/ProductType")), Jvm.Cond.code ({ cls := "com/example/aurel/aurel/orders/Order", name := "purchaseTime", desc := "()J" } : Jvm.MethodName) prog_25_method_13_code (1 : Nat) (Option.some Jvm.ClassFile.FieldType.long), Jvm.Cond.code ({ cls := "com/example/aurel/aurel/orders/Order", name := "price", desc := "()J" } : Jvm.MethodName) prog_25_method_14_code (1 : Nat) (Option.some Jvm.ClassFile.FieldType.long), Jvm.Cond.code ({ cls := "com/example/aurel/aurel/orders/Order", name := "currency", desc := "()Ljava/lang/String;" } : Jvm.MethodName) prog_25_method_15_code (1 : Nat) (Option.some (Jvm.ClassFile.FieldType.object "java/lang/String")), Jvm.Cond.code ({ cls := "com/example/aurel/aurel/orders/Order", name := "sequence", desc := "()J" } : Jvm.MethodName) prog_25_method_17_code (1 : Nat) (Option.some Jvm.ClassFile.FieldType.long), Jvm.Cond.code ({ cls := "com/example/aurel/aurel/orders/Order", name := "paidPeriod", desc := "()Lcom/example/aurel/aurel/orders/PaidPeriod;" } : Jvm.MethodName) prog_25_method_18_code (1 : Nat) (Option.some (Jvm.ClassFile.FieldType.object "com/example/aurel/aurel/orders/PaidPeriod")), Jvm.Cond.code ({ cls := "com/example/aurel/aurel/orders/PaidPeriod", name := "<init>", desc := "(Ljava/lang/String;Ljava/lang/String;J)V" } : Jvm.MethodName) prog_27_method_1_code (5 : Nat) (Option.none : Option Jvm.ClassFile.FieldType)]
set_option maxRecDepth 65536 in
theorem codes_eq : words1.filter isCode = codes1 := rfl
theorem w_codes : ∀ c ∈ words1.filter isCode, c.before args0 about1 = true := by
  rw [codes_eq]
  intro c hc
  simp only [codes1, List.mem_cons, List.not_mem_nil, or_false] at hc
  rcases hc with rfl | rfl | rfl | rfl | rfl | rfl | rfl | rfl | rfl | rfl | rfl | rfl | rfl | rfl | rfl | rfl | rfl | rfl | rfl | rfl | rfl | rfl | rfl | rfl | rfl
  · exact w_c0
  · exact w_c1
  · exact w_c2
  · exact w_c3
  · exact w_c4
  · exact w_c5
  · exact w_c6
  · exact w_c7
  · exact w_c8
  · exact w_c9
  · exact w_c10
  · exact w_c11
  · exact w_c12
  · exact w_c13
  · exact w_c14
  · exact w_c15
  · exact w_c16
  · exact w_c17
  · exact w_c18
  · exact w_c19
  · exact w_c20
  · exact w_c21
  · exact w_c22
  · exact w_c23
  · exact w_c24
set_option maxRecDepth 65536 in
theorem w_t1 : (words1.take 24).all (fun c => isCode c || c.before args0 about1) = true := by decide +kernel
set_option maxRecDepth 65536 in
theorem w_t2 : ((words1.drop 24).take 24).all (fun c => isCode c || c.before args0 about1) = true := by decide +kernel
set_option maxRecDepth 65536 in
theorem w_t3 : (((words1.drop 24).drop 24).take 24).all (fun c => isCode c || c.before args0 about1) = true := by decide +kernel
set_option maxRecDepth 65536 in
theorem w_t4 : ((((words1.drop 24).drop 24).drop 24).take 24).all (fun c => isCode c || c.before args0 about1) = true := by decide +kernel
set_option maxRecDepth 65536 in
theorem w_t5 : (((((words1.drop 24).drop 24).drop 24).drop 24).take 24).all (fun c => isCode c || c.before args0 about1) = true := by decide +kernel
set_option maxRecDepth 65536 in
theorem w_t6 : ((((((words1.drop 24).drop 24).drop 24).drop 24).drop 24).take 24).all (fun c => isCode c || c.before args0 about1) = true := by decide +kernel
set_option maxRecDepth 65536 in
theorem w_t7 : ((((((words1.drop 24).drop 24).drop 24).drop 24).drop 24).drop 24).all (fun c => isCode c || c.before args0 about1) = true := by decide +kernel
theorem w_tables : (allAtoms (Jvm.Cond.code x code maxLocals ret :: tables_1)).before args0 about1 = true := by
  rw [allAtoms_all]
  show words1.all (fun c => c.before args0 about1) = true
  refine all_split ?_ w_codes
  rw [← List.take_append_drop 24 words1, List.all_append, w_t1, ← List.take_append_drop 24 (words1.drop 24), List.all_append, w_t2, ← List.take_append_drop 24 ((words1.drop 24).drop 24), List.all_append, w_t3, ← List.take_append_drop 24 (((words1.drop 24).drop 24).drop 24), List.all_append, w_t4, ← List.take_append_drop 24 ((((words1.drop 24).drop 24).drop 24).drop 24), List.all_append, w_t5, ← List.take_append_drop 24 (((((words1.drop 24).drop 24).drop 24).drop 24).drop 24), List.all_append, w_t6, w_t7]
  rfl
set_option maxRecDepth 65536 in
theorem w_rest : rest_1_c.before args0 about1 = true := by decide +kernel
set_option maxRecDepth 65536 in
theorem w_case : (Jvm.Cond.and given_1 narrow_1).before args0 about1 = true := by decide +kernel
theorem w_applies : (headSpec (Jvm.Cond.code x code maxLocals ret :: tables_1) room_1).applies x e0.platform about1 = true :=
  (Spec.applies_iff w_frames).mpr ⟨w_running, w_runnable, w_alone, w_named, w_hears, w_ripe, w_room, w_tables⟩
theorem atStart : AtStart classFile x code maxLocals ret World_1 tables_1 room_1 Calls_1 rest_1 Pre_1 launch0 p0 e0 about1 theMethod args0 below0 :=
  ⟨lists_1, trivial, launch0.admits_env _ _ _, launch0.least_env, fairChoices_fair.cas, fairChoices_fair.clock, w_frames, w_args, w_heap, w_applies, trivial, w_rest, w_case⟩
end start1
theorem witness_1 : WitnessClaimed_1 := ⟨start1.p0, start1.e0, start1.about1, start1.theMethod, start1.args0, start1.below0, start1.atStart⟩
end Jvm.Pilot.@@N@@
