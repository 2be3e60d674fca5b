import JvmDerived
import JvmDerived.Pilot.@@N@@Statement
import JvmDerived.Pilot.@@N@@Code
set_option linter.unusedVariables false
set_option linter.unusedSimpArgs false
namespace Jvm.Pilot.@@N@@
open Jvm Jvm.ClassFile Sem Op Lib Jvm.Free Jvm.Stand Jvm.LawKit Jvm.RoadKit Bundle Jvm.Pilot.@@N@@.Jvm.D
section Own
variable {p : Program} {l : Launch} {e : Env} {R : Room} {s : State} {m : MethodId} {args : Array Value} {below : List Frame} {meth : Method} {c : Code} {T T' : State} {locs : List Loc} {cells slots C S : Nat} {Qv : Option Value → Heap → List Loc → Prop} {Z : State} {a0 : Array Value} {h : Heap}
/-- from here, with this frame on top, the method returns, Qv holds of what it returns, of the heap and of what was written, within C cells and S slots -/
def own_Ends (p : Program) (e : Env) (below : List Frame) (s : State) (C S : Nat) (Qv : Option Value → Heap → List Loc → Prop) (T : State) (g : JFrame) : Prop :=
  ∃ (s₂ : State) (o : Outcome), Steps p.tables e below (T.setTop g) s₂ ∧ s₂.status = .running ∧ Ended s₂ below o ∧ ∃ v L, o = .returned v ∧ Qv v s₂.heap L ∧ FrameEnd s o s₂ L C S
theorem own_go {g : JFrame} (g' : JFrame) (st : ∀ t, Steps p.tables e below (T'.setTop g') t → Steps p.tables e below (T.setTop g) t) (k : own_Ends p e below s C S Qv T' g') : own_Ends p e below s C S Qv T g := by
  obtain ⟨s₂, o, h1, h⟩ := k
  exact ⟨s₂, o, st _ h1, h⟩
theorem own_ret (X : Stand p l e R s m args below meth c T locs cells slots) (hlk : meth.locks = false) {g : JFrame} {v : Option Value} (hv : meth.sig.returnType = none → v = none)
    (st : ∀ fs, (∀ (f : JFrame) (acts : List Action), f.method = m → f.locked = none → f.entered = [] → (doReturn e (T.setTop f) acts v).1 = T.setFrames fs) → Steps p.tables e below (T.setTop g) (T.setFrames fs))
    (hC : cells ≤ C) (hS : slots ≤ S) (hQ : Qv v T.heap locs) : own_Ends p e below s C S Qv T g := by
  obtain ⟨fs, hr, hrun, hended, hW, hsame⟩ := X.leave (v := v) hv hlk
  exact ⟨_, _, st fs hr, hrun, hended, v, locs, rfl, hQ, ⟨_, rfl⟩, hW, hsame.mono hC hS⟩
theorem own_retI (X : Stand p l e R s m args below meth c T locs cells slots) (hx : p.tables.exec = Jvm.exec) (hlk : meth.locks = false) {pc : Nat} {Ls : Array Slot} {z : Int32} {rest : List Value} {t : FieldType} (hret : meth.sig.returnType = some t)
    (ht : t = .int ∨ t = .boolean ∨ t = .byte ∨ t = .char ∨ t = .short) (hn : narrow t (.int z) = .int z) (hd : decode c.code pc = .ok (.ireturn, 1)) (hC : cells ≤ C) (hS : slots ≤ S) (hQ : Qv (some (.int z)) T.heap locs) : own_Ends p e below s C S Qv T (mkF m pc Ls (.int z :: rest)) :=
  own_ret X hlk (fun h => by rw [hret] at h; cases h) (fun fs hr => retOut X hx hret hn (Or.inl ⟨rfl, ht, _, rfl⟩) hd hr) hC hS hQ
theorem own_retN (X : Stand p l e R s m args below meth c T locs cells slots) (hx : p.tables.exec = Jvm.exec) (hlk : meth.locks = false) {pc : Nat} {Ls : Array Slot} {z : Int32} {rest : List Value} {t : FieldType} (hret : meth.sig.returnType = some t)
    (ht : t = .boolean ∨ t = .byte ∨ t = .char ∨ t = .short) (hd : decode c.code pc = .ok (.ireturn, 1)) (hC : cells ≤ C) (hS : slots ≤ S) (hQ : Qv (some (.int (nar t z))) T.heap locs) : own_Ends p e below s C S Qv T (mkF m pc Ls (.int z :: rest)) :=
  own_ret X hlk (fun h => by rw [hret] at h; cases h) (fun fs hr => retN X hx hret ht hd hr) hC hS hQ
theorem own_retL (X : Stand p l e R s m args below meth c T locs cells slots) (hx : p.tables.exec = Jvm.exec) (hlk : meth.locks = false) {pc : Nat} {Ls : Array Slot} {z : Int64} {rest : List Value} (hret : meth.sig.returnType = some .long)
    (hd : decode c.code pc = .ok (.lreturn, 1)) (hC : cells ≤ C) (hS : slots ≤ S) (hQ : Qv (some (.long z)) T.heap locs) : own_Ends p e below s C S Qv T (mkF m pc Ls (.long z :: rest)) :=
  own_ret X hlk (fun h => by rw [hret] at h; cases h) (fun fs hr => retOut X hx hret rfl (Or.inr (Or.inl ⟨rfl, rfl, _, rfl⟩)) hd hr) hC hS hQ
theorem own_retA (X : Stand p l e R s m args below meth c T locs cells slots) (hx : p.tables.exec = Jvm.exec) (hlk : meth.locks = false) {pc : Nat} {Ls : Array Slot} {z : Addr} {rest : List Value} {t : FieldType} (hret : meth.sig.returnType = some t) (ht : t.isReference = true) (hn : narrow t (.ref z) = .ref z)
    (hd : decode c.code pc = .ok (.areturn, 1)) (hC : cells ≤ C) (hS : slots ≤ S) (hQ : Qv (some (.ref z)) T.heap locs) : own_Ends p e below s C S Qv T (mkF m pc Ls (.ref z :: rest)) :=
  own_ret X hlk (fun h => by rw [hret] at h; cases h) (fun fs hr => retOut X hx hret hn (Or.inr (Or.inr (Or.inr (Or.inr ⟨rfl, ht, rfl⟩)))) hd hr) hC hS hQ
theorem own_ret0 (X : Stand p l e R s m args below meth c T locs cells slots) (hx : p.tables.exec = Jvm.exec) (hlk : meth.locks = false) {pc : Nat} {Ls : Array Slot} (hret : meth.sig.returnType = none)
    (hd : decode c.code pc = .ok (.return_, 1)) (hC : cells ≤ C) (hS : slots ≤ S) (hQ : Qv none T.heap locs) : own_Ends p e below s C S Qv T (mkF m pc Ls []) :=
  own_ret X hlk (fun _ => rfl) (fun fs hr => X.returnOut hx hret hd hr) hC hS hQ
/-- a contract out of its body's walk -/
theorem own_met {y : MethodName} {bytes : ByteArray} {maxL : Nat} {ret : Option FieldType} {ws : List Jvm.Cond} {rm : Room} {as' : Array Value} {h0 : Heap} (hp : plainFor y = true)
    (body : ∀ (p : Program) (e : Env) (s : State) (m : MethodId) (below : List Frame) (meth : Method) (c : Code) (T : State), p.tables.exec = Jvm.exec → c.code = bytes → c.maxLocals = maxL → s.vm.findClass y.cls = some m.cls → meth.sig.returnType = ret → meth.locks = false → meth.name = y.name → Z.Warmed39 s.vm → Stand p l e rm s m as' below meth c T [] 0 0 → T.heap = h0 → own_Ends p e below s rm.cells rm.slots Qv T (entryFrame m as' maxL)) :
    MetFree l y (head1 (Jvm.Cond.code y bytes maxL ret :: ws) rm) (fun a U => a = as' ∧ Z.Warmed39 U.vm ∧ U.heap = h0) (fun _ _ _ _ _ => True) (fun _ U o U' => ∃ v L, o = .returned v ∧ Qv v U'.heap L ∧ FrameEnd U o U' L rm.cells rm.slots) := by
  refine MetFree.of_bodySF hp hisR ?_
  intro p e s m args below meth c s₁ Bd hml0 hP hK
  obtain ⟨rfl, hZ, hh⟩ := hP
  exact body p e s m below meth c s₁ Bd.exec Bd.bytes hml0 (findClass_of_methodNamed Bd.named) Bd.returns Bd.notSynchronized ((name_of_methodNamed Bd.named Bd.method).1) hZ (Stand.of_body Bd) (by rw [← hh, Bd.state]; rfl)
/-- what a callee's contract says (as' its arguments, h the heap where it is called) -/
abbrev own_Met (l : Launch) (Z : State) (y : MethodName) (bytes : ByteArray) (maxL : Nat) (ret : Option FieldType) (rm : Room) (as' : Array Value) (h : Heap) (Q : Option Value → Heap → List Loc → Prop) : Prop :=
  MetFree l y (head1 [Jvm.Cond.code y bytes maxL ret] rm) (fun a U => a = as' ∧ Z.Warmed39 U.vm ∧ U.heap = h) (fun _ _ _ _ _ => True) (fun _ U o U' => ∃ v L, o = .returned v ∧ Q v U'.heap L ∧ FrameEnd U o U' L rm.cells rm.slots)
theorem own_callS (X : Stand p l e R s m args below meth c T locs cells slots) (hx : p.tables.exec = Jvm.exec) (hZ : Z.Warmed39 s.vm) {own : String} {index : Nat} {y : MethodName} {bytes : ByteArray} {maxL : Nat} {ret : Option FieldType} {rm : Room} {as' : Array Value} {Q : Option Value → Heap → List Loc → Prop}
    (hown : s.vm.findClass own = some m.cls) (w1 : (Jvm.Cond.methodLink own index y).before a0 Z = true) (w2 : (Jvm.Cond.static y).before a0 Z = true) (w3 : (Jvm.Cond.initialized y.cls).before a0 Z = true) (w4 : (Jvm.Cond.code y bytes maxL ret).before a0 Z = true)
    (hy : y.cls ≠ "java/lang/invoke/MethodHandle" ∧ y.cls ≠ "java/lang/invoke/VarHandle") (eT : T.heap = h) (hM : own_Met l Z y bytes maxL ret rm as' h Q)
    (W : Nat) (hf : rm.frames + 1 ≤ R.frames) (hl : W + (maxL + 11) + rm.locals ≤ R.locals) (hC : cells + rm.cells ≤ R.cells) (hS : slots + rm.slots ≤ R.slots)
    {g : JFrame} (hg : g.method = m) (hsize : g.locals.size = c.maxLocals) (argsL rest : List Value) (hlen : ∀ sig, parseMethodDescriptor y.desc = some sig → argsL.length = sig.parameters.length)
    (hstack : g.stack = argsL.reverse ++ rest) (has : argsL.toArray = as') (hW : 2 * g.monitorRoom + (rest.map fun v => v.category).sum ≤ W) (hd : decode c.code g.pc = .ok (.invokestatic index, 3))
    (k : ∀ v T' h' L, Stand p l e R s m args below meth c T' (locs ++ L) (cells + rm.cells) (slots + rm.slots) → T'.heap = h' → Q v h' L → own_Ends p e below s C S Qv T' { g with pc := g.pc + 3, stack := v.toList ++ rest }) : own_Ends p e below s C S Qv T g := by
  obtain ⟨v, _, ⟨T', L', k', n'⟩, -, X', ⟨Lc, hQ, l1, y1, z1⟩, st⟩ := Jvm.LawKit.callS X hx (y := y) hown (mvT hZ w1) (mvT hZ w2) (mvT hZ w3) (mvT hZ w4) hy (backOf (W := W) hM hZ w4 w3 hf hl) (g := g) hg hsize (argsL := argsL) (rest := rest) hlen hstack hW hd (fun _ _ => ⟨has, eT, hC, hS⟩)
  dsimp only [Pt.U, Pt.locs, Pt.cells, Pt.slots] at X' l1 y1 z1 st hQ
  subst l1 y1 z1
  exact own_go _ st (k v T' _ Lc X' rfl hQ)
theorem own_callI (X : Stand p l e R s m args below meth c T locs cells slots) (hx : p.tables.exec = Jvm.exec) (hZ : Z.Warmed39 s.vm) {own : String} {index : Nat} {y : MethodName} {bytes : ByteArray} {maxL : Nat} {rm : Room} {as' : Array Value} {Q : Option Value → Heap → List Loc → Prop}
    (hown : s.vm.findClass own = some m.cls) (hy1 : y.name = "<init>") (w1 : (Jvm.Cond.methodLink own index y).before a0 Z = true) (w2 : (Jvm.Cond.instanceMethod y).before a0 Z = true) (w3 : (Jvm.Cond.initialized y.cls).before a0 Z = true) (w4 : (Jvm.Cond.code y bytes maxL none).before a0 Z = true)
    (hy : y.cls ≠ "java/lang/invoke/MethodHandle" ∧ y.cls ≠ "java/lang/invoke/VarHandle") (eT : T.heap = h) (hM : own_Met l Z y bytes maxL none rm as' h Q)
    (W : Nat) (hf : rm.frames + 1 ≤ R.frames) (hl : W + (maxL + 11) + rm.locals ≤ R.locals) (hC : cells + rm.cells ≤ R.cells) (hS : slots + rm.slots ≤ R.slots)
    {g : JFrame} (hg : g.method = m) (hsize : g.locals.size = c.maxLocals) (a : Addr) (argsL rest : List Value) (hlen : ∀ sig, parseMethodDescriptor y.desc = some sig → argsL.length = sig.parameters.length)
    (hstack : g.stack = argsL.reverse ++ .ref a :: rest) (has : (Value.ref a :: argsL).toArray = as') (hW : 2 * g.monitorRoom + (rest.map fun v => v.category).sum ≤ W) (hd : decode c.code g.pc = .ok (.invokespecial index, 3))
    (k : ∀ v T' h' L, Stand p l e R s m args below meth c T' (locs ++ L) (cells + rm.cells) (slots + rm.slots) → T'.heap = h' → Q v h' L → own_Ends p e below s C S Qv T' { g with pc := g.pc + 3, stack := v.toList ++ rest }) : own_Ends p e below s C S Qv T g := by
  obtain ⟨v, _, ⟨T', L', k', n'⟩, -, X', ⟨Lc, hQ, l1, y1, z1⟩, st⟩ := Jvm.LawKit.callI X hx (y := y) hown hy1 (mvT hZ w1) (mvT hZ w2) (mvT hZ w4) hy (backOf (W := W) hM hZ w4 w3 hf hl) (g := g) hg hsize (a := a) (argsL := argsL) (rest := rest) hlen hstack hW hd (fun _ _ => ⟨has, eT, hC, hS⟩)
  dsimp only [Pt.U, Pt.locs, Pt.cells, Pt.slots] at X' l1 y1 z1 st hQ
  subst l1 y1 z1
  exact own_go _ st (k v T' _ Lc X' rfl hQ)
theorem own_callV (X : Stand p l e R s m args below meth c T locs cells slots) (hx : p.tables.exec = Jvm.exec) (hZ : Z.Warmed39 s.vm) {own C0 : String} {index : Nat} {y : MethodName} {bytes : ByteArray} {maxL : Nat} {ret : Option FieldType} {rm : Room} {as' : Array Value} {Q : Option Value → Heap → List Loc → Prop}
    (hown : s.vm.findClass own = some m.cls) (w1 : (Jvm.Cond.methodLink own index y).before a0 Z = true) (w5 : (Jvm.Cond.declares y).before a0 Z = true) (w6 : (Jvm.Cond.selects C0 y y).before a0 Z = true) (w2 : (Jvm.Cond.instanceMethod y).before a0 Z = true) (w3 : (Jvm.Cond.initialized y.cls).before a0 Z = true) (w4 : (Jvm.Cond.code y bytes maxL ret).before a0 Z = true)
    (hy : y.cls ≠ "java/lang/invoke/MethodHandle" ∧ y.cls ≠ "java/lang/invoke/VarHandle") (eT : T.heap = h) (a : Addr) (E : Exa Z h a C0) (hM : own_Met l Z y bytes maxL ret rm as' h Q)
    (W : Nat) (hf : rm.frames + 1 ≤ R.frames) (hl : W + (maxL + 11) + rm.locals ≤ R.locals) (hC : cells + rm.cells ≤ R.cells) (hS : slots + rm.slots ≤ R.slots)
    {g : JFrame} (hg : g.method = m) (hsize : g.locals.size = c.maxLocals) (argsL rest : List Value) (hlen : ∀ sig, parseMethodDescriptor y.desc = some sig → argsL.length = sig.parameters.length)
    (hstack : g.stack = argsL.reverse ++ .ref a :: rest) (has : (Value.ref a :: argsL).toArray = as') (hW : 2 * g.monitorRoom + (rest.map fun v => v.category).sum ≤ W) (hd : decode c.code g.pc = .ok (.invokevirtual index, 3))
    (k : ∀ v T' h' L, Stand p l e R s m args below meth c T' (locs ++ L) (cells + rm.cells) (slots + rm.slots) → T'.heap = h' → Q v h' L → own_Ends p e below s C S Qv T' { g with pc := g.pc + 3, stack := v.toList ++ rest }) : own_Ends p e below s C S Qv T g := by
  obtain ⟨cq, kq, q1, q2, q3⟩ := isOf hZ eT E
  obtain ⟨v, _, ⟨T', L', k', n'⟩, -, X', ⟨Lc, hQ, l1, y1, z1⟩, st⟩ := X.virtualBack hx (y := y) (z := y) hown (mvT hZ w1) (mvT hZ w5) (notFace_of_selects (args := #[]) (mvT hZ w6)) (mvT hZ w6) (mvT hZ w2) hy (backOf (W := W) hM hZ w4 w3 hf hl) q1 q3 (g := g) hg hsize (Steps.refl _) (argsL := argsL) (rest := rest) hlen hstack hW hd (fun _ _ => ⟨has, eT, hC, hS⟩)
  dsimp only [Pt.U, Pt.locs, Pt.cells, Pt.slots] at X' l1 y1 z1 st hQ
  subst l1 y1 z1
  exact own_go _ (fun t q => st.trans q) (k v T' _ Lc X' rfl hQ)
theorem own_callP (X : Stand p l e R s m args below meth c T locs cells slots) (hx : p.tables.exec = Jvm.exec) (hZ : Z.Warmed39 s.vm) {own C0 : String} {index kk : Nat} {y : MethodName} {bytes : ByteArray} {maxL : Nat} {ret : Option FieldType} {rm : Room} {as' : Array Value} {Q : Option Value → Heap → List Loc → Prop}
    (hown : s.vm.findClass own = some m.cls) (w1 : (Jvm.Cond.methodLink own index y).before a0 Z = true) (w2 : (Jvm.Cond.instanceMethod y).before a0 Z = true) (wi : (Jvm.Cond.instantiable y.cls kk).before a0 Z = true) (w5 : (Jvm.Cond.privateMethod y).before a0 Z = true) (w3 : (Jvm.Cond.initialized y.cls).before a0 Z = true) (w4 : (Jvm.Cond.code y bytes maxL ret).before a0 Z = true)
    (hy : y.cls ≠ "java/lang/invoke/MethodHandle" ∧ y.cls ≠ "java/lang/invoke/VarHandle") (eT : T.heap = h) (a : Addr) (E : Exa Z h a C0) (hM : own_Met l Z y bytes maxL ret rm as' h Q)
    (W : Nat) (hf : rm.frames + 1 ≤ R.frames) (hl : W + (maxL + 11) + rm.locals ≤ R.locals) (hC : cells + rm.cells ≤ R.cells) (hS : slots + rm.slots ≤ R.slots)
    {g : JFrame} (hg : g.method = m) (hsize : g.locals.size = c.maxLocals) (argsL rest : List Value) (hlen : ∀ sig, parseMethodDescriptor y.desc = some sig → argsL.length = sig.parameters.length)
    (hstack : g.stack = argsL.reverse ++ .ref a :: rest) (has : (Value.ref a :: argsL).toArray = as') (hW : 2 * g.monitorRoom + (rest.map fun v => v.category).sum ≤ W) (hd : decode c.code g.pc = .ok (.invokevirtual index, 3))
    (k : ∀ v T' h' L, Stand p l e R s m args below meth c T' (locs ++ L) (cells + rm.cells) (slots + rm.slots) → T'.heap = h' → Q v h' L → own_Ends p e below s C S Qv T' { g with pc := g.pc + 3, stack := v.toList ++ rest }) : own_Ends p e below s C S Qv T g := by
  obtain ⟨cq, q1, q2⟩ := E.cell
  have hp := Cond.privateMethod_at (mvP hZ w5 (args := #[]))
  obtain ⟨c2, k2, i1, i2, i3, i4, -⟩ := Cond.instantiable_spec (mvT (args := args) hZ wi)
  have hni : k2.isInterface = false := (Bool.or_eq_false_iff.mp i4).1
  have w6 := selects_self_of_private i1 i2 hni hp (mvT (args := args) hZ w2) hy
  obtain ⟨v, _, ⟨T', L', k', n'⟩, -, X', ⟨Lc, hQ, l1, y1, z1⟩, st⟩ := X.privateBack hx (y := y) hown (mvT hZ w1) (mvT hZ w2) w6 hp (mvT hZ w4) hy (backOf (W := W) hM hZ w4 w3 hf hl) (g := g) hg hsize (Steps.refl _) (a := a) (by rw [eT]; exact q1) q2 (argsL := argsL) (rest := rest) hlen hstack hW hd (fun _ _ => ⟨has, eT, hC, hS⟩)
  dsimp only [Pt.U, Pt.locs, Pt.cells, Pt.slots] at X' l1 y1 z1 st hQ
  subst l1 y1 z1
  exact own_go _ (fun t q => st.trans q) (k v T' _ Lc X' rfl hQ)
abbrev own_rel (cd : ClassFile.Cond) (a b : Int) : Prop := match cd with | .eq => a = b | .ne => ¬ a = b | .lt => a < b | .ge => b ≤ a | .gt => b < a | .le => a ≤ b
theorem own_icT {cd : ClassFile.Cond} {x y : Int32} (h : own_rel cd x.toInt y.toInt) : if_icmp.holds cd x y = true := by
  cases cd <;> simp [own_rel] at h <;> simp [if_icmp.holds, Int32.lt_iff_toInt_lt, Int32.le_iff_toInt_le, ← Int32.toInt_inj, h]
theorem own_icF {cd : ClassFile.Cond} {x y : Int32} (h : ¬ own_rel cd x.toInt y.toInt) : if_icmp.holds cd x y = false := by
  cases cd <;> simp [own_rel] at h <;> simp [if_icmp.holds, Int32.lt_iff_toInt_lt, Int32.le_iff_toInt_le, ← Int32.toInt_inj, h]
theorem own_zT {cd : ClassFile.Cond} {x : Int32} (h : own_rel cd x.toInt 0) : ifCond.holds cd x = true := (if0 cd x).trans (own_icT h)
theorem own_zF {cd : ClassFile.Cond} {x : Int32} (h : ¬ own_rel cd x.toInt 0) : ifCond.holds cd x = false := (if0 cd x).trans (own_icF h)
theorem own_cmp (cd : ClassFile.Cond) (x y : Int64) : own_rel cd (lcmpW x y).toInt 0 ↔ own_rel cd x.toInt y.toInt := by
  have h := c_lcmp x y
  cases cd <;> simp only [own_rel] <;> omega
theorem own_lcT {cd : ClassFile.Cond} {x y : Int64} (h : own_rel cd x.toInt y.toInt) : ifCond.holds cd (lcmpW x y) = true := own_zT ((own_cmp cd x y).mpr h)
theorem own_lcF {cd : ClassFile.Cond} {x y : Int64} (h : ¬ own_rel cd x.toInt y.toInt) : ifCond.holds cd (lcmpW x y) = false := own_zF (fun q => h ((own_cmp cd x y).mp q))
theorem own_xorm1 (x : Int64) : (x ^^^ (-1 : Int64)).toInt = -x.toInt - 1 := by
  have h : x ^^^ (-1 : Int64) = ~~~x := by
    apply Int64.toBitVec_inj.mp
    show x.toBitVec ^^^ BitVec.ofInt 64 (-1) = ~~~x.toBitVec
    have : BitVec.ofInt 64 (-1) = BitVec.allOnes 64 := by decide
    rw [this, BitVec.xor_allOnes]
  rw [h, Int64.toInt_not]
  have := rng64 x
  have e : (-x.toInt - 1).bmod (2 ^ 64) = -x.toInt - 1 := by
    rw [Int.bmod_eq_of_le] <;> omega
  first | exact e | omega
theorem own_nz32 {y : Int32} (h : ¬ y.toInt = 0) : y ≠ 0 := fun q => h (by rw [q]; rfl)
theorem own_nz64 {y : Int64} (h : ¬ y.toInt = 0) : y ≠ 0 := fun q => h (by rw [q]; rfl)
theorem own_lremV (x y : Int64) : 0 ≤ x.toInt → 0 < y.toInt → 0 ≤ (x - (x / y) * y).toInt ∧ (x - (x / y) * y).toInt < y.toInt ∧ (x - (x / y) * y).toInt ≤ x.toInt := by
  intro h0 h1
  rw [(c_lrem x y y.toInt rfl).1 h0]
  refine ⟨Int.emod_nonneg _ (by omega), Int.emod_lt_of_pos _ h1, ?_⟩
  have := Int.emod_add_mul_ediv x.toInt y.toInt
  have h2 : 0 ≤ x.toInt / y.toInt := Int.ediv_nonneg h0 (by omega)
  have h3 : 0 ≤ y.toInt * (x.toInt / y.toInt) := Int.mul_nonneg (by omega) h2
  omega
theorem own_iremV (x y : Int32) : 0 ≤ x.toInt → 0 < y.toInt → 0 ≤ (x % y).toInt ∧ (x % y).toInt < y.toInt ∧ (x % y).toInt ≤ x.toInt := fun h0 h1 =>
  have h := (c_iremV x y).1 h0 h1
  ⟨h.1, h.2.1, h.2.2.1⟩
end Own
section OwnW
variable {p : Program} {l : Launch} {e : Env} {R : Room} {s : State} {m : MethodId} {args : Array Value} {below : List Frame} {meth : Method} {c : Code} {T T' : State} {locs : List Loc} {cells slots C S : Nat} {Qv : Option Value → Heap → List Loc → Prop} {Z : State} {a0 : Array Value} {h : Heap}
variable {s0 : State}
def own_EndsW (p : Program) (e : Env) (below : List Frame) (s : State) (C S : Nat) (Qv : Option Value → Heap → List Loc → Prop) (T : State) (g : JFrame) : Prop :=
  ∃ (s₂ : State) (o : Outcome), Steps p.tables e below (T.setTop g) s₂ ∧ s₂.status = .running ∧ Ended s₂ below o ∧ ∃ v L, o = .returned v ∧ Qv v s₂.heap L ∧ ReturnedEndW s o s₂ L C S
theorem own_goW {g : JFrame} (g' : JFrame) (st : ∀ t, Steps p.tables e below (T'.setTop g') t → Steps p.tables e below (T.setTop g) t) (k : own_EndsW p e below s C S Qv T' g') : own_EndsW p e below s C S Qv T g := by
  obtain ⟨s₂, o, h1, h⟩ := k
  exact ⟨s₂, o, st _ h1, h⟩
theorem own_retIW {vm₁ : Vm} (X : Stand p l e R (s.setVm vm₁) m args below meth c T locs cells slots) (hx : p.tables.exec = Jvm.exec) (hlk : meth.locks = false) {k1 : Nat} (hS' : s.Since vm₁ k1) (hk' : k1 ≤ T.heap.size) {pc : Nat} {Ls : Array Slot} {z : Int32} {rest : List Value} {t : FieldType} (hret : meth.sig.returnType = some t)
    (ht : t = .int ∨ t = .boolean ∨ t = .byte ∨ t = .char ∨ t = .short) (hn : narrow t (.int z) = .int z) (hd : decode c.code pc = .ok (.ireturn, 1)) (hC : cells ≤ C) (hS : slots ≤ S) (hQ : Qv (some (.int z)) T.heap locs) : own_EndsW p e below s C S Qv T (mkF m pc Ls (.int z :: rest)) := by
  obtain ⟨fs, hr, hrun, hended, q1, q2, q3, q4⟩ := X.leaveW hS' hk' (v := some (.int z)) (fun h => by rw [hret] at h; cases h) hlk
  exact ⟨_, _, retOut X hx hret hn (Or.inl ⟨rfl, ht, _, rfl⟩) hd hr, hrun, hended, _, locs, rfl, hQ, q1, q2, q3, q4.mono hC hS⟩
theorem own_metW {y : MethodName} {bytes : ByteArray} {maxL : Nat} {ret : Option FieldType} {ws : List Jvm.Cond} {rm : Room} {as' : Array Value} {h0 : Heap} (hp : plainFor y = true)
    (body : ∀ (p : Program) (e : Env) (s : State) (m : MethodId) (below : List Frame) (meth : Method) (c : Code) (T : State), p.tables.exec = Jvm.exec → c.code = bytes → c.maxLocals = maxL → s.vm.findClass y.cls = some m.cls → meth.sig.returnType = ret → meth.locks = false → meth.name = y.name → Z.Warmed39 s.vm → Stand p l e rm s m as' below meth c T [] 0 0 → T.heap = h0 → own_EndsW p e below s rm.cells rm.slots Qv T (entryFrame m as' maxL)) :
    MetFree l y (head1 (Jvm.Cond.code y bytes maxL ret :: ws) rm) (fun a U => a = as' ∧ Z.Warmed39 U.vm ∧ U.heap = h0) (fun _ _ _ _ _ => True) (fun _ U o U' => ∃ v L, o = .returned v ∧ Qv v U'.heap L ∧ ReturnedEndW U o U' L rm.cells rm.slots) := by
  refine MetFree.of_bodySF hp hisR ?_
  intro p e s m args below meth c s₁ Bd hml0 hP hK
  obtain ⟨rfl, hZ, hh⟩ := hP
  exact body p e s m below meth c s₁ Bd.exec Bd.bytes hml0 (findClass_of_methodNamed Bd.named) Bd.returns Bd.notSynchronized ((name_of_methodNamed Bd.named Bd.method).1) hZ (Stand.of_body Bd) (by rw [← hh, Bd.state]; rfl)
theorem own_callSW (X : Stand p l e R s m args below meth c T locs cells slots) (hx : p.tables.exec = Jvm.exec) (hZ : Z.Warmed39 s.vm) {own : String} {index : Nat} {y : MethodName} {bytes : ByteArray} {maxL : Nat} {ret : Option FieldType} {rm : Room} {as' : Array Value} {Q : Option Value → Heap → List Loc → Prop}
    (hown : s.vm.findClass own = some m.cls) (w1 : (Jvm.Cond.methodLink own index y).before a0 Z = true) (w2 : (Jvm.Cond.static y).before a0 Z = true) (w3 : (Jvm.Cond.initialized y.cls).before a0 Z = true) (w4 : (Jvm.Cond.code y bytes maxL ret).before a0 Z = true)
    (hy : y.cls ≠ "java/lang/invoke/MethodHandle" ∧ y.cls ≠ "java/lang/invoke/VarHandle") (eT : T.heap = h) (hM : own_Met l Z y bytes maxL ret rm as' h Q)
    (W : Nat) (hf : rm.frames + 1 ≤ R.frames) (hl : W + (maxL + 11) + rm.locals ≤ R.locals) (hC : cells + rm.cells ≤ R.cells) (hS : slots + rm.slots ≤ R.slots)
    {g : JFrame} (hg : g.method = m) (hsize : g.locals.size = c.maxLocals) (argsL rest : List Value) (hlen : ∀ sig, parseMethodDescriptor y.desc = some sig → argsL.length = sig.parameters.length)
    (hstack : g.stack = argsL.reverse ++ rest) (has : argsL.toArray = as') (hW : 2 * g.monitorRoom + (rest.map fun v => v.category).sum ≤ W) (hd : decode c.code g.pc = .ok (.invokestatic index, 3))
    (k : ∀ v T' h' L, Stand p l e R s m args below meth c T' (locs ++ L) (cells + rm.cells) (slots + rm.slots) → T'.heap = h' → Q v h' L → own_EndsW p e below s0 C S Qv T' { g with pc := g.pc + 3, stack := v.toList ++ rest }) : own_EndsW p e below s0 C S Qv T g := by
  obtain ⟨v, _, ⟨T', L', k', n'⟩, -, X', ⟨Lc, hQ, l1, y1, z1⟩, st⟩ := Jvm.LawKit.callS X hx (y := y) hown (mvT hZ w1) (mvT hZ w2) (mvT hZ w3) (mvT hZ w4) hy (backOf (W := W) hM hZ w4 w3 hf hl) (g := g) hg hsize (argsL := argsL) (rest := rest) hlen hstack hW hd (fun _ _ => ⟨has, eT, hC, hS⟩)
  dsimp only [Pt.U, Pt.locs, Pt.cells, Pt.slots] at X' l1 y1 z1 st hQ
  subst l1 y1 z1
  exact own_goW _ st (k v T' _ Lc X' rfl hQ)
theorem own_callIW (X : Stand p l e R s m args below meth c T locs cells slots) (hx : p.tables.exec = Jvm.exec) (hZ : Z.Warmed39 s.vm) {own : String} {index : Nat} {y : MethodName} {bytes : ByteArray} {maxL : Nat} {rm : Room} {as' : Array Value} {Q : Option Value → Heap → List Loc → Prop}
    (hown : s.vm.findClass own = some m.cls) (hy1 : y.name = "<init>") (w1 : (Jvm.Cond.methodLink own index y).before a0 Z = true) (w2 : (Jvm.Cond.instanceMethod y).before a0 Z = true) (w3 : (Jvm.Cond.initialized y.cls).before a0 Z = true) (w4 : (Jvm.Cond.code y bytes maxL none).before a0 Z = true)
    (hy : y.cls ≠ "java/lang/invoke/MethodHandle" ∧ y.cls ≠ "java/lang/invoke/VarHandle") (eT : T.heap = h) (hM : own_Met l Z y bytes maxL none rm as' h Q)
    (W : Nat) (hf : rm.frames + 1 ≤ R.frames) (hl : W + (maxL + 11) + rm.locals ≤ R.locals) (hC : cells + rm.cells ≤ R.cells) (hS : slots + rm.slots ≤ R.slots)
    {g : JFrame} (hg : g.method = m) (hsize : g.locals.size = c.maxLocals) (a : Addr) (argsL rest : List Value) (hlen : ∀ sig, parseMethodDescriptor y.desc = some sig → argsL.length = sig.parameters.length)
    (hstack : g.stack = argsL.reverse ++ .ref a :: rest) (has : (Value.ref a :: argsL).toArray = as') (hW : 2 * g.monitorRoom + (rest.map fun v => v.category).sum ≤ W) (hd : decode c.code g.pc = .ok (.invokespecial index, 3))
    (k : ∀ v T' h' L, Stand p l e R s m args below meth c T' (locs ++ L) (cells + rm.cells) (slots + rm.slots) → T'.heap = h' → Q v h' L → own_EndsW p e below s0 C S Qv T' { g with pc := g.pc + 3, stack := v.toList ++ rest }) : own_EndsW p e below s0 C S Qv T g := by
  obtain ⟨v, _, ⟨T', L', k', n'⟩, -, X', ⟨Lc, hQ, l1, y1, z1⟩, st⟩ := Jvm.LawKit.callI X hx (y := y) hown hy1 (mvT hZ w1) (mvT hZ w2) (mvT hZ w4) hy (backOf (W := W) hM hZ w4 w3 hf hl) (g := g) hg hsize (a := a) (argsL := argsL) (rest := rest) hlen hstack hW hd (fun _ _ => ⟨has, eT, hC, hS⟩)
  dsimp only [Pt.U, Pt.locs, Pt.cells, Pt.slots] at X' l1 y1 z1 st hQ
  subst l1 y1 z1
  exact own_goW _ st (k v T' _ Lc X' rfl hQ)
theorem own_callVW (X : Stand p l e R s m args below meth c T locs cells slots) (hx : p.tables.exec = Jvm.exec) (hZ : Z.Warmed39 s.vm) {own C0 : String} {index : Nat} {y : MethodName} {bytes : ByteArray} {maxL : Nat} {ret : Option FieldType} {rm : Room} {as' : Array Value} {Q : Option Value → Heap → List Loc → Prop}
    (hown : s.vm.findClass own = some m.cls) (w1 : (Jvm.Cond.methodLink own index y).before a0 Z = true) (w5 : (Jvm.Cond.declares y).before a0 Z = true) (w6 : (Jvm.Cond.selects C0 y y).before a0 Z = true) (w2 : (Jvm.Cond.instanceMethod y).before a0 Z = true) (w3 : (Jvm.Cond.initialized y.cls).before a0 Z = true) (w4 : (Jvm.Cond.code y bytes maxL ret).before a0 Z = true)
    (hy : y.cls ≠ "java/lang/invoke/MethodHandle" ∧ y.cls ≠ "java/lang/invoke/VarHandle") (eT : T.heap = h) (a : Addr) (E : Exa Z h a C0) (hM : own_Met l Z y bytes maxL ret rm as' h Q)
    (W : Nat) (hf : rm.frames + 1 ≤ R.frames) (hl : W + (maxL + 11) + rm.locals ≤ R.locals) (hC : cells + rm.cells ≤ R.cells) (hS : slots + rm.slots ≤ R.slots)
    {g : JFrame} (hg : g.method = m) (hsize : g.locals.size = c.maxLocals) (argsL rest : List Value) (hlen : ∀ sig, parseMethodDescriptor y.desc = some sig → argsL.length = sig.parameters.length)
    (hstack : g.stack = argsL.reverse ++ .ref a :: rest) (has : (Value.ref a :: argsL).toArray = as') (hW : 2 * g.monitorRoom + (rest.map fun v => v.category).sum ≤ W) (hd : decode c.code g.pc = .ok (.invokevirtual index, 3))
    (k : ∀ v T' h' L, Stand p l e R s m args below meth c T' (locs ++ L) (cells + rm.cells) (slots + rm.slots) → T'.heap = h' → Q v h' L → own_EndsW p e below s0 C S Qv T' { g with pc := g.pc + 3, stack := v.toList ++ rest }) : own_EndsW p e below s0 C S Qv T g := by
  obtain ⟨cq, kq, q1, q2, q3⟩ := isOf hZ eT E
  obtain ⟨v, _, ⟨T', L', k', n'⟩, -, X', ⟨Lc, hQ, l1, y1, z1⟩, st⟩ := X.virtualBack hx (y := y) (z := y) hown (mvT hZ w1) (mvT hZ w5) (notFace_of_selects (args := #[]) (mvT hZ w6)) (mvT hZ w6) (mvT hZ w2) hy (backOf (W := W) hM hZ w4 w3 hf hl) q1 q3 (g := g) hg hsize (Steps.refl _) (argsL := argsL) (rest := rest) hlen hstack hW hd (fun _ _ => ⟨has, eT, hC, hS⟩)
  dsimp only [Pt.U, Pt.locs, Pt.cells, Pt.slots] at X' l1 y1 z1 st hQ
  subst l1 y1 z1
  exact own_goW _ (fun t q => st.trans q) (k v T' _ Lc X' rfl hQ)
theorem own_callPW (X : Stand p l e R s m args below meth c T locs cells slots) (hx : p.tables.exec = Jvm.exec) (hZ : Z.Warmed39 s.vm) {own C0 : String} {index kk : Nat} {y : MethodName} {bytes : ByteArray} {maxL : Nat} {ret : Option FieldType} {rm : Room} {as' : Array Value} {Q : Option Value → Heap → List Loc → Prop}
    (hown : s.vm.findClass own = some m.cls) (w1 : (Jvm.Cond.methodLink own index y).before a0 Z = true) (w2 : (Jvm.Cond.instanceMethod y).before a0 Z = true) (wi : (Jvm.Cond.instantiable y.cls kk).before a0 Z = true) (w5 : (Jvm.Cond.privateMethod y).before a0 Z = true) (w3 : (Jvm.Cond.initialized y.cls).before a0 Z = true) (w4 : (Jvm.Cond.code y bytes maxL ret).before a0 Z = true)
    (hy : y.cls ≠ "java/lang/invoke/MethodHandle" ∧ y.cls ≠ "java/lang/invoke/VarHandle") (eT : T.heap = h) (a : Addr) (E : Exa Z h a C0) (hM : own_Met l Z y bytes maxL ret rm as' h Q)
    (W : Nat) (hf : rm.frames + 1 ≤ R.frames) (hl : W + (maxL + 11) + rm.locals ≤ R.locals) (hC : cells + rm.cells ≤ R.cells) (hS : slots + rm.slots ≤ R.slots)
    {g : JFrame} (hg : g.method = m) (hsize : g.locals.size = c.maxLocals) (argsL rest : List Value) (hlen : ∀ sig, parseMethodDescriptor y.desc = some sig → argsL.length = sig.parameters.length)
    (hstack : g.stack = argsL.reverse ++ .ref a :: rest) (has : (Value.ref a :: argsL).toArray = as') (hW : 2 * g.monitorRoom + (rest.map fun v => v.category).sum ≤ W) (hd : decode c.code g.pc = .ok (.invokevirtual index, 3))
    (k : ∀ v T' h' L, Stand p l e R s m args below meth c T' (locs ++ L) (cells + rm.cells) (slots + rm.slots) → T'.heap = h' → Q v h' L → own_EndsW p e below s0 C S Qv T' { g with pc := g.pc + 3, stack := v.toList ++ rest }) : own_EndsW p e below s0 C S Qv T g := by
  obtain ⟨cq, q1, q2⟩ := E.cell
  have hp := Cond.privateMethod_at (mvP hZ w5 (args := #[]))
  obtain ⟨c2, k2, i1, i2, i3, i4, -⟩ := Cond.instantiable_spec (mvT (args := args) hZ wi)
  have hni : k2.isInterface = false := (Bool.or_eq_false_iff.mp i4).1
  have w6 := selects_self_of_private i1 i2 hni hp (mvT (args := args) hZ w2) hy
  obtain ⟨v, _, ⟨T', L', k', n'⟩, -, X', ⟨Lc, hQ, l1, y1, z1⟩, st⟩ := X.privateBack hx (y := y) hown (mvT hZ w1) (mvT hZ w2) w6 hp (mvT hZ w4) hy (backOf (W := W) hM hZ w4 w3 hf hl) (g := g) hg hsize (Steps.refl _) (a := a) (by rw [eT]; exact q1) q2 (argsL := argsL) (rest := rest) hlen hstack hW hd (fun _ _ => ⟨has, eT, hC, hS⟩)
  dsimp only [Pt.U, Pt.locs, Pt.cells, Pt.slots] at X' l1 y1 z1 st hQ
  subst l1 y1 z1
  exact own_goW _ (fun t q => st.trans q) (k v T' _ Lc X' rfl hQ)
theorem own_callVS (X : Stand p l e R s m args below meth c T locs cells slots) (hx : p.tables.exec = Jvm.exec) (hZ : Z.Warmed39 s.vm) {own C0 : String} {index : Nat} {y : MethodName} {bytes : ByteArray} {maxL : Nat} {ret : Option FieldType} {rm : Room} {as' : Array Value} {Q : Option Value → Heap → List Loc → Prop}
    (hown : s.vm.findClass own = some m.cls) (w1 : (Jvm.Cond.methodLink own index y).before a0 Z = true) (w5 : (Jvm.Cond.declares y).before a0 Z = true) (w6 : (Jvm.Cond.selects C0 y y).before a0 Z = true) (w2 : (Jvm.Cond.instanceMethod y).before a0 Z = true) (w3 : (Jvm.Cond.initialized y.cls).before a0 Z = true) (w4 : (Jvm.Cond.code y bytes maxL ret).before a0 Z = true)
    (hy : y.cls ≠ "java/lang/invoke/MethodHandle" ∧ y.cls ≠ "java/lang/invoke/VarHandle") (eT : T.heap = h) (a : Addr) (E : Exa Z h a C0)
    (hM : MetFree l y (head1 [Jvm.Cond.code y bytes maxL ret] rm) (fun a U => a = as' ∧ Z.Warmed39 U.vm ∧ U.heap = h) (fun _ _ _ _ _ => True) (fun _ U o U' => ∃ v L, o = .returned v ∧ Q v U'.heap L ∧ ReturnedEndW U o U' L rm.cells rm.slots))
    (W : Nat) (hf : rm.frames + 1 ≤ R.frames) (hl : W + (maxL + 11) + rm.locals ≤ R.locals) (hC : cells + rm.cells ≤ R.cells) (hS : slots + rm.slots ≤ R.slots)
    {g : JFrame} (hg : g.method = m) (hsize : g.locals.size = c.maxLocals) (argsL rest : List Value) (hlen : ∀ sig, parseMethodDescriptor y.desc = some sig → argsL.length = sig.parameters.length)
    (hstack : g.stack = argsL.reverse ++ .ref a :: rest) (has : (Value.ref a :: argsL).toArray = as') (hW : 2 * g.monitorRoom + (rest.map fun v => v.category).sum ≤ W) (hd : decode c.code g.pc = .ok (.invokevirtual index, 3))
    (k : ∀ v T' h' L, Stand p l e R (s.setVm T'.vm) m args below meth c T' (locs ++ L) (cells + rm.cells) (slots + rm.slots) → T'.heap = h' → s.Since T'.vm h'.size → Q v h' L → own_EndsW p e below s C S Qv T' { g with pc := g.pc + 3, stack := v.toList ++ rest }) : own_EndsW p e below s C S Qv T g := by
  obtain ⟨cq, kq, q1, q2, q3⟩ := isOf hZ eT E
  obtain ⟨v, _, ⟨T', L', k', n'⟩, -, X', hSi, -, ⟨Lc, hQ, l1, y1, z1⟩, st⟩ := X.virtualBackS hx (y := y) (z := y) hown (mvT hZ w1) (mvT hZ w5) (notFace_of_selects (args := #[]) (mvT hZ w6)) (mvT hZ w6) (mvT hZ w2) hy (backOfS (W := W) hM hZ w4 w3 hf hl) q1 q3 (g := g) hg hsize (Steps.refl _) (argsL := argsL) (rest := rest) hlen hstack hW hd (fun _ _ => ⟨has, eT, hC, hS⟩)
  dsimp only [Pt.U, Pt.locs, Pt.cells, Pt.slots] at X' hSi l1 y1 z1 st hQ
  subst l1 y1 z1
  exact own_goW _ (fun t q => st.trans q) (k v T' _ Lc X' rfl hSi hQ)
end OwnW
theorem dR_0 : decode jdk_30_method_1_code 0 = .ok (.aload_n 0, 1) := by decide +kernel
theorem dR_1 : decode jdk_30_method_1_code 1 = .ok (.invokespecial 1, 3) := by decide +kernel
theorem dR_4 : decode jdk_30_method_1_code 4 = .ok (.return_, 1) := by decide +kernel
theorem pfR : plainFor (⟨"java/lang/Record", "<init>", "()V"⟩ : MethodName) = true := by decide +kernel
set_option maxHeartbeats 4000000 in
theorem efR (m : MethodId) (a : Addr) : entryFrame m #[(.ref a)] 1 = (mkF m 0 #[.val (.ref a)] []) := by first | (simp [entryFrame, mkF, argsToLocals, Value.category, maxLocals]; done) | rfl
def QR (Z : State) (a : Addr) (h0 : Heap) (n0 : Nat) (v : Option Value) (h : Heap) (L : List Loc) : Prop := v = none ∧ Fr n0 L ∧ h = h0
set_option maxRecDepth 65536 in
set_option maxHeartbeats 40000000 in
theorem rmR (l : Launch) (Z : State) (a0 : Array Value) (hw : ∀ d ∈ tables_1, d.before a0 Z = true) (ws : List Jvm.Cond) (a : Addr) (h0 : Heap) (n0 : Nat) (Z0 : n0 ≤ h0.size) :
    MetFree l (⟨"java/lang/Record", "<init>", "()V"⟩ : MethodName) (head1 (Jvm.Cond.code (⟨"java/lang/Record", "<init>", "()V"⟩ : MethodName) jdk_30_method_1_code 1 none :: ws) ({ frames := 1, cells := 0, slots := 0, locals := 12 } : Room)) (fun aa U => aa = #[(.ref a)] ∧ Z.Warmed39 U.vm ∧ U.heap = h0) (fun _ _ _ _ _ => True) (fun _ U o U' => ∃ v L, o = .returned v ∧ QR Z a h0 n0 v U'.heap L ∧ FrameEnd U o U' L ({ frames := 1, cells := 0, slots := 0, locals := 12 } : Room).cells ({ frames := 1, cells := 0, slots := 0, locals := 12 } : Room).slots) := by
  refine own_met pfR ?_
  intro p e s m below meth c T0 hx hby hml hown hret hlk hnm hZ X0 e0
  have N0 := Fr.nil n0
  rw [efR]
  refine own_go (mkF m 1 #[.val (.ref a)] [(.ref a)]) (fun t k => XS.aloadN X0.here hx rfl (hb hby dR_0) rfl rfl k) ?_
  obtain ⟨T1, X1, e1, st1⟩ := initO X0 hx hZ hown (hw _ (List.mem_of_getElem? (i := 12) rfl)) (hw _ (List.mem_of_getElem? (i := 13) rfl)) (hw _ (List.mem_of_getElem? (i := 14) rfl)) e0 (g := (mkF m 1 #[.val (.ref a)] [(.ref a)])) rfl (by rw [hml]; rfl) rfl (hb hby dR_1) (by decide) (W := 0) (by show 2 * 0 + _ ≤ _; exact Nat.le_of_eq rfl) (by decide)
  refine own_go (T' := T1) (mkF m 4 #[.val (.ref a)] []) st1 ?_
  refine own_ret0 X1 hx hlk hret (hb hby dR_4) (by decide) (by decide) ?_
  rw [e1]
  exact ⟨rfl, N0, rfl⟩
theorem d1_0 : decode prog_1_method_1_code 0 = .ok (.aload_n 0, 1) := by decide +kernel
theorem d1_1 : decode prog_1_method_1_code 1 = .ok (.invokespecial 1, 3) := by decide +kernel
theorem d1_4 : decode prog_1_method_1_code 4 = .ok (.lload_n 1, 1) := by decide +kernel
theorem d1_5 : decode prog_1_method_1_code 5 = .ok (.lconst 0, 1) := by decide +kernel
theorem d1_6 : decode prog_1_method_1_code 6 = .ok (.lcmp, 1) := by decide +kernel
theorem d1_7 : decode prog_1_method_1_code 7 = .ok (.ifCond .ge 17, 3) := by decide +kernel
theorem d1_24 : decode prog_1_method_1_code 24 = .ok (.lload_n 1, 1) := by decide +kernel
theorem d1_25 : decode prog_1_method_1_code 25 = .ok (.lconst 0, 1) := by decide +kernel
theorem d1_26 : decode prog_1_method_1_code 26 = .ok (.lcmp, 1) := by decide +kernel
theorem d1_27 : decode prog_1_method_1_code 27 = .ok (.ifCond .ne 7, 3) := by decide +kernel
theorem d1_30 : decode prog_1_method_1_code 30 = .ok (.lconst 0, 1) := by decide +kernel
theorem d1_31 : decode prog_1_method_1_code 31 = .ok (.goto 4, 3) := by decide +kernel
theorem d1_34 : decode prog_1_method_1_code 34 = .ok (.lconst 1, 1) := by decide +kernel
theorem d1_35 : decode prog_1_method_1_code 35 = .ok (.lstore 5, 2) := by decide +kernel
theorem d1_37 : decode prog_1_method_1_code 37 = .ok (.lload_n 3, 1) := by decide +kernel
theorem d1_38 : decode prog_1_method_1_code 38 = .ok (.lload 5, 2) := by decide +kernel
theorem d1_40 : decode prog_1_method_1_code 40 = .ok (.lcmp, 1) := by decide +kernel
theorem d1_41 : decode prog_1_method_1_code 41 = .ok (.ifCond .lt 9, 3) := by decide +kernel
theorem d1_44 : decode prog_1_method_1_code 44 = .ok (.lload_n 3, 1) := by decide +kernel
theorem d1_45 : decode prog_1_method_1_code 45 = .ok (.lload_n 1, 1) := by decide +kernel
theorem d1_46 : decode prog_1_method_1_code 46 = .ok (.lcmp, 1) := by decide +kernel
theorem d1_47 : decode prog_1_method_1_code 47 = .ok (.ifCond .le 42, 3) := by decide +kernel
theorem d1_89 : decode prog_1_method_1_code 89 = .ok (.aload_n 0, 1) := by decide +kernel
theorem d1_90 : decode prog_1_method_1_code 90 = .ok (.lload_n 1, 1) := by decide +kernel
theorem d1_91 : decode prog_1_method_1_code 91 = .ok (.putfield 32, 3) := by decide +kernel
theorem d1_94 : decode prog_1_method_1_code 94 = .ok (.aload_n 0, 1) := by decide +kernel
theorem d1_95 : decode prog_1_method_1_code 95 = .ok (.lload_n 3, 1) := by decide +kernel
theorem d1_96 : decode prog_1_method_1_code 96 = .ok (.putfield 38, 3) := by decide +kernel
theorem d1_99 : decode prog_1_method_1_code 99 = .ok (.return_, 1) := by decide +kernel
theorem pd1_0 : parseMethodDescriptor "()V" = some ⟨[], none⟩ := by decide +kernel
theorem pf1 : plainFor (⟨"com/example/libsluice/libsluice/ByteLimit", "<init>", "(JJ)V"⟩ : MethodName) = true := by decide +kernel
set_option maxHeartbeats 4000000 in
theorem ef1 (m : MethodId) (a : Addr) (q1 : Int64) (q2 : Int64) : entryFrame m #[(.ref a), (.long q1), (.long q2)] 7 = (mkF m 0 #[.val (.ref a), .val (.long q1), .second, .val (.long q2), .second, .unset, .unset] []) := by first | (simp [entryFrame, mkF, argsToLocals, Value.category, maxLocals]; done) | rfl
def Q1 (Z : State) (a : Addr) (q1 : Int64) (q2 : Int64) (h0 : Heap) (n0 : Nat) (v : Option Value) (h : Heap) (L : List Loc) : Prop := v = none ∧ Fr n0 L ∧ Keep h0 h [a] ∧ Exa Z h a "com/example/libsluice/libsluice/ByteLimit" ∧ Fld Z h a "com/example/libsluice/libsluice/ByteLimit" "capacity" "J" (.long q1) ∧ Fld Z h a "com/example/libsluice/libsluice/ByteLimit" "resumeMark" "J" (.long q2)
set_option maxRecDepth 65536 in
set_option maxHeartbeats 40000000 in
theorem rm1 (l : Launch) (Z : State) (a0 : Array Value) (hw : ∀ d ∈ tables_1, d.before a0 Z = true) (ws : List Jvm.Cond) (a : Addr) (q1 : Int64) (q2 : Int64) (h0 : Heap) (n0 : Nat) (Z0 : n0 ≤ h0.size) (E_a : Exa Z h0 a "com/example/libsluice/libsluice/ByteLimit") (F_capacity_a : Fld Z h0 a "com/example/libsluice/libsluice/ByteLimit" "capacity" "J" (.long (0 : Int64))) (F_resumeMark_a : Fld Z h0 a "com/example/libsluice/libsluice/ByteLimit" "resumeMark" "J" (.long (0 : Int64))) (g_a : n0 ≤ a) (hp : 0 ≤ q1.toInt ∧ (q1.toInt = 0 → q2.toInt = 0) ∧ (¬ q1.toInt = 0 → 1 ≤ q2.toInt ∧ q2.toInt ≤ q1.toInt)) :
    MetFree l (⟨"com/example/libsluice/libsluice/ByteLimit", "<init>", "(JJ)V"⟩ : MethodName) (head1 (Jvm.Cond.code (⟨"com/example/libsluice/libsluice/ByteLimit", "<init>", "(JJ)V"⟩ : MethodName) prog_1_method_1_code 7 none :: ws) ({ frames := 2, cells := 0, slots := 0, locals := 24 } : Room)) (fun aa U => aa = #[(.ref a), (.long q1), (.long q2)] ∧ Z.Warmed39 U.vm ∧ U.heap = h0) (fun _ _ _ _ _ => True) (fun _ U o U' => ∃ v L, o = .returned v ∧ Q1 Z a q1 q2 h0 n0 v U'.heap L ∧ FrameEnd U o U' L ({ frames := 2, cells := 0, slots := 0, locals := 24 } : Room).cells ({ frames := 2, cells := 0, slots := 0, locals := 24 } : Room).slots) := by
  refine own_met pf1 ?_
  intro p e s m below meth c T0 hx hby hml hown hret hlk hnm hZ X0 e0
  have N0 := Fr.nil n0
  have K0 := Keep.refl h0 [a]
  have r_q1 := rng64 q1
  have r_q2 := rng64 q2
  rw [ef1]
  refine own_go (mkF m 1 #[.val (.ref a), .val (.long q1), .second, .val (.long q2), .second, .unset, .unset] [(.ref a)]) (fun t k => XS.aloadN X0.here hx rfl (hb hby d1_0) rfl rfl k) ?_
  refine own_callI X0 hx hZ (y := (⟨"java/lang/Record", "<init>", "()V"⟩ : MethodName)) hown rfl (hw _ (List.mem_of_getElem? (i := 7) rfl)) (hw _ (List.mem_of_getElem? (i := 8) rfl)) (hw _ (List.mem_of_getElem? (i := 10) rfl)) (hw _ (List.mem_of_getElem? (i := 11) rfl)) (by decide) e0 (rmR l Z a0 hw [] a h0 n0 Z0) 0 (by decide) (by decide) (by decide) (by decide) (g := (mkF m 1 #[.val (.ref a), .val (.long q1), .second, .val (.long q2), .second, .unset, .unset] [(.ref a)])) rfl (by rw [hml]; rfl) a [] [] (lenOf pd1_0 rfl) rfl rfl (by show 2 * 0 + _ ≤ _; exact Nat.le_of_eq rfl) (hb hby d1_1) ?_
  intro rv1 T1 h1 L1 X1 e1 hQ1
  obtain ⟨rfl, NQ1, eq1⟩ := hQ1
  rw [eq1] at e1
  have N1 := Fr.app N0 NQ1
  show own_Ends p e below s ({ frames := 2, cells := 0, slots := 0, locals := 24 } : Room).cells ({ frames := 2, cells := 0, slots := 0, locals := 24 } : Room).slots (Q1 Z a q1 q2 h0 n0) T1 (mkF m 4 #[.val (.ref a), .val (.long q1), .second, .val (.long q2), .second, .unset, .unset] [])
  refine own_go (mkF m 5 #[.val (.ref a), .val (.long q1), .second, .val (.long q2), .second, .unset, .unset] [(.long q1)]) (fun t k => XS.lloadN X1.here hx rfl (hb hby d1_4) rfl k) ?_
  refine own_go (mkF m 6 #[.val (.ref a), .val (.long q1), .second, .val (.long q2), .second, .unset, .unset] [(.long (0 : Int64)), (.long q1)]) (fun t k => XS.lconst X1.here hx rfl (hb hby d1_5) k) ?_
  refine own_go (mkF m 7 #[.val (.ref a), .val (.long q1), .second, .val (.long q2), .second, .unset, .unset] [(.int (lcmpW q1 (0 : Int64)))]) (fun t k => XS.lcmp X1.here hx rfl (hb hby d1_6) rfl k) ?_
  have c7 : 0 ≤ q1.toInt := by omega
  refine own_go (mkF m 24 #[.val (.ref a), .val (.long q1), .second, .val (.long q2), .second, .unset, .unset] []) (fun t k => XS.ifYes X1.here hx rfl (pc0 := 7) (pc' := 24) rfl (hb hby d1_7) rfl (own_lcT (cd := .ge) c7) (by decide) (by decide) k) ?_
  refine own_go (mkF m 25 #[.val (.ref a), .val (.long q1), .second, .val (.long q2), .second, .unset, .unset] [(.long q1)]) (fun t k => XS.lloadN X1.here hx rfl (hb hby d1_24) rfl k) ?_
  refine own_go (mkF m 26 #[.val (.ref a), .val (.long q1), .second, .val (.long q2), .second, .unset, .unset] [(.long (0 : Int64)), (.long q1)]) (fun t k => XS.lconst X1.here hx rfl (hb hby d1_25) k) ?_
  refine own_go (mkF m 27 #[.val (.ref a), .val (.long q1), .second, .val (.long q2), .second, .unset, .unset] [(.int (lcmpW q1 (0 : Int64)))]) (fun t k => XS.lcmp X1.here hx rfl (hb hby d1_26) rfl k) ?_
  by_cases c27 : q1.toInt = 0
  · skip
    refine own_go (mkF m 30 #[.val (.ref a), .val (.long q1), .second, .val (.long q2), .second, .unset, .unset] []) (fun t k => XS.ifNo X1.here hx rfl (hb hby d1_27) rfl (own_lcF (cd := .ne) (fun q => q c27)) k) ?_
    refine own_go (mkF m 31 #[.val (.ref a), .val (.long q1), .second, .val (.long q2), .second, .unset, .unset] [(.long (0 : Int64))]) (fun t k => XS.lconst X1.here hx rfl (hb hby d1_30) k) ?_
    refine own_go (mkF m 35 #[.val (.ref a), .val (.long q1), .second, .val (.long q2), .second, .unset, .unset] [(.long (0 : Int64))]) (fun t k => XS.goto X1.here hx rfl (pc0 := 31) (pc' := 35) rfl (hb hby d1_31) (by decide) (by decide) k) ?_
    refine own_go (mkF m 37 #[.val (.ref a), .val (.long q1), .second, .val (.long q2), .second, .val (.long (0 : Int64)), .second] []) (fun t k => XS.lstore X1.here hx rfl (hb hby d1_35) rfl (l' := #[.val (.ref a), .val (.long q1), .second, .val (.long q2), .second, .val (.long (0 : Int64)), .second]) rfl k) ?_
    refine own_go (mkF m 38 #[.val (.ref a), .val (.long q1), .second, .val (.long q2), .second, .val (.long (0 : Int64)), .second] [(.long q2)]) (fun t k => XS.lloadN X1.here hx rfl (hb hby d1_37) rfl k) ?_
    refine own_go (mkF m 40 #[.val (.ref a), .val (.long q1), .second, .val (.long q2), .second, .val (.long (0 : Int64)), .second] [(.long (0 : Int64)), (.long q2)]) (fun t k => XS.lload X1.here hx rfl (hb hby d1_38) rfl k) ?_
    refine own_go (mkF m 41 #[.val (.ref a), .val (.long q1), .second, .val (.long q2), .second, .val (.long (0 : Int64)), .second] [(.int (lcmpW q2 (0 : Int64)))]) (fun t k => XS.lcmp X1.here hx rfl (hb hby d1_40) rfl k) ?_
    have c41 : ¬ (q2.toInt < 0) := by omega
    refine own_go (mkF m 44 #[.val (.ref a), .val (.long q1), .second, .val (.long q2), .second, .val (.long (0 : Int64)), .second] []) (fun t k => XS.ifNo X1.here hx rfl (hb hby d1_41) rfl (own_lcF (cd := .lt) c41) k) ?_
    refine own_go (mkF m 45 #[.val (.ref a), .val (.long q1), .second, .val (.long q2), .second, .val (.long (0 : Int64)), .second] [(.long q2)]) (fun t k => XS.lloadN X1.here hx rfl (hb hby d1_44) rfl k) ?_
    refine own_go (mkF m 46 #[.val (.ref a), .val (.long q1), .second, .val (.long q2), .second, .val (.long (0 : Int64)), .second] [(.long q1), (.long q2)]) (fun t k => XS.lloadN X1.here hx rfl (hb hby d1_45) rfl k) ?_
    refine own_go (mkF m 47 #[.val (.ref a), .val (.long q1), .second, .val (.long q2), .second, .val (.long (0 : Int64)), .second] [(.int (lcmpW q2 q1))]) (fun t k => XS.lcmp X1.here hx rfl (hb hby d1_46) rfl k) ?_
    have c47 : q2.toInt ≤ q1.toInt := by omega
    refine own_go (mkF m 89 #[.val (.ref a), .val (.long q1), .second, .val (.long q2), .second, .val (.long (0 : Int64)), .second] []) (fun t k => XS.ifYes X1.here hx rfl (pc0 := 47) (pc' := 89) rfl (hb hby d1_47) rfl (own_lcT (cd := .le) c47) (by decide) (by decide) k) ?_
    refine own_go (mkF m 90 #[.val (.ref a), .val (.long q1), .second, .val (.long q2), .second, .val (.long (0 : Int64)), .second] [(.ref a)]) (fun t k => XS.aloadN X1.here hx rfl (hb hby d1_89) rfl rfl k) ?_
    refine own_go (mkF m 91 #[.val (.ref a), .val (.long q1), .second, .val (.long q2), .second, .val (.long (0 : Int64)), .second] [(.long q1), (.ref a)]) (fun t k => XS.lloadN X1.here hx rfl (hb hby d1_90) rfl k) ?_
    obtain ⟨T91, h91, X91, e91, W91, st91⟩ := putF X1 hx hZ hown (host := "") (Or.inl (hw _ (List.mem_of_getElem? (i := 15) rfl))) Via.refl e1 F_capacity_a E_a (Or.inr ⟨(hw _ (List.mem_of_getElem? (i := 16) rfl)), rfl, hnm⟩) (hw _ (List.mem_of_getElem? (i := 2) rfl)) (ty := .long) (by decide) rfl rfl (g := (mkF m 91 #[.val (.ref a), .val (.long q1), .second, .val (.long q2), .second, .val (.long (0 : Int64)), .second] [(.long q1), (.ref a)])) rfl rfl (hb hby d1_91)
    have N91 := Fr.snoc X91 N1 g_a
    have E_a_91 := E_a.wr W91
    have K0_91 := K0.wr W91 (Or.inl (List.mem_cons_self ..))
    have F_capacity_a_91 := F_capacity_a.same W91
    have F_resumeMark_a_91 := F_resumeMark_a.other W91 (Or.inr (slot_ne (Or.inr (hw _ (List.mem_of_getElem? (i := 18) rfl))) (Or.inr (hw _ (List.mem_of_getElem? (i := 16) rfl))) (by decide) (t := .long) (t' := .long) (by decide) (by decide)))
    have Z0_91 : n0 ≤ h91.size := by rw [W91.size]; exact Z0
    refine own_go (T' := T91) (mkF m 94 #[.val (.ref a), .val (.long q1), .second, .val (.long q2), .second, .val (.long (0 : Int64)), .second] []) st91 ?_
    refine own_go (mkF m 95 #[.val (.ref a), .val (.long q1), .second, .val (.long q2), .second, .val (.long (0 : Int64)), .second] [(.ref a)]) (fun t k => XS.aloadN X91.here hx rfl (hb hby d1_94) rfl rfl k) ?_
    refine own_go (mkF m 96 #[.val (.ref a), .val (.long q1), .second, .val (.long q2), .second, .val (.long (0 : Int64)), .second] [(.long q2), (.ref a)]) (fun t k => XS.lloadN X91.here hx rfl (hb hby d1_95) rfl k) ?_
    obtain ⟨T96, h96, X96, e96, W96, st96⟩ := putF X91 hx hZ hown (host := "") (Or.inl (hw _ (List.mem_of_getElem? (i := 17) rfl))) Via.refl e91 F_resumeMark_a_91 E_a_91 (Or.inr ⟨(hw _ (List.mem_of_getElem? (i := 18) rfl)), rfl, hnm⟩) (hw _ (List.mem_of_getElem? (i := 2) rfl)) (ty := .long) (by decide) rfl rfl (g := (mkF m 96 #[.val (.ref a), .val (.long q1), .second, .val (.long q2), .second, .val (.long (0 : Int64)), .second] [(.long q2), (.ref a)])) rfl rfl (hb hby d1_96)
    have N96 := Fr.snoc X96 N91 g_a
    have E_a_96 := E_a_91.wr W96
    have K0_96 := K0_91.wr W96 (Or.inl (List.mem_cons_self ..))
    have F_capacity_a_96 := F_capacity_a_91.other W96 (Or.inr (slot_ne (Or.inr (hw _ (List.mem_of_getElem? (i := 16) rfl))) (Or.inr (hw _ (List.mem_of_getElem? (i := 18) rfl))) (by decide) (t := .long) (t' := .long) (by decide) (by decide)))
    have F_resumeMark_a_96 := F_resumeMark_a_91.same W96
    have Z0_96 : n0 ≤ h96.size := by rw [W96.size]; exact Z0_91
    refine own_go (T' := T96) (mkF m 99 #[.val (.ref a), .val (.long q1), .second, .val (.long q2), .second, .val (.long (0 : Int64)), .second] []) st96 ?_
    refine own_ret0 X96 hx hlk hret (hb hby d1_99) (by decide) (by decide) ?_
    rw [e96]
    exact ⟨rfl, N96, K0_96, E_a_96, F_capacity_a_96, F_resumeMark_a_96⟩
  · skip
    refine own_go (mkF m 34 #[.val (.ref a), .val (.long q1), .second, .val (.long q2), .second, .unset, .unset] []) (fun t k => XS.ifYes X1.here hx rfl (pc0 := 27) (pc' := 34) rfl (hb hby d1_27) rfl (own_lcT (cd := .ne) c27) (by decide) (by decide) k) ?_
    refine own_go (mkF m 35 #[.val (.ref a), .val (.long q1), .second, .val (.long q2), .second, .unset, .unset] [(.long (1 : Int64))]) (fun t k => XS.lconst X1.here hx rfl (hb hby d1_34) k) ?_
    refine own_go (mkF m 37 #[.val (.ref a), .val (.long q1), .second, .val (.long q2), .second, .val (.long (1 : Int64)), .second] []) (fun t k => XS.lstore X1.here hx rfl (hb hby d1_35) rfl (l' := #[.val (.ref a), .val (.long q1), .second, .val (.long q2), .second, .val (.long (1 : Int64)), .second]) rfl k) ?_
    refine own_go (mkF m 38 #[.val (.ref a), .val (.long q1), .second, .val (.long q2), .second, .val (.long (1 : Int64)), .second] [(.long q2)]) (fun t k => XS.lloadN X1.here hx rfl (hb hby d1_37) rfl k) ?_
    refine own_go (mkF m 40 #[.val (.ref a), .val (.long q1), .second, .val (.long q2), .second, .val (.long (1 : Int64)), .second] [(.long (1 : Int64)), (.long q2)]) (fun t k => XS.lload X1.here hx rfl (hb hby d1_38) rfl k) ?_
    refine own_go (mkF m 41 #[.val (.ref a), .val (.long q1), .second, .val (.long q2), .second, .val (.long (1 : Int64)), .second] [(.int (lcmpW q2 (1 : Int64)))]) (fun t k => XS.lcmp X1.here hx rfl (hb hby d1_40) rfl k) ?_
    have c41 : ¬ (q2.toInt < 1) := by omega
    refine own_go (mkF m 44 #[.val (.ref a), .val (.long q1), .second, .val (.long q2), .second, .val (.long (1 : Int64)), .second] []) (fun t k => XS.ifNo X1.here hx rfl (hb hby d1_41) rfl (own_lcF (cd := .lt) c41) k) ?_
    refine own_go (mkF m 45 #[.val (.ref a), .val (.long q1), .second, .val (.long q2), .second, .val (.long (1 : Int64)), .second] [(.long q2)]) (fun t k => XS.lloadN X1.here hx rfl (hb hby d1_44) rfl k) ?_
    refine own_go (mkF m 46 #[.val (.ref a), .val (.long q1), .second, .val (.long q2), .second, .val (.long (1 : Int64)), .second] [(.long q1), (.long q2)]) (fun t k => XS.lloadN X1.here hx rfl (hb hby d1_45) rfl k) ?_
    refine own_go (mkF m 47 #[.val (.ref a), .val (.long q1), .second, .val (.long q2), .second, .val (.long (1 : Int64)), .second] [(.int (lcmpW q2 q1))]) (fun t k => XS.lcmp X1.here hx rfl (hb hby d1_46) rfl k) ?_
    have c47 : q2.toInt ≤ q1.toInt := by omega
    refine own_go (mkF m 89 #[.val (.ref a), .val (.long q1), .second, .val (.long q2), .second, .val (.long (1 : Int64)), .second] []) (fun t k => XS.ifYes X1.here hx rfl (pc0 := 47) (pc' := 89) rfl (hb hby d1_47) rfl (own_lcT (cd := .le) c47) (by decide) (by decide) k) ?_
    refine own_go (mkF m 90 #[.val (.ref a), .val (.long q1), .second, .val (.long q2), .second, .val (.long (1 : Int64)), .second] [(.ref a)]) (fun t k => XS.aloadN X1.here hx rfl (hb hby d1_89) rfl rfl k) ?_
    refine own_go (mkF m 91 #[.val (.ref a), .val (.long q1), .second, .val (.long q2), .second, .val (.long (1 : Int64)), .second] [(.long q1), (.ref a)]) (fun t k => XS.lloadN X1.here hx rfl (hb hby d1_90) rfl k) ?_
    obtain ⟨T91, h91, X91, e91, W91, st91⟩ := putF X1 hx hZ hown (host := "") (Or.inl (hw _ (List.mem_of_getElem? (i := 15) rfl))) Via.refl e1 F_capacity_a E_a (Or.inr ⟨(hw _ (List.mem_of_getElem? (i := 16) rfl)), rfl, hnm⟩) (hw _ (List.mem_of_getElem? (i := 2) rfl)) (ty := .long) (by decide) rfl rfl (g := (mkF m 91 #[.val (.ref a), .val (.long q1), .second, .val (.long q2), .second, .val (.long (1 : Int64)), .second] [(.long q1), (.ref a)])) rfl rfl (hb hby d1_91)
    have N91 := Fr.snoc X91 N1 g_a
    have E_a_91 := E_a.wr W91
    have K0_91 := K0.wr W91 (Or.inl (List.mem_cons_self ..))
    have F_capacity_a_91 := F_capacity_a.same W91
    have F_resumeMark_a_91 := F_resumeMark_a.other W91 (Or.inr (slot_ne (Or.inr (hw _ (List.mem_of_getElem? (i := 18) rfl))) (Or.inr (hw _ (List.mem_of_getElem? (i := 16) rfl))) (by decide) (t := .long) (t' := .long) (by decide) (by decide)))
    have Z0_91 : n0 ≤ h91.size := by rw [W91.size]; exact Z0
    refine own_go (T' := T91) (mkF m 94 #[.val (.ref a), .val (.long q1), .second, .val (.long q2), .second, .val (.long (1 : Int64)), .second] []) st91 ?_
    refine own_go (mkF m 95 #[.val (.ref a), .val (.long q1), .second, .val (.long q2), .second, .val (.long (1 : Int64)), .second] [(.ref a)]) (fun t k => XS.aloadN X91.here hx rfl (hb hby d1_94) rfl rfl k) ?_
    refine own_go (mkF m 96 #[.val (.ref a), .val (.long q1), .second, .val (.long q2), .second, .val (.long (1 : Int64)), .second] [(.long q2), (.ref a)]) (fun t k => XS.lloadN X91.here hx rfl (hb hby d1_95) rfl k) ?_
    obtain ⟨T96, h96, X96, e96, W96, st96⟩ := putF X91 hx hZ hown (host := "") (Or.inl (hw _ (List.mem_of_getElem? (i := 17) rfl))) Via.refl e91 F_resumeMark_a_91 E_a_91 (Or.inr ⟨(hw _ (List.mem_of_getElem? (i := 18) rfl)), rfl, hnm⟩) (hw _ (List.mem_of_getElem? (i := 2) rfl)) (ty := .long) (by decide) rfl rfl (g := (mkF m 96 #[.val (.ref a), .val (.long q1), .second, .val (.long q2), .second, .val (.long (1 : Int64)), .second] [(.long q2), (.ref a)])) rfl rfl (hb hby d1_96)
    have N96 := Fr.snoc X96 N91 g_a
    have E_a_96 := E_a_91.wr W96
    have K0_96 := K0_91.wr W96 (Or.inl (List.mem_cons_self ..))
    have F_capacity_a_96 := F_capacity_a_91.other W96 (Or.inr (slot_ne (Or.inr (hw _ (List.mem_of_getElem? (i := 16) rfl))) (Or.inr (hw _ (List.mem_of_getElem? (i := 18) rfl))) (by decide) (t := .long) (t' := .long) (by decide) (by decide)))
    have F_resumeMark_a_96 := F_resumeMark_a_91.same W96
    have Z0_96 : n0 ≤ h96.size := by rw [W96.size]; exact Z0_91
    refine own_go (T' := T96) (mkF m 99 #[.val (.ref a), .val (.long q1), .second, .val (.long q2), .second, .val (.long (1 : Int64)), .second] []) st96 ?_
    refine own_ret0 X96 hx hlk hret (hb hby d1_99) (by decide) (by decide) ?_
    rw [e96]
    exact ⟨rfl, N96, K0_96, E_a_96, F_capacity_a_96, F_resumeMark_a_96⟩
theorem d2_0 : decode prog_1_method_3_code 0 = .ok (.aload_n 0, 1) := by decide +kernel
theorem d2_1 : decode prog_1_method_3_code 1 = .ok (.getfield 32, 3) := by decide +kernel
theorem d2_4 : decode prog_1_method_3_code 4 = .ok (.lconst 0, 1) := by decide +kernel
theorem d2_5 : decode prog_1_method_3_code 5 = .ok (.lcmp, 1) := by decide +kernel
theorem d2_6 : decode prog_1_method_3_code 6 = .ok (.ifCond .ne 7, 3) := by decide +kernel
theorem d2_9 : decode prog_1_method_3_code 9 = .ok (.iconst 1, 1) := by decide +kernel
theorem d2_10 : decode prog_1_method_3_code 10 = .ok (.goto 4, 3) := by decide +kernel
theorem d2_13 : decode prog_1_method_3_code 13 = .ok (.iconst 0, 1) := by decide +kernel
theorem d2_14 : decode prog_1_method_3_code 14 = .ok (.ireturn, 1) := by decide +kernel
theorem pf2 : plainFor (⟨"com/example/libsluice/libsluice/ByteLimit", "isUnlimited", "()Z"⟩ : MethodName) = true := by decide +kernel
set_option maxHeartbeats 4000000 in
theorem ef2 (m : MethodId) (a : Addr) : entryFrame m #[(.ref a)] 1 = (mkF m 0 #[.val (.ref a)] []) := by first | (simp [entryFrame, mkF, argsToLocals, Value.category, maxLocals]; done) | rfl
def Q2 (Z : State) (a : Addr) (w1 : Int64) (h0 : Heap) (n0 : Nat) (v : Option Value) (h : Heap) (L : List Loc) : Prop := (∃ r : Int32, v = some (.int r) ∧ (r.toInt = 1 ∧ w1.toInt = 0 ∨ r.toInt = 0 ∧ ¬ w1.toInt = 0)) ∧ Fr n0 L ∧ h = h0
set_option maxRecDepth 65536 in
set_option maxHeartbeats 40000000 in
theorem rm2 (l : Launch) (Z : State) (a0 : Array Value) (hw : ∀ d ∈ tables_1, d.before a0 Z = true) (ws : List Jvm.Cond) (a : Addr) (w1 : Int64) (h0 : Heap) (n0 : Nat) (Z0 : n0 ≤ h0.size) (F_capacity_a : Fld Z h0 a "com/example/libsluice/libsluice/ByteLimit" "capacity" "J" (.long w1)) :
    MetFree l (⟨"com/example/libsluice/libsluice/ByteLimit", "isUnlimited", "()Z"⟩ : MethodName) (head1 (Jvm.Cond.code (⟨"com/example/libsluice/libsluice/ByteLimit", "isUnlimited", "()Z"⟩ : MethodName) prog_1_method_3_code 1 (some Jvm.ClassFile.FieldType.boolean) :: ws) ({ frames := 0, cells := 0, slots := 0, locals := 0 } : Room)) (fun aa U => aa = #[(.ref a)] ∧ Z.Warmed39 U.vm ∧ U.heap = h0) (fun _ _ _ _ _ => True) (fun _ U o U' => ∃ v L, o = .returned v ∧ Q2 Z a w1 h0 n0 v U'.heap L ∧ FrameEnd U o U' L ({ frames := 0, cells := 0, slots := 0, locals := 0 } : Room).cells ({ frames := 0, cells := 0, slots := 0, locals := 0 } : Room).slots) := by
  refine own_met pf2 ?_
  intro p e s m below meth c T0 hx hby hml hown hret hlk hnm hZ X0 e0
  have N0 := Fr.nil n0
  rw [ef2]
  refine own_go (mkF m 1 #[.val (.ref a)] [(.ref a)]) (fun t k => XS.aloadN X0.here hx rfl (hb hby d2_0) rfl rfl k) ?_
  obtain ⟨T1, X1, e1, st1⟩ := getF X0 hx hZ hown (host := "") (Or.inl (hw _ (List.mem_of_getElem? (i := 15) rfl))) Via.refl e0 F_capacity_a (g := (mkF m 1 #[.val (.ref a)] [(.ref a)])) rfl rfl (hb hby d2_1)
  refine own_go (T' := T1) (mkF m 4 #[.val (.ref a)] [(.long w1)]) st1 ?_
  refine own_go (mkF m 5 #[.val (.ref a)] [(.long (0 : Int64)), (.long w1)]) (fun t k => XS.lconst X1.here hx rfl (hb hby d2_4) k) ?_
  refine own_go (mkF m 6 #[.val (.ref a)] [(.int (lcmpW w1 (0 : Int64)))]) (fun t k => XS.lcmp X1.here hx rfl (hb hby d2_5) rfl k) ?_
  by_cases c6 : w1.toInt = 0
  · skip
    refine own_go (mkF m 9 #[.val (.ref a)] []) (fun t k => XS.ifNo X1.here hx rfl (hb hby d2_6) rfl (own_lcF (cd := .ne) (fun q => q c6)) k) ?_
    refine own_go (mkF m 10 #[.val (.ref a)] [(.int (1 : Int32))]) (fun t k => XS.iconst X1.here hx rfl (hb hby d2_9) k) ?_
    refine own_go (mkF m 14 #[.val (.ref a)] [(.int (1 : Int32))]) (fun t k => XS.goto X1.here hx rfl (pc0 := 10) (pc' := 14) rfl (hb hby d2_10) (by decide) (by decide) k) ?_
    refine own_retI X1 hx hlk hret (by simp) rfl (hb hby d2_14) (by decide) (by decide) ?_
    rw [e1]
    exact ⟨⟨_, rfl, Or.inl ⟨rfl, c6⟩⟩, N0, rfl⟩
  · skip
    refine own_go (mkF m 13 #[.val (.ref a)] []) (fun t k => XS.ifYes X1.here hx rfl (pc0 := 6) (pc' := 13) rfl (hb hby d2_6) rfl (own_lcT (cd := .ne) c6) (by decide) (by decide) k) ?_
    refine own_go (mkF m 14 #[.val (.ref a)] [(.int (0 : Int32))]) (fun t k => XS.iconst X1.here hx rfl (hb hby d2_13) k) ?_
    refine own_retI X1 hx hlk hret (by simp) rfl (hb hby d2_14) (by decide) (by decide) ?_
    rw [e1]
    exact ⟨⟨_, rfl, Or.inr ⟨rfl, c6⟩⟩, N0, rfl⟩
theorem d3_0 : decode prog_1_method_10_code 0 = .ok (.lload_n 1, 1) := by decide +kernel
theorem d3_1 : decode prog_1_method_10_code 1 = .ok (.lconst 0, 1) := by decide +kernel
theorem d3_2 : decode prog_1_method_10_code 2 = .ok (.lcmp, 1) := by decide +kernel
theorem d3_3 : decode prog_1_method_10_code 3 = .ok (.ifCond .ge 18, 3) := by decide +kernel
theorem d3_21 : decode prog_1_method_10_code 21 = .ok (.return_, 1) := by decide +kernel
theorem pf3 : plainFor (⟨"com/example/libsluice/libsluice/ByteLimit", "requireNotNegative", "(Ljava/lang/String;J)V"⟩ : MethodName) = true := by decide +kernel
set_option maxHeartbeats 4000000 in
theorem ef3 (m : MethodId) (a : Addr) (q1 : Int64) : entryFrame m #[(.ref a), (.long q1)] 3 = (mkF m 0 #[.val (.ref a), .val (.long q1), .second] []) := by first | (simp [entryFrame, mkF, argsToLocals, Value.category, maxLocals]; done) | rfl
def Q3 (Z : State) (a : Addr) (q1 : Int64) (h0 : Heap) (n0 : Nat) (v : Option Value) (h : Heap) (L : List Loc) : Prop := v = none ∧ Fr n0 L ∧ h = h0
set_option maxRecDepth 65536 in
set_option maxHeartbeats 40000000 in
theorem rm3 (l : Launch) (Z : State) (a0 : Array Value) (hw : ∀ d ∈ tables_1, d.before a0 Z = true) (ws : List Jvm.Cond) (a : Addr) (q1 : Int64) (h0 : Heap) (n0 : Nat) (Z0 : n0 ≤ h0.size) (hp : 0 ≤ q1.toInt) :
    MetFree l (⟨"com/example/libsluice/libsluice/ByteLimit", "requireNotNegative", "(Ljava/lang/String;J)V"⟩ : MethodName) (head1 (Jvm.Cond.code (⟨"com/example/libsluice/libsluice/ByteLimit", "requireNotNegative", "(Ljava/lang/String;J)V"⟩ : MethodName) prog_1_method_10_code 3 none :: ws) ({ frames := 0, cells := 0, slots := 0, locals := 0 } : Room)) (fun aa U => aa = #[(.ref a), (.long q1)] ∧ Z.Warmed39 U.vm ∧ U.heap = h0) (fun _ _ _ _ _ => True) (fun _ U o U' => ∃ v L, o = .returned v ∧ Q3 Z a q1 h0 n0 v U'.heap L ∧ FrameEnd U o U' L ({ frames := 0, cells := 0, slots := 0, locals := 0 } : Room).cells ({ frames := 0, cells := 0, slots := 0, locals := 0 } : Room).slots) := by
  refine own_met pf3 ?_
  intro p e s m below meth c T0 hx hby hml hown hret hlk hnm hZ X0 e0
  have N0 := Fr.nil n0
  have r_q1 := rng64 q1
  rw [ef3]
  refine own_go (mkF m 1 #[.val (.ref a), .val (.long q1), .second] [(.long q1)]) (fun t k => XS.lloadN X0.here hx rfl (hb hby d3_0) rfl k) ?_
  refine own_go (mkF m 2 #[.val (.ref a), .val (.long q1), .second] [(.long (0 : Int64)), (.long q1)]) (fun t k => XS.lconst X0.here hx rfl (hb hby d3_1) k) ?_
  refine own_go (mkF m 3 #[.val (.ref a), .val (.long q1), .second] [(.int (lcmpW q1 (0 : Int64)))]) (fun t k => XS.lcmp X0.here hx rfl (hb hby d3_2) rfl k) ?_
  have c3 : 0 ≤ q1.toInt := by omega
  refine own_go (mkF m 21 #[.val (.ref a), .val (.long q1), .second] []) (fun t k => XS.ifYes X0.here hx rfl (pc0 := 3) (pc' := 21) rfl (hb hby d3_3) rfl (own_lcT (cd := .ge) c3) (by decide) (by decide) k) ?_
  refine own_ret0 X0 hx hlk hret (hb hby d3_21) (by decide) (by decide) ?_
  rw [e0]
  exact ⟨rfl, N0, rfl⟩
theorem d4_0 : decode prog_1_method_8_code 0 = .ok (.aload_n 0, 1) := by decide +kernel
theorem d4_1 : decode prog_1_method_8_code 1 = .ok (.invokevirtual 63, 3) := by decide +kernel
theorem d4_4 : decode prog_1_method_8_code 4 = .ok (.ifCond .eq 9, 3) := by decide +kernel
theorem d4_7 : decode prog_1_method_8_code 7 = .ok (.ldc2_w 67, 3) := by decide +kernel
theorem d4_10 : decode prog_1_method_8_code 10 = .ok (.goto 7, 3) := by decide +kernel
theorem d4_13 : decode prog_1_method_8_code 13 = .ok (.aload_n 0, 1) := by decide +kernel
theorem d4_14 : decode prog_1_method_8_code 14 = .ok (.getfield 32, 3) := by decide +kernel
theorem d4_17 : decode prog_1_method_8_code 17 = .ok (.lreturn, 1) := by decide +kernel
theorem pd4_0 : parseMethodDescriptor "()Z" = some ⟨[], some .boolean⟩ := by decide +kernel
theorem pf4 : plainFor (⟨"com/example/libsluice/libsluice/ByteLimit", "countableCapacity", "()J"⟩ : MethodName) = true := by decide +kernel
set_option maxHeartbeats 4000000 in
theorem ef4 (m : MethodId) (a : Addr) : entryFrame m #[(.ref a)] 1 = (mkF m 0 #[.val (.ref a)] []) := by first | (simp [entryFrame, mkF, argsToLocals, Value.category, maxLocals]; done) | rfl
def Q4 (Z : State) (a : Addr) (w1 : Int64) (h0 : Heap) (n0 : Nat) (v : Option Value) (h : Heap) (L : List Loc) : Prop := (∃ r : Int64, v = some (.long r) ∧ ((w1.toInt = 0 → r.toInt = 9223372036854775807) ∧ (¬ w1.toInt = 0 → r.toInt = w1.toInt))) ∧ Fr n0 L ∧ h = h0
set_option maxRecDepth 65536 in
set_option maxHeartbeats 40000000 in
theorem rm4 (l : Launch) (Z : State) (a0 : Array Value) (hw : ∀ d ∈ tables_1, d.before a0 Z = true) (ws : List Jvm.Cond) (a : Addr) (w1 : Int64) (h0 : Heap) (n0 : Nat) (Z0 : n0 ≤ h0.size) (E_a : Exa Z h0 a "com/example/libsluice/libsluice/ByteLimit") (F_capacity_a : Fld Z h0 a "com/example/libsluice/libsluice/ByteLimit" "capacity" "J" (.long w1)) :
    MetFree l (⟨"com/example/libsluice/libsluice/ByteLimit", "countableCapacity", "()J"⟩ : MethodName) (head1 (Jvm.Cond.code (⟨"com/example/libsluice/libsluice/ByteLimit", "countableCapacity", "()J"⟩ : MethodName) prog_1_method_8_code 1 (some Jvm.ClassFile.FieldType.long) :: ws) ({ frames := 1, cells := 0, slots := 0, locals := 12 } : Room)) (fun aa U => aa = #[(.ref a)] ∧ Z.Warmed39 U.vm ∧ U.heap = h0) (fun _ _ _ _ _ => True) (fun _ U o U' => ∃ v L, o = .returned v ∧ Q4 Z a w1 h0 n0 v U'.heap L ∧ FrameEnd U o U' L ({ frames := 1, cells := 0, slots := 0, locals := 12 } : Room).cells ({ frames := 1, cells := 0, slots := 0, locals := 12 } : Room).slots) := by
  refine own_met pf4 ?_
  intro p e s m below meth c T0 hx hby hml hown hret hlk hnm hZ X0 e0
  have N0 := Fr.nil n0
  rw [ef4]
  refine own_go (mkF m 1 #[.val (.ref a)] [(.ref a)]) (fun t k => XS.aloadN X0.here hx rfl (hb hby d4_0) rfl rfl k) ?_
  refine own_callV X0 hx hZ (y := (⟨"com/example/libsluice/libsluice/ByteLimit", "isUnlimited", "()Z"⟩ : MethodName)) hown (hw _ (List.mem_of_getElem? (i := 39) rfl)) (hw _ (List.mem_of_getElem? (i := 40) rfl)) (hw _ (List.mem_of_getElem? (i := 42) rfl)) (hw _ (List.mem_of_getElem? (i := 41) rfl)) (hw _ (List.mem_of_getElem? (i := 3) rfl)) (hw _ (List.mem_of_getElem? (i := 43) rfl)) (by decide) e0 a E_a (rm2 l Z a0 hw [] a w1 h0 n0 Z0 F_capacity_a) 0 (by decide) (by decide) (by decide) (by decide) (g := (mkF m 1 #[.val (.ref a)] [(.ref a)])) rfl (by rw [hml]; rfl) [] [] (lenOf pd4_0 rfl) rfl rfl (by show 2 * 0 + _ ≤ _; exact Nat.le_of_eq rfl) (hb hby d4_1) ?_
  intro rv1 T1 h1 L1 X1 e1 hQ1
  obtain ⟨⟨r1_, rfl, hr1⟩, NQ1, eq1⟩ := hQ1
  rw [eq1] at e1
  have rr1 := rng32 r1_
  have N1 := Fr.app N0 NQ1
  show own_Ends p e below s ({ frames := 1, cells := 0, slots := 0, locals := 12 } : Room).cells ({ frames := 1, cells := 0, slots := 0, locals := 12 } : Room).slots (Q4 Z a w1 h0 n0) T1 (mkF m 4 #[.val (.ref a)] [(.int r1_)])
  by_cases c4 : r1_.toInt = 0
  · skip
    refine own_go (mkF m 13 #[.val (.ref a)] []) (fun t k => XS.ifYes X1.here hx rfl (pc0 := 4) (pc' := 13) rfl (hb hby d4_4) rfl (own_zT (cd := .eq) c4) (by decide) (by decide) k) ?_
    refine own_go (mkF m 14 #[.val (.ref a)] [(.ref a)]) (fun t k => XS.aloadN X1.here hx rfl (hb hby d4_13) rfl rfl k) ?_
    obtain ⟨T14, X14, e14, st14⟩ := getF X1 hx hZ hown (host := "") (Or.inl (hw _ (List.mem_of_getElem? (i := 15) rfl))) Via.refl e1 F_capacity_a (g := (mkF m 14 #[.val (.ref a)] [(.ref a)])) rfl rfl (hb hby d4_14)
    refine own_go (T' := T14) (mkF m 17 #[.val (.ref a)] [(.long w1)]) st14 ?_
    refine own_retL X14 hx hlk hret (hb hby d4_17) (by decide) (by decide) ?_
    rw [e14]
    exact ⟨⟨_, rfl, by omega⟩, N1, rfl⟩
  · skip
    refine own_go (mkF m 7 #[.val (.ref a)] []) (fun t k => XS.ifNo X1.here hx rfl (hb hby d4_4) rfl (own_zF (cd := .eq) c4) k) ?_
    refine own_go (mkF m 10 #[.val (.ref a)] [(.long (9223372036854775807 : Int64))]) (fun t k => X1.ldc2Long hx hown (mvT hZ (hw _ (List.mem_of_getElem? (i := 44) rfl))) (g := (mkF m 7 #[.val (.ref a)] [])) rfl (hb hby d4_7) _ k) ?_
    refine own_go (mkF m 17 #[.val (.ref a)] [(.long (9223372036854775807 : Int64))]) (fun t k => XS.goto X1.here hx rfl (pc0 := 10) (pc' := 17) rfl (hb hby d4_10) (by decide) (by decide) k) ?_
    refine own_retL X1 hx hlk hret (hb hby d4_17) (by decide) (by decide) ?_
    rw [e1]
    have lz : (9223372036854775807 : Int64).toInt = 9223372036854775807 := rfl
    exact ⟨⟨_, rfl, by omega⟩, N1, rfl⟩
theorem d5_0 : decode prog_1_method_6_code 0 = .ok (.ldc 48, 2) := by decide +kernel
theorem d5_2 : decode prog_1_method_6_code 2 = .ok (.lload_n 1, 1) := by decide +kernel
theorem d5_3 : decode prog_1_method_6_code 3 = .ok (.invokestatic 50, 3) := by decide +kernel
theorem d5_6 : decode prog_1_method_6_code 6 = .ok (.lload_n 1, 1) := by decide +kernel
theorem d5_7 : decode prog_1_method_6_code 7 = .ok (.aload_n 0, 1) := by decide +kernel
theorem d5_8 : decode prog_1_method_6_code 8 = .ok (.invokevirtual 56, 3) := by decide +kernel
theorem d5_11 : decode prog_1_method_6_code 11 = .ok (.lcmp, 1) := by decide +kernel
theorem d5_12 : decode prog_1_method_6_code 12 = .ok (.ifCond .le 7, 3) := by decide +kernel
theorem d5_15 : decode prog_1_method_6_code 15 = .ok (.iconst 1, 1) := by decide +kernel
theorem d5_16 : decode prog_1_method_6_code 16 = .ok (.goto 4, 3) := by decide +kernel
theorem d5_19 : decode prog_1_method_6_code 19 = .ok (.iconst 0, 1) := by decide +kernel
theorem d5_20 : decode prog_1_method_6_code 20 = .ok (.ireturn, 1) := by decide +kernel
theorem pd5_0 : parseMethodDescriptor "(Ljava/lang/String;J)V" = some ⟨[(.object "java/lang/String"), .long], none⟩ := by decide +kernel
theorem pd5_1 : parseMethodDescriptor "()J" = some ⟨[], some .long⟩ := by decide +kernel
theorem pf5 : plainFor (⟨"com/example/libsluice/libsluice/ByteLimit", "neverFits", "(J)Z"⟩ : MethodName) = true := by decide +kernel
set_option maxHeartbeats 4000000 in
theorem ef5 (m : MethodId) (a : Addr) (q1 : Int64) : entryFrame m #[(.ref a), (.long q1)] 3 = (mkF m 0 #[.val (.ref a), .val (.long q1), .second] []) := by first | (simp [entryFrame, mkF, argsToLocals, Value.category, maxLocals]; done) | rfl
def Q5 (Z : State) (a : Addr) (q1 : Int64) (w1 : Int64) (h0 : Heap) (n0 : Nat) (v : Option Value) (h : Heap) (L : List Loc) : Prop := (∃ r : Int32, v = some (.int r) ∧ (r.toInt = 1 ∧ (¬ w1.toInt = 0 ∧ w1.toInt < q1.toInt) ∨ r.toInt = 0 ∧ ¬ (¬ w1.toInt = 0 ∧ w1.toInt < q1.toInt))) ∧ Fr n0 L ∧ Keep h0 h []
set_option maxRecDepth 65536 in
set_option maxHeartbeats 40000000 in
theorem rm5 (l : Launch) (Z : State) (a0 : Array Value) (hw : ∀ d ∈ tables_1, d.before a0 Z = true) (ws : List Jvm.Cond) (a : Addr) (q1 : Int64) (w1 : Int64) (h0 : Heap) (n0 : Nat) (Z0 : n0 ≤ h0.size) (E_a : Exa Z h0 a "com/example/libsluice/libsluice/ByteLimit") (F_capacity_a : Fld Z h0 a "com/example/libsluice/libsluice/ByteLimit" "capacity" "J" (.long w1)) (hq0 : 0 ≤ q1.toInt) :
    MetFree l (⟨"com/example/libsluice/libsluice/ByteLimit", "neverFits", "(J)Z"⟩ : MethodName) (head1 (Jvm.Cond.code (⟨"com/example/libsluice/libsluice/ByteLimit", "neverFits", "(J)Z"⟩ : MethodName) prog_1_method_6_code 3 (some Jvm.ClassFile.FieldType.boolean) :: ws) ({ frames := 2, cells := 2, slots := 32, locals := 26 } : Room)) (fun aa U => aa = #[(.ref a), (.long q1)] ∧ Z.Warmed39 U.vm ∧ U.heap = h0) (fun _ _ _ _ _ => True) (fun _ U o U' => ∃ v L, o = .returned v ∧ Q5 Z a q1 w1 h0 n0 v U'.heap L ∧ ReturnedEndW U o U' L ({ frames := 2, cells := 2, slots := 32, locals := 26 } : Room).cells ({ frames := 2, cells := 2, slots := 32, locals := 26 } : Room).slots) := by
  refine own_metW pf5 ?_
  intro p e s m below meth c T0 hx hby hml hown hret hlk hnm hZ X0 e0
  have N0 := Fr.nil n0
  have K0 := Keep.refl h0 ([] : List Addr)
  have r_w1 := rng64 w1
  have r_q1 := rng64 q1
  rw [ef5]
  have wS : ∀ d ∈ Bundle.stringAtoms, d.before a0 Z = true := fun d hd => by
    simp only [Bundle.stringAtoms, List.mem_cons, List.not_mem_nil, or_false] at hd
    rcases hd with rfl | rfl | rfl | rfl | rfl | rfl | rfl
    · exact (hw _ (List.mem_of_getElem? (i := 25) rfl))
    · exact (hw _ (List.mem_of_getElem? (i := 26) rfl))
    · exact (hw _ (List.mem_of_getElem? (i := 27) rfl))
    · exact (hw _ (List.mem_of_getElem? (i := 28) rfl))
    · exact (hw _ (List.mem_of_getElem? (i := 29) rfl))
    · exact (hw _ (List.mem_of_getElem? (i := 30) rfl))
    · exact (hw _ (List.mem_of_getElem? (i := 31) rfl))
  obtain ⟨str, T1, h1, k1, X1, e1, E1, hSi, hki, hZ1, hown1, st1⟩ := ldcS (s := s) (vm0 := s.vm) X0 hx hZ hown (hw _ (List.mem_of_getElem? (i := 24) rfl)) wS e0 (State.WarmedH.since (State.WarmedH.refl s) h0.size) (Nat.le_refl _) (g := (mkF m 0 #[.val (.ref a), .val (.long q1), .second] [])) rfl (hb hby d5_0) (n := 28) (by decide) (by decide) (by decide) (by decide)
  replace hZ := hZ1
  replace hown := hown1
  have F_capacity_a_1 := F_capacity_a.ext E1
  have E_a_1 := E_a.ext E1
  have K0_1 := K0.ext E1
  have Z0_1 : n0 ≤ h1.size := Nat.le_trans Z0 E1.1
  refine own_goW (T' := T1) (mkF m 2 #[.val (.ref a), .val (.long q1), .second] [(.ref str)]) st1 ?_
  refine own_goW (mkF m 3 #[.val (.ref a), .val (.long q1), .second] [(.long q1), (.ref str)]) (fun t k => XS.lloadN X1.here hx rfl (hb hby d5_2) rfl k) ?_
  refine own_callSW X1 hx hZ (y := (⟨"com/example/libsluice/libsluice/ByteLimit", "requireNotNegative", "(Ljava/lang/String;J)V"⟩ : MethodName)) hown (hw _ (List.mem_of_getElem? (i := 32) rfl)) (hw _ (List.mem_of_getElem? (i := 33) rfl)) (hw _ (List.mem_of_getElem? (i := 3) rfl)) (hw _ (List.mem_of_getElem? (i := 34) rfl)) (by decide) e1 (rm3 l Z a0 hw [] str q1 h1 n0 Z0_1 hq0) 0 (by decide) (by decide) (by decide) (by decide) (g := (mkF m 3 #[.val (.ref a), .val (.long q1), .second] [(.long q1), (.ref str)])) rfl (by rw [hml]; rfl) [(.ref str), (.long q1)] [] (lenOf pd5_0 rfl) rfl rfl (by show 2 * 0 + _ ≤ _; exact Nat.le_of_eq rfl) (hb hby d5_3) ?_
  intro rv3 T3 h3 L3 X3 e3 hQ3
  obtain ⟨rfl, NQ3, eq3⟩ := hQ3
  rw [eq3] at e3
  have N3 := Fr.app N0 NQ3
  show own_EndsW p e below s ({ frames := 2, cells := 2, slots := 32, locals := 26 } : Room).cells ({ frames := 2, cells := 2, slots := 32, locals := 26 } : Room).slots (Q5 Z a q1 w1 h0 n0) T3 (mkF m 6 #[.val (.ref a), .val (.long q1), .second] [])
  refine own_goW (mkF m 7 #[.val (.ref a), .val (.long q1), .second] [(.long q1)]) (fun t k => XS.lloadN X3.here hx rfl (hb hby d5_6) rfl k) ?_
  refine own_goW (mkF m 8 #[.val (.ref a), .val (.long q1), .second] [(.ref a), (.long q1)]) (fun t k => XS.aloadN X3.here hx rfl (hb hby d5_7) rfl rfl k) ?_
  refine own_callPW X3 hx hZ (y := (⟨"com/example/libsluice/libsluice/ByteLimit", "countableCapacity", "()J"⟩ : MethodName)) hown (hw _ (List.mem_of_getElem? (i := 35) rfl)) (hw _ (List.mem_of_getElem? (i := 36) rfl)) (hw _ (List.mem_of_getElem? (i := 2) rfl)) (hw _ (List.mem_of_getElem? (i := 37) rfl)) (hw _ (List.mem_of_getElem? (i := 3) rfl)) (hw _ (List.mem_of_getElem? (i := 38) rfl)) (by decide) e3 a E_a_1 (rm4 l Z a0 hw [] a w1 h1 n0 Z0_1 E_a_1 F_capacity_a_1) 2 (by decide) (by decide) (by decide) (by decide) (g := (mkF m 8 #[.val (.ref a), .val (.long q1), .second] [(.ref a), (.long q1)])) rfl (by rw [hml]; rfl) [] [(.long q1)] (lenOf pd5_1 rfl) rfl rfl (by show 2 * 0 + _ ≤ _; exact Nat.le_of_eq rfl) (hb hby d5_8) ?_
  intro rv8 T8 h8 L8 X8 e8 hQ8
  obtain ⟨⟨rc, rfl, hrc⟩, NQ8, eq8⟩ := hQ8
  rw [eq8] at e8
  have rrc := rng64 rc
  have N8 := Fr.app N3 NQ8
  show own_EndsW p e below s ({ frames := 2, cells := 2, slots := 32, locals := 26 } : Room).cells ({ frames := 2, cells := 2, slots := 32, locals := 26 } : Room).slots (Q5 Z a q1 w1 h0 n0) T8 (mkF m 11 #[.val (.ref a), .val (.long q1), .second] [(.long rc), (.long q1)])
  refine own_goW (mkF m 12 #[.val (.ref a), .val (.long q1), .second] [(.int (lcmpW q1 rc))]) (fun t k => XS.lcmp X8.here hx rfl (hb hby d5_11) rfl k) ?_
  by_cases c12 : q1.toInt ≤ rc.toInt
  · skip
    refine own_goW (mkF m 19 #[.val (.ref a), .val (.long q1), .second] []) (fun t k => XS.ifYes X8.here hx rfl (pc0 := 12) (pc' := 19) rfl (hb hby d5_12) rfl (own_lcT (cd := .le) c12) (by decide) (by decide) k) ?_
    refine own_goW (mkF m 20 #[.val (.ref a), .val (.long q1), .second] [(.int (0 : Int32))]) (fun t k => XS.iconst X8.here hx rfl (hb hby d5_19) k) ?_
    refine own_retIW X8 hx hlk hSi (by rw [e8]; exact hki) hret (by simp) rfl (hb hby d5_20) (by decide) (by decide) ?_
    rw [e8]
    exact ⟨⟨_, rfl, Or.inr ⟨rfl, by omega⟩⟩, N8, K0_1⟩
  · skip
    refine own_goW (mkF m 15 #[.val (.ref a), .val (.long q1), .second] []) (fun t k => XS.ifNo X8.here hx rfl (hb hby d5_12) rfl (own_lcF (cd := .le) c12) k) ?_
    refine own_goW (mkF m 16 #[.val (.ref a), .val (.long q1), .second] [(.int (1 : Int32))]) (fun t k => XS.iconst X8.here hx rfl (hb hby d5_15) k) ?_
    refine own_goW (mkF m 20 #[.val (.ref a), .val (.long q1), .second] [(.int (1 : Int32))]) (fun t k => XS.goto X8.here hx rfl (pc0 := 16) (pc' := 20) rfl (hb hby d5_16) (by decide) (by decide) k) ?_
    refine own_retIW X8 hx hlk hSi (by rw [e8]; exact hki) hret (by simp) rfl (hb hby d5_20) (by decide) (by decide) ?_
    rw [e8]
    exact ⟨⟨_, rfl, Or.inl ⟨rfl, by omega⟩⟩, N8, K0_1⟩
theorem pd0_0 : parseMethodDescriptor "(JJ)V" = some ⟨[.long, .long], none⟩ := by decide +kernel
theorem pd0_1 : parseMethodDescriptor "(J)Z" = some ⟨[.long], some .boolean⟩ := by decide +kernel
theorem pf0 : plainFor (⟨"com/example/libsluice/libsluice/ByteLimitNeverFitsPinLaw", "law", "(JJJI)Z"⟩ : MethodName) = true := by decide +kernel
set_option maxHeartbeats 4000000 in
theorem ef0 (m : MethodId) (q1 : Int64) (q2 : Int64) (q3 : Int64) (q4 : Int32) : entryFrame m #[(.long q1), (.long q2), (.long q3), (.int q4)] maxLocals = (mkF m 0 #[.val (.long q1), .second, .val (.long q2), .second, .val (.long q3), .second, .val (.int q4), .unset, .unset, .unset, .unset, .unset, .unset, .unset, .unset, .unset] []) := by first | (simp [entryFrame, mkF, argsToLocals, Value.category, maxLocals]; done) | rfl
def Q0 (Z : State) (q1 : Int64) (q2 : Int64) (q3 : Int64) (q4 : Int32) (h0 : Heap) (n0 : Nat) (v : Option Value) (h : Heap) (L : List Loc) : Prop := v = some (.int 1) ∧ Fr n0 L
set_option maxRecDepth 65536 in
set_option maxHeartbeats 40000000 in
theorem rm0 (l : Launch) (Z : State) (a0 : Array Value) (hw : ∀ d ∈ tables_1, d.before a0 Z = true) (ws : List Jvm.Cond) (q1 : Int64) (q2 : Int64) (q3 : Int64) (q4 : Int32) (h0 : Heap) (n0 : Nat) (Z0 : n0 ≤ h0.size) :
    MetFree l x (head1 (Jvm.Cond.code x code maxLocals ret :: ws) room_1) (fun aa U => aa = #[(.long q1), (.long q2), (.long q3), (.int q4)] ∧ Z.Warmed39 U.vm ∧ U.heap = h0) (fun _ _ _ _ _ => True) (fun _ U o U' => ∃ v L, o = .returned v ∧ Q0 Z q1 q2 q3 q4 h0 n0 v U'.heap L ∧ ReturnedEndW U o U' L room_1.cells room_1.slots) := by
  refine own_metW pf0 ?_
  intro p e s m below meth c T0 hx hby hml hown hret hlk hnm hZ X0 e0
  have N0 := Fr.nil n0
  have r_q1 := rng64 q1
  have r_q2 := rng64 q2
  have r_q3 := rng64 q3
  have r_q4 := rng32 q4
  rw [ef0]
  refine own_goW (mkF m 2 #[.val (.long q1), .second, .val (.long q2), .second, .val (.long q3), .second, .val (.int q4), .unset, .unset, .unset, .unset, .unset, .unset, .unset, .unset, .unset] [(.int q4)]) (fun t k => XS.iload X0.here hx rfl (hb hby at_0) rfl k) ?_
  refine own_goW (mkF m 3 #[.val (.long q1), .second, .val (.long q2), .second, .val (.long q3), .second, .val (.int q4), .unset, .unset, .unset, .unset, .unset, .unset, .unset, .unset, .unset] [(.int (4 : Int32)), (.int q4)]) (fun t k => XS.iconst X0.here hx rfl (hb hby at_2) k) ?_
  refine own_goW (mkF m 4 #[.val (.long q1), .second, .val (.long q2), .second, .val (.long q3), .second, .val (.int q4), .unset, .unset, .unset, .unset, .unset, .unset, .unset, .unset, .unset] [(.int (q4 &&& (4 : Int32)))]) (fun t k => XS.iand X0.here hx rfl (hb hby at_3) rfl k) ?_
  generalize hv3 : (q4 &&& (4 : Int32)) = v3
  have f3 : 0 ≤ v3.toInt ∧ v3.toInt ≤ 4 := by rw [← hv3]; exact c_and q4 (4 : Int32) (by decide)
  have r3 := rng32 v3
  have j18 : ∀ (x7 : Int64), 0 ≤ x7.toInt → own_EndsW p e below s room_1.cells room_1.slots (Q0 Z q1 q2 q3 q4 h0 n0) T0 (mkF m 18 #[.val (.long q1), .second, .val (.long q2), .second, .val (.long q3), .second, .val (.int q4), .val (.long x7), .second, .unset, .unset, .unset, .unset, .unset, .unset, .unset] []) := by
    intro x7 hj18
    have rj18 := rng64 x7
    refine own_goW (mkF m 20 #[.val (.long q1), .second, .val (.long q2), .second, .val (.long q3), .second, .val (.int q4), .val (.long x7), .second, .unset, .unset, .unset, .unset, .unset, .unset, .unset] [(.long x7)]) (fun t k => XS.lload X0.here hx rfl (hb hby at_18) rfl k) ?_
    refine own_goW (mkF m 21 #[.val (.long q1), .second, .val (.long q2), .second, .val (.long q3), .second, .val (.int q4), .val (.long x7), .second, .unset, .unset, .unset, .unset, .unset, .unset, .unset] [(.long (0 : Int64)), (.long x7)]) (fun t k => XS.lconst X0.here hx rfl (hb hby at_20) k) ?_
    refine own_goW (mkF m 22 #[.val (.long q1), .second, .val (.long q2), .second, .val (.long q3), .second, .val (.int q4), .val (.long x7), .second, .unset, .unset, .unset, .unset, .unset, .unset, .unset] [(.int (lcmpW x7 (0 : Int64)))]) (fun t k => XS.lcmp X0.here hx rfl (hb hby at_21) rfl k) ?_
    have j41 : ∀ (x9 : Int64), (x7.toInt = 0 → x9.toInt = 0) ∧ (¬ x7.toInt = 0 → 1 ≤ x9.toInt ∧ x9.toInt ≤ x7.toInt) → own_EndsW p e below s room_1.cells room_1.slots (Q0 Z q1 q2 q3 q4 h0 n0) T0 (mkF m 41 #[.val (.long q1), .second, .val (.long q2), .second, .val (.long q3), .second, .val (.int q4), .val (.long x7), .second, .val (.long x9), .second, .unset, .unset, .unset, .unset, .unset] []) := by
      intro x9 hj41
      have rj41 := rng64 x9
      refine own_goW (mkF m 43 #[.val (.long q1), .second, .val (.long q2), .second, .val (.long q3), .second, .val (.int q4), .val (.long x7), .second, .val (.long x9), .second, .unset, .unset, .unset, .unset, .unset] [(.int q4)]) (fun t k => XS.iload X0.here hx rfl (hb hby at_41) rfl k) ?_
      refine own_goW (mkF m 44 #[.val (.long q1), .second, .val (.long q2), .second, .val (.long q3), .second, .val (.int q4), .val (.long x7), .second, .val (.long x9), .second, .unset, .unset, .unset, .unset, .unset] [(.int (3 : Int32)), (.int q4)]) (fun t k => XS.iconst X0.here hx rfl (hb hby at_43) k) ?_
      refine own_goW (mkF m 45 #[.val (.long q1), .second, .val (.long q2), .second, .val (.long q3), .second, .val (.int q4), .val (.long x7), .second, .val (.long x9), .second, .unset, .unset, .unset, .unset, .unset] [(.int (q4 &&& (3 : Int32)))]) (fun t k => XS.iand X0.here hx rfl (hb hby at_44) rfl k) ?_
      generalize hv44 : (q4 &&& (3 : Int32)) = v44
      have f44 : v44.toInt = q4.toInt % 4 := by rw [← hv44]; exact c_mask q4 (3 : Int32) 2 (by decide) (by decide)
      have r44 := rng32 v44
      refine own_goW (mkF m 47 #[.val (.long q1), .second, .val (.long q2), .second, .val (.long q3), .second, .val (.int q4), .val (.long x7), .second, .val (.long x9), .second, .unset, .unset, .val (.int v44), .unset, .unset] []) (fun t k => XS.istore X0.here hx rfl (hb hby at_45) rfl (l' := #[.val (.long q1), .second, .val (.long q2), .second, .val (.long q3), .second, .val (.int q4), .val (.long x7), .second, .val (.long x9), .second, .unset, .unset, .val (.int v44), .unset, .unset]) rfl k) ?_
      refine own_goW (mkF m 49 #[.val (.long q1), .second, .val (.long q2), .second, .val (.long q3), .second, .val (.int q4), .val (.long x7), .second, .val (.long x9), .second, .unset, .unset, .val (.int v44), .unset, .unset] [(.int v44)]) (fun t k => XS.iload X0.here hx rfl (hb hby at_47) rfl k) ?_
      have j122 : ∀ (x11 : Int64), 0 ≤ x11.toInt → own_EndsW p e below s room_1.cells room_1.slots (Q0 Z q1 q2 q3 q4 h0 n0) T0 (mkF m 122 #[.val (.long q1), .second, .val (.long q2), .second, .val (.long q3), .second, .val (.int q4), .val (.long x7), .second, .val (.long x9), .second, .val (.long x11), .second, .val (.int v44), .unset, .unset] []) := by
        intro x11 hj122
        have rj122 := rng64 x11
        have hcr : 0 ≤ x7.toInt ∧ (x7.toInt = 0 → x9.toInt = 0) ∧ (¬ x7.toInt = 0 → 1 ≤ x9.toInt ∧ x9.toInt ≤ x7.toInt) := ⟨hj18, hj41⟩
        obtain ⟨T122, h122, X122, e122, E122, A122, D122, -, st122⟩ := newO X0 hx hZ hown (hw _ (List.mem_of_getElem? (i := 1) rfl)) (hw _ (List.mem_of_getElem? (i := 2) rfl)) (hw _ (List.mem_of_getElem? (i := 3) rfl)) e0 (g := (mkF m 122 #[.val (.long q1), .second, .val (.long q2), .second, .val (.long q3), .second, .val (.int q4), .val (.long x7), .second, .val (.long x9), .second, .val (.long x11), .second, .val (.int v44), .unset, .unset] [])) rfl (hb hby at_122) (by decide) (by decide)
        obtain ⟨b122, g122⟩ : ∃ z, z = h0.size := ⟨_, rfl⟩
        rw [← g122] at A122 D122 st122
        have gb122 : n0 ≤ b122 := Nat.le_trans Z0 (Nat.le_of_eq g122.symm)
        have Z0_122 : n0 ≤ h122.size := Nat.le_trans Z0 E122.1
        have F_capacity_b122 : Fld Z h122 b122 "com/example/libsluice/libsluice/ByteLimit" "capacity" "J" (.long (0 : Int64)) := D122 (Or.inr (hw _ (List.mem_of_getElem? (i := 16) rfl))) (ty := .long) (by decide)
        have F_resumeMark_b122 : Fld Z h122 b122 "com/example/libsluice/libsluice/ByteLimit" "resumeMark" "J" (.long (0 : Int64)) := D122 (Or.inr (hw _ (List.mem_of_getElem? (i := 18) rfl))) (ty := .long) (by decide)
        refine own_goW (T' := T122) (mkF m 125 #[.val (.long q1), .second, .val (.long q2), .second, .val (.long q3), .second, .val (.int q4), .val (.long x7), .second, .val (.long x9), .second, .val (.long x11), .second, .val (.int v44), .unset, .unset] [(.ref b122)]) st122 ?_
        refine own_goW (mkF m 126 #[.val (.long q1), .second, .val (.long q2), .second, .val (.long q3), .second, .val (.int q4), .val (.long x7), .second, .val (.long x9), .second, .val (.long x11), .second, .val (.int v44), .unset, .unset] [(.ref b122), (.ref b122)]) (fun t k => XS.dup X122.here hx rfl (hb hby at_125) rfl rfl k) ?_
        refine own_goW (mkF m 128 #[.val (.long q1), .second, .val (.long q2), .second, .val (.long q3), .second, .val (.int q4), .val (.long x7), .second, .val (.long x9), .second, .val (.long x11), .second, .val (.int v44), .unset, .unset] [(.long x7), (.ref b122), (.ref b122)]) (fun t k => XS.lload X122.here hx rfl (hb hby at_126) rfl k) ?_
        refine own_goW (mkF m 130 #[.val (.long q1), .second, .val (.long q2), .second, .val (.long q3), .second, .val (.int q4), .val (.long x7), .second, .val (.long x9), .second, .val (.long x11), .second, .val (.int v44), .unset, .unset] [(.long x9), (.long x7), (.ref b122), (.ref b122)]) (fun t k => XS.lload X122.here hx rfl (hb hby at_128) rfl k) ?_
        refine own_callIW X122 hx hZ (y := (⟨"com/example/libsluice/libsluice/ByteLimit", "<init>", "(JJ)V"⟩ : MethodName)) hown rfl (hw _ (List.mem_of_getElem? (i := 4) rfl)) (hw _ (List.mem_of_getElem? (i := 5) rfl)) (hw _ (List.mem_of_getElem? (i := 3) rfl)) (hw _ (List.mem_of_getElem? (i := 6) rfl)) (by decide) e122 (rm1 l Z a0 hw [] b122 x7 x9 h122 n0 Z0_122 A122 F_capacity_b122 F_resumeMark_b122 gb122 hcr) 1 (by decide) (by decide) (by decide) (by decide) (g := (mkF m 130 #[.val (.long q1), .second, .val (.long q2), .second, .val (.long q3), .second, .val (.int q4), .val (.long x7), .second, .val (.long x9), .second, .val (.long x11), .second, .val (.int v44), .unset, .unset] [(.long x9), (.long x7), (.ref b122), (.ref b122)])) rfl (by rw [hml]; rfl) b122 [(.long x7), (.long x9)] [(.ref b122)] (lenOf pd0_0 rfl) rfl rfl (by show 2 * 0 + _ ≤ _; exact Nat.le_of_eq rfl) (hb hby at_130) ?_
        intro rv130 T130 h130 L130 X130 e130 hQ130
        obtain ⟨rfl, NQ130, KQ130, EQ130, F_capacity_b122_130, F_resumeMark_b122_130⟩ := hQ130
        have Z0_130 : n0 ≤ h130.size := Nat.le_trans Z0_122 KQ130.1
        have A122_130 := A122.keep KQ130
        have N130 := Fr.app N0 NQ130
        show own_EndsW p e below s room_1.cells room_1.slots (Q0 Z q1 q2 q3 q4 h0 n0) T130 (mkF m 133 #[.val (.long q1), .second, .val (.long q2), .second, .val (.long q3), .second, .val (.int q4), .val (.long x7), .second, .val (.long x9), .second, .val (.long x11), .second, .val (.int v44), .unset, .unset] [(.ref b122)])
        refine own_goW (mkF m 135 #[.val (.long q1), .second, .val (.long q2), .second, .val (.long q3), .second, .val (.int q4), .val (.long x7), .second, .val (.long x9), .second, .val (.long x11), .second, .val (.int v44), .val (.ref b122), .unset] []) (fun t k => XS.astore X130.here hx rfl (hb hby at_133) rfl rfl (l' := #[.val (.long q1), .second, .val (.long q2), .second, .val (.long q3), .second, .val (.int q4), .val (.long x7), .second, .val (.long x9), .second, .val (.long x11), .second, .val (.int v44), .val (.ref b122), .unset]) rfl k) ?_
        refine own_goW (mkF m 137 #[.val (.long q1), .second, .val (.long q2), .second, .val (.long q3), .second, .val (.int q4), .val (.long x7), .second, .val (.long x9), .second, .val (.long x11), .second, .val (.int v44), .val (.ref b122), .unset] [(.long x7)]) (fun t k => XS.lload X130.here hx rfl (hb hby at_135) rfl k) ?_
        refine own_goW (mkF m 138 #[.val (.long q1), .second, .val (.long q2), .second, .val (.long q3), .second, .val (.int q4), .val (.long x7), .second, .val (.long x9), .second, .val (.long x11), .second, .val (.int v44), .val (.ref b122), .unset] [(.long (0 : Int64)), (.long x7)]) (fun t k => XS.lconst X130.here hx rfl (hb hby at_137) k) ?_
        refine own_goW (mkF m 139 #[.val (.long q1), .second, .val (.long q2), .second, .val (.long q3), .second, .val (.int q4), .val (.long x7), .second, .val (.long x9), .second, .val (.long x11), .second, .val (.int v44), .val (.ref b122), .unset] [(.int (lcmpW x7 (0 : Int64)))]) (fun t k => XS.lcmp X130.here hx rfl (hb hby at_138) rfl k) ?_
        have j163 : ∀ (x15 : Int32), (x15.toInt = 1 ∧ (¬ x7.toInt = 0 ∧ x7.toInt < x11.toInt) ∨ x15.toInt = 0 ∧ ¬ (¬ x7.toInt = 0 ∧ x7.toInt < x11.toInt)) → own_EndsW p e below s room_1.cells room_1.slots (Q0 Z q1 q2 q3 q4 h0 n0) T130 (mkF m 163 #[.val (.long q1), .second, .val (.long q2), .second, .val (.long q3), .second, .val (.int q4), .val (.long x7), .second, .val (.long x9), .second, .val (.long x11), .second, .val (.int v44), .val (.ref b122), .val (.int x15)] []) := by
          intro x15 hj163
          have rj163 := rng32 x15
          refine own_goW (mkF m 165 #[.val (.long q1), .second, .val (.long q2), .second, .val (.long q3), .second, .val (.int q4), .val (.long x7), .second, .val (.long x9), .second, .val (.long x11), .second, .val (.int v44), .val (.ref b122), .val (.int x15)] [(.ref b122)]) (fun t k => XS.aload X130.here hx rfl (hb hby at_163) rfl rfl k) ?_
          refine own_goW (mkF m 167 #[.val (.long q1), .second, .val (.long q2), .second, .val (.long q3), .second, .val (.int q4), .val (.long x7), .second, .val (.long x9), .second, .val (.long x11), .second, .val (.int v44), .val (.ref b122), .val (.int x15)] [(.long x11), (.ref b122)]) (fun t k => XS.lload X130.here hx rfl (hb hby at_165) rfl k) ?_
          refine own_callVS X130 hx hZ (y := (⟨"com/example/libsluice/libsluice/ByteLimit", "neverFits", "(J)Z"⟩ : MethodName)) hown (hw _ (List.mem_of_getElem? (i := 19) rfl)) (hw _ (List.mem_of_getElem? (i := 20) rfl)) (hw _ (List.mem_of_getElem? (i := 22) rfl)) (hw _ (List.mem_of_getElem? (i := 21) rfl)) (hw _ (List.mem_of_getElem? (i := 3) rfl)) (hw _ (List.mem_of_getElem? (i := 23) rfl)) (by decide) e130 b122 A122_130 (rm5 l Z a0 hw [] b122 x11 x7 h130 n0 Z0_130 A122_130 F_capacity_b122_130 hj122) 0 (by decide) (by decide) (by decide) (by decide) (g := (mkF m 167 #[.val (.long q1), .second, .val (.long q2), .second, .val (.long q3), .second, .val (.int q4), .val (.long x7), .second, .val (.long x9), .second, .val (.long x11), .second, .val (.int v44), .val (.ref b122), .val (.int x15)] [(.long x11), (.ref b122)])) rfl (by rw [hml]; rfl) [(.long x11)] [] (lenOf pd0_1 rfl) rfl rfl (by show 2 * 0 + _ ≤ _; exact Nat.le_of_eq rfl) (hb hby at_167) ?_
          intro rv167 T167 h167 L167 X167 e167 hSi hQ167
          obtain ⟨⟨r167, rfl, hr167⟩, NQ167, KQ167⟩ := hQ167
          have N167 := Fr.app N130 NQ167
          show own_EndsW p e below s room_1.cells room_1.slots (Q0 Z q1 q2 q3 q4 h0 n0) T167 (mkF m 170 #[.val (.long q1), .second, .val (.long q2), .second, .val (.long q3), .second, .val (.int q4), .val (.long x7), .second, .val (.long x9), .second, .val (.long x11), .second, .val (.int v44), .val (.ref b122), .val (.int x15)] [(.int r167)])
          refine own_goW (mkF m 172 #[.val (.long q1), .second, .val (.long q2), .second, .val (.long q3), .second, .val (.int q4), .val (.long x7), .second, .val (.long x9), .second, .val (.long x11), .second, .val (.int v44), .val (.ref b122), .val (.int x15)] [(.int x15), (.int r167)]) (fun t k => XS.iload X167.here hx rfl (hb hby at_170) rfl k) ?_
          have c172 : r167.toInt = x15.toInt := by clear hcr; omega
          refine own_goW (mkF m 175 #[.val (.long q1), .second, .val (.long q2), .second, .val (.long q3), .second, .val (.int q4), .val (.long x7), .second, .val (.long x9), .second, .val (.long x11), .second, .val (.int v44), .val (.ref b122), .val (.int x15)] []) (fun t k => XS.icmpNo X167.here hx rfl (hb hby at_172) rfl (own_icF (cd := .ne) (fun q => q c172)) k) ?_
          refine own_goW (mkF m 176 #[.val (.long q1), .second, .val (.long q2), .second, .val (.long q3), .second, .val (.int q4), .val (.long x7), .second, .val (.long x9), .second, .val (.long x11), .second, .val (.int v44), .val (.ref b122), .val (.int x15)] [(.int (1 : Int32))]) (fun t k => XS.iconst X167.here hx rfl (hb hby at_175) k) ?_
          refine own_goW (mkF m 180 #[.val (.long q1), .second, .val (.long q2), .second, .val (.long q3), .second, .val (.int q4), .val (.long x7), .second, .val (.long x9), .second, .val (.long x11), .second, .val (.int v44), .val (.ref b122), .val (.int x15)] [(.int (1 : Int32))]) (fun t k => XS.goto X167.here hx rfl (pc0 := 176) (pc' := 180) rfl (hb hby at_176) (by decide) (by decide) k) ?_
          refine own_retIW X167 hx hlk hSi (Nat.le_of_eq (by rw [e167])) hret (by simp) rfl (hb hby at_180) (by decide) (by decide) ?_
          rw [e167]
          exact ⟨rfl, N167⟩
        by_cases c139 : x7.toInt = 0
        · skip
          refine own_goW (mkF m 142 #[.val (.long q1), .second, .val (.long q2), .second, .val (.long q3), .second, .val (.int q4), .val (.long x7), .second, .val (.long x9), .second, .val (.long x11), .second, .val (.int v44), .val (.ref b122), .unset] []) (fun t k => XS.ifNo X130.here hx rfl (hb hby at_139) rfl (own_lcF (cd := .ne) (fun q => q c139)) k) ?_
          refine own_goW (mkF m 143 #[.val (.long q1), .second, .val (.long q2), .second, .val (.long q3), .second, .val (.int q4), .val (.long x7), .second, .val (.long x9), .second, .val (.long x11), .second, .val (.int v44), .val (.ref b122), .unset] [(.int (0 : Int32))]) (fun t k => XS.iconst X130.here hx rfl (hb hby at_142) k) ?_
          refine own_goW (mkF m 145 #[.val (.long q1), .second, .val (.long q2), .second, .val (.long q3), .second, .val (.int q4), .val (.long x7), .second, .val (.long x9), .second, .val (.long x11), .second, .val (.int v44), .val (.ref b122), .val (.int (0 : Int32))] []) (fun t k => XS.istore X130.here hx rfl (hb hby at_143) rfl (l' := #[.val (.long q1), .second, .val (.long q2), .second, .val (.long q3), .second, .val (.int q4), .val (.long x7), .second, .val (.long x9), .second, .val (.long x11), .second, .val (.int v44), .val (.ref b122), .val (.int (0 : Int32))]) rfl k) ?_
          refine own_goW (mkF m 163 #[.val (.long q1), .second, .val (.long q2), .second, .val (.long q3), .second, .val (.int q4), .val (.long x7), .second, .val (.long x9), .second, .val (.long x11), .second, .val (.int v44), .val (.ref b122), .val (.int (0 : Int32))] []) (fun t k => XS.goto X130.here hx rfl (pc0 := 145) (pc' := 163) rfl (hb hby at_145) (by decide) (by decide) k) ?_
          exact j163 (0 : Int32) (by have lz : (0 : Int32).toInt = 0 := rfl; omega)
        · skip
          refine own_goW (mkF m 148 #[.val (.long q1), .second, .val (.long q2), .second, .val (.long q3), .second, .val (.int q4), .val (.long x7), .second, .val (.long x9), .second, .val (.long x11), .second, .val (.int v44), .val (.ref b122), .unset] []) (fun t k => XS.ifYes X130.here hx rfl (pc0 := 139) (pc' := 148) rfl (hb hby at_139) rfl (own_lcT (cd := .ne) c139) (by decide) (by decide) k) ?_
          refine own_goW (mkF m 150 #[.val (.long q1), .second, .val (.long q2), .second, .val (.long q3), .second, .val (.int q4), .val (.long x7), .second, .val (.long x9), .second, .val (.long x11), .second, .val (.int v44), .val (.ref b122), .unset] [(.long x11)]) (fun t k => XS.lload X130.here hx rfl (hb hby at_148) rfl k) ?_
          refine own_goW (mkF m 152 #[.val (.long q1), .second, .val (.long q2), .second, .val (.long q3), .second, .val (.int q4), .val (.long x7), .second, .val (.long x9), .second, .val (.long x11), .second, .val (.int v44), .val (.ref b122), .unset] [(.long x7), (.long x11)]) (fun t k => XS.lload X130.here hx rfl (hb hby at_150) rfl k) ?_
          refine own_goW (mkF m 153 #[.val (.long q1), .second, .val (.long q2), .second, .val (.long q3), .second, .val (.int q4), .val (.long x7), .second, .val (.long x9), .second, .val (.long x11), .second, .val (.int v44), .val (.ref b122), .unset] [(.int (lcmpW x11 x7))]) (fun t k => XS.lcmp X130.here hx rfl (hb hby at_152) rfl k) ?_
          by_cases c153 : x11.toInt ≤ x7.toInt
          · skip
            refine own_goW (mkF m 160 #[.val (.long q1), .second, .val (.long q2), .second, .val (.long q3), .second, .val (.int q4), .val (.long x7), .second, .val (.long x9), .second, .val (.long x11), .second, .val (.int v44), .val (.ref b122), .unset] []) (fun t k => XS.ifYes X130.here hx rfl (pc0 := 153) (pc' := 160) rfl (hb hby at_153) rfl (own_lcT (cd := .le) c153) (by decide) (by decide) k) ?_
            refine own_goW (mkF m 161 #[.val (.long q1), .second, .val (.long q2), .second, .val (.long q3), .second, .val (.int q4), .val (.long x7), .second, .val (.long x9), .second, .val (.long x11), .second, .val (.int v44), .val (.ref b122), .unset] [(.int (0 : Int32))]) (fun t k => XS.iconst X130.here hx rfl (hb hby at_160) k) ?_
            refine own_goW (mkF m 163 #[.val (.long q1), .second, .val (.long q2), .second, .val (.long q3), .second, .val (.int q4), .val (.long x7), .second, .val (.long x9), .second, .val (.long x11), .second, .val (.int v44), .val (.ref b122), .val (.int (0 : Int32))] []) (fun t k => XS.istore X130.here hx rfl (hb hby at_161) rfl (l' := #[.val (.long q1), .second, .val (.long q2), .second, .val (.long q3), .second, .val (.int q4), .val (.long x7), .second, .val (.long x9), .second, .val (.long x11), .second, .val (.int v44), .val (.ref b122), .val (.int (0 : Int32))]) rfl k) ?_
            exact j163 (0 : Int32) (by have lz : (0 : Int32).toInt = 0 := rfl; omega)
          · skip
            refine own_goW (mkF m 156 #[.val (.long q1), .second, .val (.long q2), .second, .val (.long q3), .second, .val (.int q4), .val (.long x7), .second, .val (.long x9), .second, .val (.long x11), .second, .val (.int v44), .val (.ref b122), .unset] []) (fun t k => XS.ifNo X130.here hx rfl (hb hby at_153) rfl (own_lcF (cd := .le) c153) k) ?_
            refine own_goW (mkF m 157 #[.val (.long q1), .second, .val (.long q2), .second, .val (.long q3), .second, .val (.int q4), .val (.long x7), .second, .val (.long x9), .second, .val (.long x11), .second, .val (.int v44), .val (.ref b122), .unset] [(.int (1 : Int32))]) (fun t k => XS.iconst X130.here hx rfl (hb hby at_156) k) ?_
            refine own_goW (mkF m 161 #[.val (.long q1), .second, .val (.long q2), .second, .val (.long q3), .second, .val (.int q4), .val (.long x7), .second, .val (.long x9), .second, .val (.long x11), .second, .val (.int v44), .val (.ref b122), .unset] [(.int (1 : Int32))]) (fun t k => XS.goto X130.here hx rfl (pc0 := 157) (pc' := 161) rfl (hb hby at_157) (by decide) (by decide) k) ?_
            refine own_goW (mkF m 163 #[.val (.long q1), .second, .val (.long q2), .second, .val (.long q3), .second, .val (.int q4), .val (.long x7), .second, .val (.long x9), .second, .val (.long x11), .second, .val (.int v44), .val (.ref b122), .val (.int (1 : Int32))] []) (fun t k => XS.istore X130.here hx rfl (hb hby at_161) rfl (l' := #[.val (.long q1), .second, .val (.long q2), .second, .val (.long q3), .second, .val (.int q4), .val (.long x7), .second, .val (.long x9), .second, .val (.long x11), .second, .val (.int v44), .val (.ref b122), .val (.int (1 : Int32))]) rfl k) ?_
            exact j163 (1 : Int32) (by have lz : (1 : Int32).toInt = 1 := rfl; omega)
      by_cases c49 : v44.toInt = 0
      · skip
        refine own_goW (mkF m 52 #[.val (.long q1), .second, .val (.long q2), .second, .val (.long q3), .second, .val (.int q4), .val (.long x7), .second, .val (.long x9), .second, .unset, .unset, .val (.int v44), .unset, .unset] []) (fun t k => XS.ifNo X0.here hx rfl (hb hby at_49) rfl (own_zF (cd := .ne) (fun q => q c49)) k) ?_
        refine own_goW (mkF m 54 #[.val (.long q1), .second, .val (.long q2), .second, .val (.long q3), .second, .val (.int q4), .val (.long x7), .second, .val (.long x9), .second, .unset, .unset, .val (.int v44), .unset, .unset] [(.long q3)]) (fun t k => XS.lload X0.here hx rfl (hb hby at_52) rfl k) ?_
        refine own_goW (mkF m 57 #[.val (.long q1), .second, .val (.long q2), .second, .val (.long q3), .second, .val (.int q4), .val (.long x7), .second, .val (.long x9), .second, .unset, .unset, .val (.int v44), .unset, .unset] [(.long (9223372036854775807 : Int64)), (.long q3)]) (fun t k => X0.ldc2Long hx hown (mvT hZ (hw _ (List.mem_of_getElem? (i := 0) rfl))) (g := (mkF m 54 #[.val (.long q1), .second, .val (.long q2), .second, .val (.long q3), .second, .val (.int q4), .val (.long x7), .second, .val (.long x9), .second, .unset, .unset, .val (.int v44), .unset, .unset] [(.long q3)])) rfl (hb hby at_54) _ k) ?_
        refine own_goW (mkF m 58 #[.val (.long q1), .second, .val (.long q2), .second, .val (.long q3), .second, .val (.int q4), .val (.long x7), .second, .val (.long x9), .second, .unset, .unset, .val (.int v44), .unset, .unset] [(.long (q3 &&& (9223372036854775807 : Int64)))]) (fun t k => XS.land X0.here hx rfl (hb hby at_57) rfl k) ?_
        generalize hv57 : (q3 &&& (9223372036854775807 : Int64)) = v57
        have f57 : v57.toInt = q3.toInt % 9223372036854775808 := by rw [← hv57]; exact c_maskL q3 (9223372036854775807 : Int64) 63 (by decide) (by decide)
        have r57 := rng64 v57
        refine own_goW (mkF m 60 #[.val (.long q1), .second, .val (.long q2), .second, .val (.long q3), .second, .val (.int q4), .val (.long x7), .second, .val (.long x9), .second, .val (.long v57), .second, .val (.int v44), .unset, .unset] []) (fun t k => XS.lstore X0.here hx rfl (hb hby at_58) rfl (l' := #[.val (.long q1), .second, .val (.long q2), .second, .val (.long q3), .second, .val (.int q4), .val (.long x7), .second, .val (.long x9), .second, .val (.long v57), .second, .val (.int v44), .unset, .unset]) rfl k) ?_
        refine own_goW (mkF m 122 #[.val (.long q1), .second, .val (.long q2), .second, .val (.long q3), .second, .val (.int q4), .val (.long x7), .second, .val (.long x9), .second, .val (.long v57), .second, .val (.int v44), .unset, .unset] []) (fun t k => XS.goto X0.here hx rfl (pc0 := 60) (pc' := 122) rfl (hb hby at_60) (by decide) (by decide) k) ?_
        exact j122 v57 (by omega)
      · skip
        refine own_goW (mkF m 63 #[.val (.long q1), .second, .val (.long q2), .second, .val (.long q3), .second, .val (.int q4), .val (.long x7), .second, .val (.long x9), .second, .unset, .unset, .val (.int v44), .unset, .unset] []) (fun t k => XS.ifYes X0.here hx rfl (pc0 := 49) (pc' := 63) rfl (hb hby at_49) rfl (own_zT (cd := .ne) c49) (by decide) (by decide) k) ?_
        refine own_goW (mkF m 65 #[.val (.long q1), .second, .val (.long q2), .second, .val (.long q3), .second, .val (.int q4), .val (.long x7), .second, .val (.long x9), .second, .unset, .unset, .val (.int v44), .unset, .unset] [(.int v44)]) (fun t k => XS.iload X0.here hx rfl (hb hby at_63) rfl k) ?_
        refine own_goW (mkF m 66 #[.val (.long q1), .second, .val (.long q2), .second, .val (.long q3), .second, .val (.int q4), .val (.long x7), .second, .val (.long x9), .second, .unset, .unset, .val (.int v44), .unset, .unset] [(.int (1 : Int32)), (.int v44)]) (fun t k => XS.iconst X0.here hx rfl (hb hby at_65) k) ?_
        by_cases c66 : v44.toInt = 1
        · skip
          refine own_goW (mkF m 69 #[.val (.long q1), .second, .val (.long q2), .second, .val (.long q3), .second, .val (.int q4), .val (.long x7), .second, .val (.long x9), .second, .unset, .unset, .val (.int v44), .unset, .unset] []) (fun t k => XS.icmpNo X0.here hx rfl (hb hby at_66) rfl (own_icF (cd := .ne) (fun q => q c66)) k) ?_
          refine own_goW (mkF m 71 #[.val (.long q1), .second, .val (.long q2), .second, .val (.long q3), .second, .val (.int q4), .val (.long x7), .second, .val (.long x9), .second, .unset, .unset, .val (.int v44), .unset, .unset] [(.long x7)]) (fun t k => XS.lload X0.here hx rfl (hb hby at_69) rfl k) ?_
          refine own_goW (mkF m 73 #[.val (.long q1), .second, .val (.long q2), .second, .val (.long q3), .second, .val (.int q4), .val (.long x7), .second, .val (.long x9), .second, .val (.long x7), .second, .val (.int v44), .unset, .unset] []) (fun t k => XS.lstore X0.here hx rfl (hb hby at_71) rfl (l' := #[.val (.long q1), .second, .val (.long q2), .second, .val (.long q3), .second, .val (.int q4), .val (.long x7), .second, .val (.long x9), .second, .val (.long x7), .second, .val (.int v44), .unset, .unset]) rfl k) ?_
          refine own_goW (mkF m 122 #[.val (.long q1), .second, .val (.long q2), .second, .val (.long q3), .second, .val (.int q4), .val (.long x7), .second, .val (.long x9), .second, .val (.long x7), .second, .val (.int v44), .unset, .unset] []) (fun t k => XS.goto X0.here hx rfl (pc0 := 73) (pc' := 122) rfl (hb hby at_73) (by decide) (by decide) k) ?_
          exact j122 x7 (by omega)
        · skip
          refine own_goW (mkF m 76 #[.val (.long q1), .second, .val (.long q2), .second, .val (.long q3), .second, .val (.int q4), .val (.long x7), .second, .val (.long x9), .second, .unset, .unset, .val (.int v44), .unset, .unset] []) (fun t k => XS.icmpYes X0.here hx rfl (pc0 := 66) (pc' := 76) rfl (hb hby at_66) rfl (own_icT (cd := .ne) c66) (by decide) (by decide) k) ?_
          refine own_goW (mkF m 78 #[.val (.long q1), .second, .val (.long q2), .second, .val (.long q3), .second, .val (.int q4), .val (.long x7), .second, .val (.long x9), .second, .unset, .unset, .val (.int v44), .unset, .unset] [(.int v44)]) (fun t k => XS.iload X0.here hx rfl (hb hby at_76) rfl k) ?_
          refine own_goW (mkF m 79 #[.val (.long q1), .second, .val (.long q2), .second, .val (.long q3), .second, .val (.int q4), .val (.long x7), .second, .val (.long x9), .second, .unset, .unset, .val (.int v44), .unset, .unset] [(.int (2 : Int32)), (.int v44)]) (fun t k => XS.iconst X0.here hx rfl (hb hby at_78) k) ?_
          by_cases c79 : v44.toInt = 2
          · skip
            refine own_goW (mkF m 82 #[.val (.long q1), .second, .val (.long q2), .second, .val (.long q3), .second, .val (.int q4), .val (.long x7), .second, .val (.long x9), .second, .unset, .unset, .val (.int v44), .unset, .unset] []) (fun t k => XS.icmpNo X0.here hx rfl (hb hby at_79) rfl (own_icF (cd := .ne) (fun q => q c79)) k) ?_
            refine own_goW (mkF m 84 #[.val (.long q1), .second, .val (.long q2), .second, .val (.long q3), .second, .val (.int q4), .val (.long x7), .second, .val (.long x9), .second, .unset, .unset, .val (.int v44), .unset, .unset] [(.long x7)]) (fun t k => XS.lload X0.here hx rfl (hb hby at_82) rfl k) ?_
            refine own_goW (mkF m 87 #[.val (.long q1), .second, .val (.long q2), .second, .val (.long q3), .second, .val (.int q4), .val (.long x7), .second, .val (.long x9), .second, .unset, .unset, .val (.int v44), .unset, .unset] [(.long (9223372036854775807 : Int64)), (.long x7)]) (fun t k => X0.ldc2Long hx hown (mvT hZ (hw _ (List.mem_of_getElem? (i := 0) rfl))) (g := (mkF m 84 #[.val (.long q1), .second, .val (.long q2), .second, .val (.long q3), .second, .val (.int q4), .val (.long x7), .second, .val (.long x9), .second, .unset, .unset, .val (.int v44), .unset, .unset] [(.long x7)])) rfl (hb hby at_84) _ k) ?_
            refine own_goW (mkF m 88 #[.val (.long q1), .second, .val (.long q2), .second, .val (.long q3), .second, .val (.int q4), .val (.long x7), .second, .val (.long x9), .second, .unset, .unset, .val (.int v44), .unset, .unset] [(.int (lcmpW x7 (9223372036854775807 : Int64)))]) (fun t k => XS.lcmp X0.here hx rfl (hb hby at_87) rfl k) ?_
            by_cases c88 : x7.toInt = 9223372036854775807
            · skip
              refine own_goW (mkF m 91 #[.val (.long q1), .second, .val (.long q2), .second, .val (.long q3), .second, .val (.int q4), .val (.long x7), .second, .val (.long x9), .second, .unset, .unset, .val (.int v44), .unset, .unset] []) (fun t k => XS.ifNo X0.here hx rfl (hb hby at_88) rfl (own_lcF (cd := .ne) (fun q => q c88)) k) ?_
              refine own_goW (mkF m 93 #[.val (.long q1), .second, .val (.long q2), .second, .val (.long q3), .second, .val (.int q4), .val (.long x7), .second, .val (.long x9), .second, .unset, .unset, .val (.int v44), .unset, .unset] [(.long x7)]) (fun t k => XS.lload X0.here hx rfl (hb hby at_91) rfl k) ?_
              refine own_goW (mkF m 100 #[.val (.long q1), .second, .val (.long q2), .second, .val (.long q3), .second, .val (.int q4), .val (.long x7), .second, .val (.long x9), .second, .unset, .unset, .val (.int v44), .unset, .unset] [(.long x7)]) (fun t k => XS.goto X0.here hx rfl (pc0 := 93) (pc' := 100) rfl (hb hby at_93) (by decide) (by decide) k) ?_
              refine own_goW (mkF m 102 #[.val (.long q1), .second, .val (.long q2), .second, .val (.long q3), .second, .val (.int q4), .val (.long x7), .second, .val (.long x9), .second, .val (.long x7), .second, .val (.int v44), .unset, .unset] []) (fun t k => XS.lstore X0.here hx rfl (hb hby at_100) rfl (l' := #[.val (.long q1), .second, .val (.long q2), .second, .val (.long q3), .second, .val (.int q4), .val (.long x7), .second, .val (.long x9), .second, .val (.long x7), .second, .val (.int v44), .unset, .unset]) rfl k) ?_
              refine own_goW (mkF m 122 #[.val (.long q1), .second, .val (.long q2), .second, .val (.long q3), .second, .val (.int q4), .val (.long x7), .second, .val (.long x9), .second, .val (.long x7), .second, .val (.int v44), .unset, .unset] []) (fun t k => XS.goto X0.here hx rfl (pc0 := 102) (pc' := 122) rfl (hb hby at_102) (by decide) (by decide) k) ?_
              exact j122 x7 (by omega)
            · skip
              refine own_goW (mkF m 96 #[.val (.long q1), .second, .val (.long q2), .second, .val (.long q3), .second, .val (.int q4), .val (.long x7), .second, .val (.long x9), .second, .unset, .unset, .val (.int v44), .unset, .unset] []) (fun t k => XS.ifYes X0.here hx rfl (pc0 := 88) (pc' := 96) rfl (hb hby at_88) rfl (own_lcT (cd := .ne) c88) (by decide) (by decide) k) ?_
              refine own_goW (mkF m 98 #[.val (.long q1), .second, .val (.long q2), .second, .val (.long q3), .second, .val (.int q4), .val (.long x7), .second, .val (.long x9), .second, .unset, .unset, .val (.int v44), .unset, .unset] [(.long x7)]) (fun t k => XS.lload X0.here hx rfl (hb hby at_96) rfl k) ?_
              refine own_goW (mkF m 99 #[.val (.long q1), .second, .val (.long q2), .second, .val (.long q3), .second, .val (.int q4), .val (.long x7), .second, .val (.long x9), .second, .unset, .unset, .val (.int v44), .unset, .unset] [(.long (1 : Int64)), (.long x7)]) (fun t k => XS.lconst X0.here hx rfl (hb hby at_98) k) ?_
              refine own_goW (mkF m 100 #[.val (.long q1), .second, .val (.long q2), .second, .val (.long q3), .second, .val (.int q4), .val (.long x7), .second, .val (.long x9), .second, .unset, .unset, .val (.int v44), .unset, .unset] [(.long (x7 + (1 : Int64)))]) (fun t k => XS.ladd X0.here hx rfl (hb hby at_99) rfl k) ?_
              generalize hv99 : (x7 + (1 : Int64)) = v99
              have f99 : (v99.toInt - (x7.toInt + 1)) % 18446744073709551616 = 0 := by rw [← hv99]; exact c_ladd x7 (1 : Int64)
              have r99 := rng64 v99
              refine own_goW (mkF m 102 #[.val (.long q1), .second, .val (.long q2), .second, .val (.long q3), .second, .val (.int q4), .val (.long x7), .second, .val (.long x9), .second, .val (.long v99), .second, .val (.int v44), .unset, .unset] []) (fun t k => XS.lstore X0.here hx rfl (hb hby at_100) rfl (l' := #[.val (.long q1), .second, .val (.long q2), .second, .val (.long q3), .second, .val (.int q4), .val (.long x7), .second, .val (.long x9), .second, .val (.long v99), .second, .val (.int v44), .unset, .unset]) rfl k) ?_
              refine own_goW (mkF m 122 #[.val (.long q1), .second, .val (.long q2), .second, .val (.long q3), .second, .val (.int q4), .val (.long x7), .second, .val (.long x9), .second, .val (.long v99), .second, .val (.int v44), .unset, .unset] []) (fun t k => XS.goto X0.here hx rfl (pc0 := 102) (pc' := 122) rfl (hb hby at_102) (by decide) (by decide) k) ?_
              exact j122 v99 (by omega)
          · skip
            refine own_goW (mkF m 105 #[.val (.long q1), .second, .val (.long q2), .second, .val (.long q3), .second, .val (.int q4), .val (.long x7), .second, .val (.long x9), .second, .unset, .unset, .val (.int v44), .unset, .unset] []) (fun t k => XS.icmpYes X0.here hx rfl (pc0 := 79) (pc' := 105) rfl (hb hby at_79) rfl (own_icT (cd := .ne) c79) (by decide) (by decide) k) ?_
            refine own_goW (mkF m 107 #[.val (.long q1), .second, .val (.long q2), .second, .val (.long q3), .second, .val (.int q4), .val (.long x7), .second, .val (.long x9), .second, .unset, .unset, .val (.int v44), .unset, .unset] [(.long x7)]) (fun t k => XS.lload X0.here hx rfl (hb hby at_105) rfl k) ?_
            refine own_goW (mkF m 108 #[.val (.long q1), .second, .val (.long q2), .second, .val (.long q3), .second, .val (.int q4), .val (.long x7), .second, .val (.long x9), .second, .unset, .unset, .val (.int v44), .unset, .unset] [(.long (0 : Int64)), (.long x7)]) (fun t k => XS.lconst X0.here hx rfl (hb hby at_107) k) ?_
            refine own_goW (mkF m 109 #[.val (.long q1), .second, .val (.long q2), .second, .val (.long q3), .second, .val (.int q4), .val (.long x7), .second, .val (.long x9), .second, .unset, .unset, .val (.int v44), .unset, .unset] [(.int (lcmpW x7 (0 : Int64)))]) (fun t k => XS.lcmp X0.here hx rfl (hb hby at_108) rfl k) ?_
            by_cases c109 : x7.toInt = 0
            · skip
              refine own_goW (mkF m 112 #[.val (.long q1), .second, .val (.long q2), .second, .val (.long q3), .second, .val (.int q4), .val (.long x7), .second, .val (.long x9), .second, .unset, .unset, .val (.int v44), .unset, .unset] []) (fun t k => XS.ifNo X0.here hx rfl (hb hby at_109) rfl (own_lcF (cd := .ne) (fun q => q c109)) k) ?_
              refine own_goW (mkF m 113 #[.val (.long q1), .second, .val (.long q2), .second, .val (.long q3), .second, .val (.int q4), .val (.long x7), .second, .val (.long x9), .second, .unset, .unset, .val (.int v44), .unset, .unset] [(.long (0 : Int64))]) (fun t k => XS.lconst X0.here hx rfl (hb hby at_112) k) ?_
              refine own_goW (mkF m 120 #[.val (.long q1), .second, .val (.long q2), .second, .val (.long q3), .second, .val (.int q4), .val (.long x7), .second, .val (.long x9), .second, .unset, .unset, .val (.int v44), .unset, .unset] [(.long (0 : Int64))]) (fun t k => XS.goto X0.here hx rfl (pc0 := 113) (pc' := 120) rfl (hb hby at_113) (by decide) (by decide) k) ?_
              refine own_goW (mkF m 122 #[.val (.long q1), .second, .val (.long q2), .second, .val (.long q3), .second, .val (.int q4), .val (.long x7), .second, .val (.long x9), .second, .val (.long (0 : Int64)), .second, .val (.int v44), .unset, .unset] []) (fun t k => XS.lstore X0.here hx rfl (hb hby at_120) rfl (l' := #[.val (.long q1), .second, .val (.long q2), .second, .val (.long q3), .second, .val (.int q4), .val (.long x7), .second, .val (.long x9), .second, .val (.long (0 : Int64)), .second, .val (.int v44), .unset, .unset]) rfl k) ?_
              exact j122 (0 : Int64) (by have lz : (0 : Int64).toInt = 0 := rfl; omega)
            · skip
              refine own_goW (mkF m 116 #[.val (.long q1), .second, .val (.long q2), .second, .val (.long q3), .second, .val (.int q4), .val (.long x7), .second, .val (.long x9), .second, .unset, .unset, .val (.int v44), .unset, .unset] []) (fun t k => XS.ifYes X0.here hx rfl (pc0 := 109) (pc' := 116) rfl (hb hby at_109) rfl (own_lcT (cd := .ne) c109) (by decide) (by decide) k) ?_
              refine own_goW (mkF m 118 #[.val (.long q1), .second, .val (.long q2), .second, .val (.long q3), .second, .val (.int q4), .val (.long x7), .second, .val (.long x9), .second, .unset, .unset, .val (.int v44), .unset, .unset] [(.long x7)]) (fun t k => XS.lload X0.here hx rfl (hb hby at_116) rfl k) ?_
              refine own_goW (mkF m 119 #[.val (.long q1), .second, .val (.long q2), .second, .val (.long q3), .second, .val (.int q4), .val (.long x7), .second, .val (.long x9), .second, .unset, .unset, .val (.int v44), .unset, .unset] [(.long (1 : Int64)), (.long x7)]) (fun t k => XS.lconst X0.here hx rfl (hb hby at_118) k) ?_
              refine own_goW (mkF m 120 #[.val (.long q1), .second, .val (.long q2), .second, .val (.long q3), .second, .val (.int q4), .val (.long x7), .second, .val (.long x9), .second, .unset, .unset, .val (.int v44), .unset, .unset] [(.long (x7 - (1 : Int64)))]) (fun t k => XS.lsub X0.here hx rfl (hb hby at_119) rfl k) ?_
              generalize hv119 : (x7 - (1 : Int64)) = v119
              have f119 : (v119.toInt - (x7.toInt - 1)) % 18446744073709551616 = 0 := by rw [← hv119]; exact c_lsub x7 (1 : Int64)
              have r119 := rng64 v119
              refine own_goW (mkF m 122 #[.val (.long q1), .second, .val (.long q2), .second, .val (.long q3), .second, .val (.int q4), .val (.long x7), .second, .val (.long x9), .second, .val (.long v119), .second, .val (.int v44), .unset, .unset] []) (fun t k => XS.lstore X0.here hx rfl (hb hby at_120) rfl (l' := #[.val (.long q1), .second, .val (.long q2), .second, .val (.long q3), .second, .val (.int q4), .val (.long x7), .second, .val (.long x9), .second, .val (.long v119), .second, .val (.int v44), .unset, .unset]) rfl k) ?_
              exact j122 v119 (by omega)
    by_cases c22 : x7.toInt = 0
    · skip
      refine own_goW (mkF m 25 #[.val (.long q1), .second, .val (.long q2), .second, .val (.long q3), .second, .val (.int q4), .val (.long x7), .second, .unset, .unset, .unset, .unset, .unset, .unset, .unset] []) (fun t k => XS.ifNo X0.here hx rfl (hb hby at_22) rfl (own_lcF (cd := .ne) (fun q => q c22)) k) ?_
      refine own_goW (mkF m 26 #[.val (.long q1), .second, .val (.long q2), .second, .val (.long q3), .second, .val (.int q4), .val (.long x7), .second, .unset, .unset, .unset, .unset, .unset, .unset, .unset] [(.long (0 : Int64))]) (fun t k => XS.lconst X0.here hx rfl (hb hby at_25) k) ?_
      refine own_goW (mkF m 39 #[.val (.long q1), .second, .val (.long q2), .second, .val (.long q3), .second, .val (.int q4), .val (.long x7), .second, .unset, .unset, .unset, .unset, .unset, .unset, .unset] [(.long (0 : Int64))]) (fun t k => XS.goto X0.here hx rfl (pc0 := 26) (pc' := 39) rfl (hb hby at_26) (by decide) (by decide) k) ?_
      refine own_goW (mkF m 41 #[.val (.long q1), .second, .val (.long q2), .second, .val (.long q3), .second, .val (.int q4), .val (.long x7), .second, .val (.long (0 : Int64)), .second, .unset, .unset, .unset, .unset, .unset] []) (fun t k => XS.lstore X0.here hx rfl (hb hby at_39) rfl (l' := #[.val (.long q1), .second, .val (.long q2), .second, .val (.long q3), .second, .val (.int q4), .val (.long x7), .second, .val (.long (0 : Int64)), .second, .unset, .unset, .unset, .unset, .unset]) rfl k) ?_
      exact j41 (0 : Int64) (by have lz : (0 : Int64).toInt = 0 := rfl; omega)
    · skip
      refine own_goW (mkF m 29 #[.val (.long q1), .second, .val (.long q2), .second, .val (.long q3), .second, .val (.int q4), .val (.long x7), .second, .unset, .unset, .unset, .unset, .unset, .unset, .unset] []) (fun t k => XS.ifYes X0.here hx rfl (pc0 := 22) (pc' := 29) rfl (hb hby at_22) rfl (own_lcT (cd := .ne) c22) (by decide) (by decide) k) ?_
      refine own_goW (mkF m 30 #[.val (.long q1), .second, .val (.long q2), .second, .val (.long q3), .second, .val (.int q4), .val (.long x7), .second, .unset, .unset, .unset, .unset, .unset, .unset, .unset] [(.long (1 : Int64))]) (fun t k => XS.lconst X0.here hx rfl (hb hby at_29) k) ?_
      refine own_goW (mkF m 31 #[.val (.long q1), .second, .val (.long q2), .second, .val (.long q3), .second, .val (.int q4), .val (.long x7), .second, .unset, .unset, .unset, .unset, .unset, .unset, .unset] [(.long q2), (.long (1 : Int64))]) (fun t k => XS.lloadN X0.here hx rfl (hb hby at_30) rfl k) ?_
      refine own_goW (mkF m 34 #[.val (.long q1), .second, .val (.long q2), .second, .val (.long q3), .second, .val (.int q4), .val (.long x7), .second, .unset, .unset, .unset, .unset, .unset, .unset, .unset] [(.long (9223372036854775807 : Int64)), (.long q2), (.long (1 : Int64))]) (fun t k => X0.ldc2Long hx hown (mvT hZ (hw _ (List.mem_of_getElem? (i := 0) rfl))) (g := (mkF m 31 #[.val (.long q1), .second, .val (.long q2), .second, .val (.long q3), .second, .val (.int q4), .val (.long x7), .second, .unset, .unset, .unset, .unset, .unset, .unset, .unset] [(.long q2), (.long (1 : Int64))])) rfl (hb hby at_31) _ k) ?_
      refine own_goW (mkF m 35 #[.val (.long q1), .second, .val (.long q2), .second, .val (.long q3), .second, .val (.int q4), .val (.long x7), .second, .unset, .unset, .unset, .unset, .unset, .unset, .unset] [(.long (q2 &&& (9223372036854775807 : Int64))), (.long (1 : Int64))]) (fun t k => XS.land X0.here hx rfl (hb hby at_34) rfl k) ?_
      generalize hv34 : (q2 &&& (9223372036854775807 : Int64)) = v34
      have f34 : v34.toInt = q2.toInt % 9223372036854775808 := by rw [← hv34]; exact c_maskL q2 (9223372036854775807 : Int64) 63 (by decide) (by decide)
      have r34 := rng64 v34
      refine own_goW (mkF m 37 #[.val (.long q1), .second, .val (.long q2), .second, .val (.long q3), .second, .val (.int q4), .val (.long x7), .second, .unset, .unset, .unset, .unset, .unset, .unset, .unset] [(.long x7), (.long v34), (.long (1 : Int64))]) (fun t k => XS.lload X0.here hx rfl (hb hby at_35) rfl k) ?_
      refine own_goW (mkF m 38 #[.val (.long q1), .second, .val (.long q2), .second, .val (.long q3), .second, .val (.int q4), .val (.long x7), .second, .unset, .unset, .unset, .unset, .unset, .unset, .unset] [(.long (v34 - (v34 / x7) * x7)), (.long (1 : Int64))]) (fun t k => XS.lrem X0.here hx rfl (hb hby at_37) rfl (own_nz64 (by omega)) k) ?_
      generalize hv37 : (v34 - (v34 / x7) * x7) = v37
      have f37 : 0 ≤ v34.toInt → 0 < x7.toInt → 0 ≤ v37.toInt ∧ v37.toInt < x7.toInt ∧ v37.toInt ≤ v34.toInt := by rw [← hv37]; exact own_lremV v34 x7
      have r37 := rng64 v37
      refine own_goW (mkF m 39 #[.val (.long q1), .second, .val (.long q2), .second, .val (.long q3), .second, .val (.int q4), .val (.long x7), .second, .unset, .unset, .unset, .unset, .unset, .unset, .unset] [(.long ((1 : Int64) + v37))]) (fun t k => XS.ladd X0.here hx rfl (hb hby at_38) rfl k) ?_
      generalize hv38 : ((1 : Int64) + v37) = v38
      have f38 : (v38.toInt - (1 + v37.toInt)) % 18446744073709551616 = 0 := by rw [← hv38]; exact c_ladd (1 : Int64) v37
      have r38 := rng64 v38
      refine own_goW (mkF m 41 #[.val (.long q1), .second, .val (.long q2), .second, .val (.long q3), .second, .val (.int q4), .val (.long x7), .second, .val (.long v38), .second, .unset, .unset, .unset, .unset, .unset] []) (fun t k => XS.lstore X0.here hx rfl (hb hby at_39) rfl (l' := #[.val (.long q1), .second, .val (.long q2), .second, .val (.long q3), .second, .val (.int q4), .val (.long x7), .second, .val (.long v38), .second, .unset, .unset, .unset, .unset, .unset]) rfl k) ?_
      exact j41 v38 (by omega)
  by_cases c4 : v3.toInt = 0
  · skip
    refine own_goW (mkF m 11 #[.val (.long q1), .second, .val (.long q2), .second, .val (.long q3), .second, .val (.int q4), .unset, .unset, .unset, .unset, .unset, .unset, .unset, .unset, .unset] []) (fun t k => XS.ifYes X0.here hx rfl (pc0 := 4) (pc' := 11) rfl (hb hby at_4) rfl (own_zT (cd := .eq) c4) (by decide) (by decide) k) ?_
    refine own_goW (mkF m 12 #[.val (.long q1), .second, .val (.long q2), .second, .val (.long q3), .second, .val (.int q4), .unset, .unset, .unset, .unset, .unset, .unset, .unset, .unset, .unset] [(.long q1)]) (fun t k => XS.lloadN X0.here hx rfl (hb hby at_11) rfl k) ?_
    refine own_goW (mkF m 15 #[.val (.long q1), .second, .val (.long q2), .second, .val (.long q3), .second, .val (.int q4), .unset, .unset, .unset, .unset, .unset, .unset, .unset, .unset, .unset] [(.long (9223372036854775807 : Int64)), (.long q1)]) (fun t k => X0.ldc2Long hx hown (mvT hZ (hw _ (List.mem_of_getElem? (i := 0) rfl))) (g := (mkF m 12 #[.val (.long q1), .second, .val (.long q2), .second, .val (.long q3), .second, .val (.int q4), .unset, .unset, .unset, .unset, .unset, .unset, .unset, .unset, .unset] [(.long q1)])) rfl (hb hby at_12) _ k) ?_
    refine own_goW (mkF m 16 #[.val (.long q1), .second, .val (.long q2), .second, .val (.long q3), .second, .val (.int q4), .unset, .unset, .unset, .unset, .unset, .unset, .unset, .unset, .unset] [(.long (q1 &&& (9223372036854775807 : Int64)))]) (fun t k => XS.land X0.here hx rfl (hb hby at_15) rfl k) ?_
    generalize hv15 : (q1 &&& (9223372036854775807 : Int64)) = v15
    have f15 : v15.toInt = q1.toInt % 9223372036854775808 := by rw [← hv15]; exact c_maskL q1 (9223372036854775807 : Int64) 63 (by decide) (by decide)
    have r15 := rng64 v15
    refine own_goW (mkF m 18 #[.val (.long q1), .second, .val (.long q2), .second, .val (.long q3), .second, .val (.int q4), .val (.long v15), .second, .unset, .unset, .unset, .unset, .unset, .unset, .unset] []) (fun t k => XS.lstore X0.here hx rfl (hb hby at_16) rfl (l' := #[.val (.long q1), .second, .val (.long q2), .second, .val (.long q3), .second, .val (.int q4), .val (.long v15), .second, .unset, .unset, .unset, .unset, .unset, .unset, .unset]) rfl k) ?_
    exact j18 v15 (by omega)
  · skip
    refine own_goW (mkF m 7 #[.val (.long q1), .second, .val (.long q2), .second, .val (.long q3), .second, .val (.int q4), .unset, .unset, .unset, .unset, .unset, .unset, .unset, .unset, .unset] []) (fun t k => XS.ifNo X0.here hx rfl (hb hby at_4) rfl (own_zF (cd := .eq) c4) k) ?_
    refine own_goW (mkF m 8 #[.val (.long q1), .second, .val (.long q2), .second, .val (.long q3), .second, .val (.int q4), .unset, .unset, .unset, .unset, .unset, .unset, .unset, .unset, .unset] [(.long (0 : Int64))]) (fun t k => XS.lconst X0.here hx rfl (hb hby at_7) k) ?_
    refine own_goW (mkF m 16 #[.val (.long q1), .second, .val (.long q2), .second, .val (.long q3), .second, .val (.int q4), .unset, .unset, .unset, .unset, .unset, .unset, .unset, .unset, .unset] [(.long (0 : Int64))]) (fun t k => XS.goto X0.here hx rfl (pc0 := 8) (pc' := 16) rfl (hb hby at_8) (by decide) (by decide) k) ?_
    refine own_goW (mkF m 18 #[.val (.long q1), .second, .val (.long q2), .second, .val (.long q3), .second, .val (.int q4), .val (.long (0 : Int64)), .second, .unset, .unset, .unset, .unset, .unset, .unset, .unset] []) (fun t k => XS.lstore X0.here hx rfl (hb hby at_16) rfl (l' := #[.val (.long q1), .second, .val (.long q2), .second, .val (.long q3), .second, .val (.int q4), .val (.long (0 : Int64)), .second, .unset, .unset, .unset, .unset, .unset, .unset, .unset]) rfl k) ?_
    exact j18 (0 : Int64) (by have lz : (0 : Int64).toInt = 0 := rfl; omega)
set_option maxRecDepth 65536 in
set_option maxHeartbeats 40000000 in
theorem comes_1 {Post : Tables → Env → Array Value → State → Outcome → State → Prop} (hpost : ∀ tb e args s v u, (limb_1_1.after args s (.returned v) u = true ∧ limb_1_2.after args s (.returned v) u = true ∧ True) → ReturnedEndW s (.returned v) u (Jvm.fieldLocs frame_1_writes args s ++ Jvm.arrayLocs frame_1_arrays args s ++ Jvm.staticLocs frame_1_statics s) 16 1152 → Post tb e args s (.returned v) u) :
    ArmFor flags0 classFile x code maxLocals ret World_1 tables_1 room_1 Calls_1 rest_1 Pre_1 Post := by
  intro l hfl _ _ p e ha hc hk s m args below hf hA hF happ hP
  obtain ⟨hcalls, hrest, hpre⟩ := hP
  obtain ⟨-, -, -, hnamed, -, -, -, hat⟩ := (Spec.applies_iff hf).mp happ
  obtain ⟨hg, hn⟩ := and_e (Cond.before_iff.mp (show (Jvm.Cond.and given_1 narrow_1).before args s = true from hpre))
  obtain ⟨q0, u0⟩ := and_e hg
  obtain ⟨k0, u1⟩ := and_e u0
  obtain ⟨k1, u2⟩ := and_e u1
  obtain ⟨k2, u3⟩ := and_e u2
  obtain ⟨w0, w1, w2, w3, rfl⟩ : ∃ w0 w1 w2 w3 : Value, args = #[w0, w1, w2, w3] := by
    have hs : args.size = 4 := by simpa [Cond.value, given_1] using q0
    obtain ⟨L⟩ := args
    match L, hs with
    | [w0, w1, w2, w3], _ => exact ⟨w0, w1, w2, w3, rfl⟩
  have hw := fun d (hd : d ∈ tables_1) => atoms_spec (ws := Jvm.Cond.code x code maxLocals ret :: tables_1) hat d (List.mem_cons_of_mem _ hd)
  obtain ⟨i0, g0⟩ := isL_v k0
  obtain rfl : w0 = (.long i0) := Option.some.inj g0
  obtain ⟨i1, g1⟩ := isL_v k1
  obtain rfl : w1 = (.long i1) := Option.some.inj g1
  obtain ⟨i2, g2⟩ := isL_v k2
  obtain rfl : w2 = (.long i2) := Option.some.inj g2
  obtain ⟨i3, g3⟩ := is_v u3
  obtain rfl : w3 = (.int i3) := Option.some.inj g3
  obtain ⟨n, o, h1, h2, h3, _, L, rfl, ⟨rfl, N⟩, hq⟩ := rm0 l s _ hw tables_1 i0 i1 i2 i3 s.heap s.heap.size (Nat.le_refl _)  p e ha hc hk s m _ below hf ((Spec.applies_iff_loose hf).mp happ).1 ⟨rfl, State.Warmed39.refl s, rfl⟩ trivial
  refine ⟨n, _, h1, h2, h3, hpost _ _ _ _ _ _ ⟨Cond.after_iff.mpr rfl, Cond.after_iff.mpr (eq_i res_at (Term.int_eval (1)) rfl), trivial⟩ ⟨hq.1, hq.2.1, hq.2.2.1, (hq.2.2.2.sift fun y hy => Or.inr (N y hy)).mono (by decide) (by decide)⟩⟩
theorem main_1_1 : Claimed_1_1 := comes_1 fun _ _ _ _ _ _ h hF => ⟨h.1, hF⟩
theorem main_1_2 : Claimed_1_2 := comes_1 fun _ _ _ _ _ _ h hF => ⟨h.2.1, hF⟩
end Jvm.Pilot.@@N@@
namespace Jvm.Pilot.@@N@@
open Jvm Jvm.ClassFile Sem Op Lib Jvm.Free Jvm.Stand Jvm.Pilot.@@N@@.Jvm.D
/-! MADE BY PROGRAM (witnessworld.py) out of the Statement's table words and the real class files: 15 classes; the members and pool entries that the words name. The judged class is class 1, her method 1. -/
namespace start1
open Jvm.ClassFile
def u (s : String) : CpInfo := .utf8 (stringToUtf16 s)
/-- a pool by its gaps: so many unusable entries, then the entry; so many at the end -/
def gap : Nat → List CpInfo → List CpInfo
  | 0, r => r
  | n + 1, r => .unusable :: gap n r
def poolList (es : List (Nat × CpInfo)) (last : Nat) : List CpInfo := es.foldr (fun e r => gap e.1 (e.2 :: r)) (gap last [])
def pool (es : List (Nat × CpInfo)) (last : Nat) : Array CpInfo := ⟨poolList es last⟩
def fileOf (pool : Array CpInfo) (this : Nat) (attrs : Array Attribute := #[]) (ms : Array MethodInfo := #[]) (fl : Nat := 33) (sup : Nat := 0) (ifs : Array Nat := #[]) (fds : Array FieldInfo := #[]) : ClassFile where
  minorVersion := 0
  majorVersion := 65
  constantPool := pool
  accessFlags := fl
  thisClass := this
  superClass := sup
  interfaces := ifs
  fields := fds
  methods := ms
  attributes := attrs
def plain (name : String) (sup : Option ClassId) : Class where
  name := name
  kind := .ordinary
  loader := none
  accessFlags := 33
  super := sup
  interfaces := #[]
  cf := none
  fields := #[]
  methods := #[]
  instanceTypes := #[]
  staticTypes := #[]
  resolved := #[]
  callSites := []
  init := .initialized
  statics := none
  mirror := none

def pool0 : Array CpInfo := pool [(5, u "<init>"), (0, u "()V"), (1, .class_ 10), (1, u "java/lang/Object")] 113

def k0c0 : Code := { maxStack := 0, maxLocals := 1, code := object_method_1_code, exceptionTable := #[], attributes := #[] }
def k0m0 : Method := { name := "<init>", desc := "()V", sig := { parameters := [], returnType := none }, accessFlags := 1, code := some k0c0 }
/-- java/lang/Object -/
def k0 : Class := { plain "java/lang/Object" none with
  accessFlags := 33
  interfaces := #[]
  cf := some (fileOf pool0 8 #[] #[{ accessFlags := 1, nameIndex := 5, descriptorIndex := 6, attributes := #[] }] 33 0 #[] #[])
  fields := #[]
  methods := #[k0m0]
  instanceTypes := #[]
  staticTypes := #[]
  resolved := Array.replicate 124 none
  statics := none }

def pool1 : Array CpInfo := pool [(2, .class_ 4), (1, u "java/lang/Object"), (0, u "<init>"), (0, u "()V"), (2, .long 9223372036854775807), (1, .class_ 12), (0, u "com/example/libsluice/libsluice/ByteLimit"), (0, .methodref 11 14), (0, .nameAndType 5 15), (0, u "(JJ)V"), (0, .methodref 11 17), (0, .nameAndType 18 19), (0, u "neverFits"), (0, u "(J)Z"), (0, .class_ 21), (0, u "com/example/libsluice/libsluice/ByteLimitNeverFitsPinLaw"), (2, u "law"), (0, u "(JJJI)Z")] 3

def k1m0 : Method := { name := "<init>", desc := "()V", sig := { parameters := [], returnType := none }, accessFlags := 1, code := none }
def k1c1 : Code := { maxStack := 6, maxLocals := 16, code := code, exceptionTable := #[], attributes := #[] }
def k1m1 : Method := { name := "law", desc := "(JJJI)Z", sig := { parameters := [.long, .long, .long, .int], returnType := some .boolean }, accessFlags := 9, code := some k1c1 }
/-- com/example/libsluice/libsluice/ByteLimitNeverFitsPinLaw -/
def k1 : Class := { plain "com/example/libsluice/libsluice/ByteLimitNeverFitsPinLaw" (some 0) with
  accessFlags := 49
  interfaces := #[]
  cf := some (fileOf pool1 20 #[] #[{ accessFlags := 1, nameIndex := 5, descriptorIndex := 6, attributes := #[] }, { accessFlags := 9, nameIndex := 24, descriptorIndex := 25, attributes := #[] }] 49 2 #[] #[])
  fields := #[]
  methods := #[k1m0, k1m1]
  instanceTypes := #[]
  staticTypes := #[]
  resolved := Array.replicate 29 none
  statics := none }

def pool2 : Array CpInfo := pool [(1, .methodref 2 3), (0, .class_ 4), (0, .nameAndType 5 6), (0, u "java/lang/Object"), (0, u "<init>"), (0, u "()V"), (0, .class_ 8), (0, u "java/lang/Record")] 13

def k2c0 : Code := { maxStack := 1, maxLocals := 1, code := jdk_30_method_1_code, exceptionTable := #[], attributes := #[] }
def k2m0 : Method := { name := "<init>", desc := "()V", sig := { parameters := [], returnType := none }, accessFlags := 4, code := some k2c0 }
/-- java/lang/Record -/
def k2 : Class := { plain "java/lang/Record" (some 0) with
  accessFlags := 1057
  interfaces := #[]
  cf := some (fileOf pool2 7 #[] #[{ accessFlags := 4, nameIndex := 5, descriptorIndex := 6, attributes := #[] }] 1057 2 #[] #[])
  fields := #[]
  methods := #[k2m0]
  instanceTypes := #[]
  staticTypes := #[]
  resolved := Array.replicate 22 none
  statics := none }

def pool3 : Array CpInfo := pool [(1, .methodref 2 3), (0, .class_ 4), (0, .nameAndType 5 6), (0, u "java/lang/Record"), (0, u "<init>"), (0, u "()V"), (25, .fieldref 33 34), (0, .class_ 35), (0, .nameAndType 36 37), (0, u "com/example/libsluice/libsluice/ByteLimit"), (0, u "capacity"), (0, u "J"), (0, .fieldref 33 39), (0, .nameAndType 40 37), (0, u "resumeMark"), (2, u "(JJ)V"), (4, .string 49), (0, u "request"), (0, .methodref 33 51), (0, .nameAndType 52 53), (0, u "requireNotNegative"), (0, u "(Ljava/lang/String;J)V"), (2, .methodref 33 57), (0, .nameAndType 58 59), (0, u "countableCapacity"), (0, u "()J"), (3, .methodref 33 64), (0, .nameAndType 65 66), (0, u "isUnlimited"), (0, u "()Z"), (0, .long 9223372036854775807), (23, u "neverFits"), (0, u "(J)Z")] 35

def k3c0 : Code := { maxStack := 8, maxLocals := 7, code := prog_1_method_1_code, exceptionTable := #[], attributes := #[] }
def k3m0 : Method := { name := "<init>", desc := "(JJ)V", sig := { parameters := [.long, .long], returnType := none }, accessFlags := 1, code := some k3c0 }
def k3c1 : Code := { maxStack := 4, maxLocals := 1, code := prog_1_method_3_code, exceptionTable := #[], attributes := #[] }
def k3m1 : Method := { name := "isUnlimited", desc := "()Z", sig := { parameters := [], returnType := some .boolean }, accessFlags := 1, code := some k3c1 }
def k3c2 : Code := { maxStack := 4, maxLocals := 3, code := prog_1_method_6_code, exceptionTable := #[], attributes := #[] }
def k3m2 : Method := { name := "neverFits", desc := "(J)Z", sig := { parameters := [.long], returnType := some .boolean }, accessFlags := 1, code := some k3c2 }
def k3c3 : Code := { maxStack := 2, maxLocals := 1, code := prog_1_method_8_code, exceptionTable := #[], attributes := #[] }
def k3m3 : Method := { name := "countableCapacity", desc := "()J", sig := { parameters := [], returnType := some .long }, accessFlags := 2, code := some k3c3 }
def k3c4 : Code := { maxStack := 5, maxLocals := 3, code := prog_1_method_10_code, exceptionTable := #[], attributes := #[] }
def k3m4 : Method := { name := "requireNotNegative", desc := "(Ljava/lang/String;J)V", sig := { parameters := [(.object "java/lang/String"), .long], returnType := none }, accessFlags := 8, code := some k3c4 }
/-- com/example/libsluice/libsluice/ByteLimit -/
def k3 : Class := { plain "com/example/libsluice/libsluice/ByteLimit" (some 2) with
  accessFlags := 49
  interfaces := #[]
  cf := some (fileOf pool3 33 #[] #[{ accessFlags := 1, nameIndex := 5, descriptorIndex := 43, attributes := #[] }, { accessFlags := 1, nameIndex := 65, descriptorIndex := 66, attributes := #[] }, { accessFlags := 1, nameIndex := 91, descriptorIndex := 92, attributes := #[] }, { accessFlags := 2, nameIndex := 58, descriptorIndex := 59, attributes := #[] }, { accessFlags := 8, nameIndex := 52, descriptorIndex := 53, attributes := #[] }] 49 2 #[] #[{ accessFlags := 18, nameIndex := 36, descriptorIndex := 37, attributes := #[] }, { accessFlags := 18, nameIndex := 40, descriptorIndex := 37, attributes := #[] }])
  fields := #[{ name := "capacity", type := .long, accessFlags := 18, slot := 0, constantValue := 0 }, { name := "resumeMark", type := .long, accessFlags := 18, slot := 1, constantValue := 0 }]
  methods := #[k3m0, k3m1, k3m2, k3m3, k3m4]
  instanceTypes := #[.long, .long]
  staticTypes := #[]
  resolved := Array.replicate 128 none
  statics := none }

def pool4 : Array CpInfo := pool [(1, .class_ 2), (0, u "java/io/Serializable"), (0, .class_ 4), (0, u "java/lang/Object")] 2

/-- java/io/Serializable -/
def k4 : Class := { plain "java/io/Serializable" (some 0) with
  accessFlags := 1537
  interfaces := #[]
  cf := some (fileOf pool4 1 #[] #[] 1537 3 #[] #[])
  fields := #[]
  methods := #[]
  instanceTypes := #[]
  staticTypes := #[]
  resolved := Array.replicate 7 none
  statics := none }

def pool5 : Array CpInfo := pool [(1, .class_ 2), (0, u "java/lang/Comparable"), (0, .class_ 4), (0, u "java/lang/Object")] 7

/-- java/lang/Comparable -/
def k5 : Class := { plain "java/lang/Comparable" (some 0) with
  accessFlags := 1537
  interfaces := #[]
  cf := some (fileOf pool5 1 #[] #[] 1537 3 #[] #[])
  fields := #[]
  methods := #[]
  instanceTypes := #[]
  staticTypes := #[]
  resolved := Array.replicate 12 none
  statics := none }

def pool6 : Array CpInfo := pool [(2, .class_ 4), (1, u "java/lang/CharSequence"), (42, .class_ 48), (0, u "java/lang/CharSequence$1CodePointIterator"), (10, .class_ 60), (0, u "java/lang/CharSequence$1CharIterator"), (5, .class_ 67), (0, u "java/lang/Object")] 63

/-- java/lang/CharSequence -/
def k6 : Class := { plain "java/lang/CharSequence" (some 0) with
  accessFlags := 1537
  interfaces := #[]
  cf := some (fileOf pool6 2 #[.nestMembers #[47, 59]] #[] 1537 66 #[] #[])
  fields := #[]
  methods := #[]
  instanceTypes := #[]
  staticTypes := #[]
  resolved := Array.replicate 131 none
  statics := none }

def pool7 : Array CpInfo := pool [(1, .class_ 2), (0, u "java/lang/constant/Constable"), (0, .class_ 4), (0, u "java/lang/Object")] 6

/-- java/lang/constant/Constable -/
def k7 : Class := { plain "java/lang/constant/Constable" (some 0) with
  accessFlags := 1537
  interfaces := #[]
  cf := some (fileOf pool7 1 #[] #[] 1537 3 #[] #[])
  fields := #[]
  methods := #[]
  instanceTypes := #[]
  staticTypes := #[]
  resolved := Array.replicate 11 none
  statics := none }

def pool8 : Array CpInfo := pool [(1, .class_ 2), (0, u "java/lang/constant/ConstantDesc"), (0, .class_ 4), (0, u "java/lang/Object")] 32

/-- java/lang/constant/ConstantDesc -/
def k8 : Class := { plain "java/lang/constant/ConstantDesc" (some 0) with
  accessFlags := 1537
  interfaces := #[]
  cf := some (fileOf pool8 1 #[] #[] 1537 3 #[] #[])
  fields := #[]
  methods := #[]
  instanceTypes := #[]
  staticTypes := #[]
  resolved := Array.replicate 37 none
  statics := none }

def pool9 : Array CpInfo := pool [(2, .class_ 4), (1, u "java/lang/Object"), (0, u "<init>"), (0, u "()V"), (3, .class_ 12), (1, u "java/lang/String"), (0, u "value"), (0, u "[B"), (2, u "coder"), (0, u "B"), (2, u "hash"), (0, u "I"), (2, u "hashIsZero"), (0, u "Z"), (13, u "COMPACT_STRINGS"), (534, .class_ 576), (0, u "java/lang/CharSequence"), (22, u "CASE_INSENSITIVE_ORDER"), (0, u "Ljava/util/Comparator;"), (500, u "serialPersistentFields"), (0, u "[Ljava/io/ObjectStreamField;"), (0, .class_ 1104), (0, u "java/lang/String$CaseInsensitiveComparator"), (1, .class_ 1107), (0, u "java/io/Serializable"), (0, .class_ 1109), (0, u "java/lang/Comparable"), (0, .class_ 1111), (0, u "java/lang/constant/Constable"), (0, .class_ 1113), (0, u "java/lang/constant/ConstantDesc"), (2, u "serialVersionUID"), (0, u "J"), (3, u "REPL"), (0, u "C"), (2, u "LATIN1"), (1, u "UTF16")] 323

def k9m0 : Method := { name := "<init>", desc := "()V", sig := { parameters := [], returnType := none }, accessFlags := 1, code := none }
/-- java/lang/String -/
def k9 : Class := { plain "java/lang/String" (some 0) with
  accessFlags := 49
  interfaces := #[4, 5, 6, 7, 8]
  cf := some (fileOf pool9 10 #[.nestMembers #[1103]] #[{ accessFlags := 1, nameIndex := 5, descriptorIndex := 6, attributes := #[] }] 49 2 #[1106, 1108, 575, 1110, 1112] #[{ accessFlags := 18, nameIndex := 13, descriptorIndex := 14, attributes := #[] }, { accessFlags := 18, nameIndex := 17, descriptorIndex := 18, attributes := #[] }, { accessFlags := 2, nameIndex := 21, descriptorIndex := 22, attributes := #[] }, { accessFlags := 2, nameIndex := 25, descriptorIndex := 26, attributes := #[] }, { accessFlags := 26, nameIndex := 1116, descriptorIndex := 1117, attributes := #[] }, { accessFlags := 24, nameIndex := 40, descriptorIndex := 26, attributes := #[] }, { accessFlags := 26, nameIndex := 1101, descriptorIndex := 1102, attributes := #[] }, { accessFlags := 26, nameIndex := 1121, descriptorIndex := 1122, attributes := #[] }, { accessFlags := 25, nameIndex := 599, descriptorIndex := 600, attributes := #[] }, { accessFlags := 24, nameIndex := 1125, descriptorIndex := 18, attributes := #[] }, { accessFlags := 24, nameIndex := 1127, descriptorIndex := 18, attributes := #[] }])
  fields := #[{ name := "value", type := (.array .byte), accessFlags := 18, slot := 0, constantValue := 0 }, { name := "coder", type := .byte, accessFlags := 18, slot := 1, constantValue := 0 }, { name := "hash", type := .int, accessFlags := 2, slot := 2, constantValue := 0 }, { name := "hashIsZero", type := .boolean, accessFlags := 2, slot := 3, constantValue := 0 }, { name := "serialVersionUID", type := .long, accessFlags := 26, slot := 0, constantValue := 0 }, { name := "COMPACT_STRINGS", type := .boolean, accessFlags := 24, slot := 1, constantValue := 0 }, { name := "serialPersistentFields", type := (.array (.object "java/io/ObjectStreamField")), accessFlags := 26, slot := 2, constantValue := 0 }, { name := "REPL", type := .char, accessFlags := 26, slot := 3, constantValue := 0 }, { name := "CASE_INSENSITIVE_ORDER", type := (.object "java/util/Comparator"), accessFlags := 25, slot := 4, constantValue := 0 }, { name := "LATIN1", type := .byte, accessFlags := 24, slot := 5, constantValue := 0 }, { name := "UTF16", type := .byte, accessFlags := 24, slot := 6, constantValue := 0 }]
  methods := #[k9m0]
  instanceTypes := #[(.array .byte), .byte, .int, .boolean]
  staticTypes := #[.long, .boolean, (.array (.object "java/io/ObjectStreamField")), .char, (.object "java/util/Comparator"), .byte, .byte]
  resolved := Array.replicate 1451 none
  statics := none }

def pool10 : Array CpInfo := pool [(1, u "java/lang/Cloneable"), (0, .class_ 1), (0, u "java/lang/Object"), (0, .class_ 3)] 3

/-- java/lang/Cloneable -/
def k10 : Class := { plain "java/lang/Cloneable" (some 0) with
  accessFlags := 1537
  interfaces := #[]
  cf := some (fileOf pool10 2 #[] #[] 1537 4 #[] #[])
  fields := #[]
  methods := #[]
  instanceTypes := #[]
  staticTypes := #[]
  resolved := Array.replicate 8 none
  statics := none }

/-- the primitive byte -/
def k11 : Class := { plain "byte" none with kind := .primitive 'B', accessFlags := 0x411 }
/-- [B -/
def k12 : Class := { plain "[B" (some 0) with kind := .array 11 .byte, interfaces := #[10, 4], accessFlags := 1041 }

/-- the primitive int -/
def k13 : Class := { plain "int" none with kind := .primitive 'I', accessFlags := 0x411 }
/-- [I -/
def k14 : Class := { plain "[I" (some 0) with kind := .array 13 .int, interfaces := #[10, 4], accessFlags := 1041 }

def heap : Heap := #[]
def classes : Array Class := #[k0, k1, k2, k3, k4, k5, k6, k7, k8, k9, k10, k11, k12, k13, k14]
def interned : List (Array UInt16 × Addr) := []
def slotsUsed : Nat := 0
def theMethod : MethodId := ⟨1, 1⟩
def args0 : Array Value := #[.long 5, .long 7, .long 2, .int 4]
def aboutOver (below : List Frame) : State where
  vm := { classes := classes, interned := interned.toArray }
  heap := heap
  slotsUsed := slotsUsed
  threads := #[{ frames := .invoking theMethod args0 :: below }]
def below0 : List Frame := [.native { method := ⟨0, 0⟩, args := #[] }]
def about1 : State := aboutOver below0
def p0 : Program := .bare "" "" ""
def e0 : Env := launch0.env 0 0 0
theorem w_frames : about1.frames = Frame.invoking theMethod args0 :: below0 := rfl
set_option maxRecDepth 65536 in
theorem w_args : argsFit about1.vm theMethod args0 = true := by decide +kernel
set_option maxRecDepth 65536 in
theorem w_heap : heapFits about1 = true := by decide +kernel
set_option maxRecDepth 65536 in
theorem w_runnable : about1.curStatus? = some .runnable := by decide +kernel
set_option maxRecDepth 65536 in
theorem w_alone : about1.alone = true := by decide +kernel
set_option maxRecDepth 65536 in
theorem w_named : about1.methodNamed? x = some theMethod := by decide +kernel
set_option maxRecDepth 65536 in
theorem w_hears : about1.hears theMethod below0 = true := by decide +kernel
set_option maxRecDepth 65536 in
theorem w_ripe : about1.ripe theMethod args0 below0 = true := by decide +kernel
theorem w_running : about1.status = .running := rfl
set_option maxRecDepth 65536 in
theorem w_room : about1.hasRoom e0.platform room_1 = true :=
  launch0.hasRoom_least _ room_1 (by decide +kernel) (by decide +kernel) (by decide +kernel) (by decide +kernel) (by decide +kernel) (by decide +kernel)
theorem allAtoms_all (ts : List Jvm.Cond) (a : Array Jvm.Value) (st : Jvm.State) : (allAtoms ts).before a st = ts.all (fun c => c.before a st) := by
  induction ts with
  | nil => rfl
  | cons c t ih =>
    show (Jvm.Cond.and c (allAtoms t)).before a st = _
    rw [Jvm.Cond.before_and, ih, List.all_cons]
def words1 : List Jvm.Cond := Jvm.Cond.code x code maxLocals ret :: tables_1
/-- a 'code' word, met by the world's own term for the bytes: nothing is compared byte by byte -/
theorem code_word {y : MethodName} {bytes : ByteArray} {mx : Nat} {rt : Option FieldType} {a : Array Value} {s : State} {m : MethodId} {meth : Method} {c : Code} (h1 : s.methodNamed? y = some m) (h2 : s.vm.method? m = some meth) (h3 : meth.code = some c) (h4 : c.code = bytes)
    (h5 : (c.maxLocals == mx && c.exceptionTable.isEmpty && decide (c.maxStack ≤ mostOperands) && decide (meth.sig.returnType = rt) && !meth.locks && decide (parseMethodDescriptor y.desc = some meth.sig)) = true) : (Jvm.Cond.code y bytes mx rt).before a s = true := by
  simp only [Bool.and_eq_true, beq_iff_eq, Bool.not_eq_true', decide_eq_true_eq] at h5
  obtain ⟨⟨⟨⟨⟨g1, g2⟩, g3⟩, g4⟩, g5⟩, g6⟩ := h5
  simp [Cond.before, Cond.holds, Cond.value, h1, h2, h3, h4, g1, g2, g3, g4, g5, g6]
def isCode : Jvm.Cond → Bool
  | .code _ _ _ _ => true
  | _ => false
theorem all_split {L : List Jvm.Cond} {P : Jvm.Cond → Bool} (h1 : L.all (fun c => isCode c || P c) = true) (h2 : ∀ c ∈ L.filter isCode, P c = true) : L.all P = true := by
  refine List.all_eq_true.mpr fun c hc => ?_
  have h := List.all_eq_true.mp h1 c hc
  rcases Bool.eq_false_or_eq_true (isCode c) with hi | hi
  · exact h2 c (List.mem_filter.mpr ⟨hc, hi⟩)
  · simpa [hi] using h
set_option maxRecDepth 65536 in
theorem w_c0 : (Jvm.Cond.code x code maxLocals ret).before args0 about1 = true := code_word (m := ⟨1, 1⟩) (meth := k1m1) (c := k1c1) (by decide +kernel) rfl rfl rfl (by decide +kernel)
set_option maxRecDepth 65536 in
theorem w_c1 : (Jvm.Cond.code ({ cls := "com/example/libsluice/libsluice/ByteLimit", name := "<init>", desc := "(JJ)V" } : Jvm.MethodName) prog_1_method_1_code (7 : Nat) (Option.none : Option Jvm.ClassFile.FieldType)).before args0 about1 = true := code_word (m := ⟨3, 0⟩) (meth := k3m0) (c := k3c0) (by decide +kernel) rfl rfl rfl (by decide +kernel)
set_option maxRecDepth 65536 in
theorem w_c2 : (Jvm.Cond.code ({ cls := "java/lang/Record", name := "<init>", desc := "()V" } : Jvm.MethodName) jdk_30_method_1_code (1 : Nat) (Option.none : Option Jvm.ClassFile.FieldType)).before args0 about1 = true := code_word (m := ⟨2, 0⟩) (meth := k2m0) (c := k2c0) (by decide +kernel) rfl rfl rfl (by decide +kernel)
set_option maxRecDepth 65536 in
theorem w_c3 : (Jvm.Cond.code ({ cls := "java/lang/Object", name := "<init>", desc := "()V" } : Jvm.MethodName) object_method_1_code (1 : Nat) (Option.none : Option Jvm.ClassFile.FieldType)).before args0 about1 = true := code_word (m := ⟨0, 0⟩) (meth := k0m0) (c := k0c0) (by decide +kernel) rfl rfl rfl (by decide +kernel)
set_option maxRecDepth 65536 in
theorem w_c4 : (Jvm.Cond.code ({ cls := "com/example/libsluice/libsluice/ByteLimit", name := "neverFits", desc := "(J)Z" } : Jvm.MethodName) prog_1_method_6_code (3 : Nat) (Option.some Jvm.ClassFile.FieldType.boolean)).before args0 about1 = true := code_word (m := ⟨3, 2⟩) (meth := k3m2) (c := k3c2) (by decide +kernel) rfl rfl rfl (by decide +kernel)
set_option maxRecDepth 65536 in
theorem w_c5 : (Jvm.Cond.code ({ cls := "com/example/libsluice/libsluice/ByteLimit", name := "requireNotNegative", desc := "(Ljava/lang/String;J)V" } : Jvm.MethodName) prog_1_method_10_code (3 : Nat) (Option.none : Option Jvm.ClassFile.FieldType)).before args0 about1 = true := code_word (m := ⟨3, 4⟩) (meth := k3m4) (c := k3c4) (by decide +kernel) rfl rfl rfl (by decide +kernel)
set_option maxRecDepth 65536 in
theorem w_c6 : (Jvm.Cond.code ({ cls := "com/example/libsluice/libsluice/ByteLimit", name := "countableCapacity", desc := "()J" } : Jvm.MethodName) prog_1_method_8_code (1 : Nat) (Option.some Jvm.ClassFile.FieldType.long)).before args0 about1 = true := code_word (m := ⟨3, 3⟩) (meth := k3m3) (c := k3c3) (by decide +kernel) rfl rfl rfl (by decide +kernel)
set_option maxRecDepth 65536 in
theorem w_c7 : (Jvm.Cond.code ({ cls := "com/example/libsluice/libsluice/ByteLimit", name := "isUnlimited", desc := "()Z" } : Jvm.MethodName) prog_1_method_3_code (1 : Nat) (Option.some Jvm.ClassFile.FieldType.boolean)).before args0 about1 = true := code_word (m := ⟨3, 1⟩) (meth := k3m1) (c := k3c1) (by decide +kernel) rfl rfl rfl (by decide +kernel)
def codes1 : List Jvm.Cond := [Jvm.Cond.code x code maxLocals ret, Jvm.Cond.code ({ cls := "com/example/libsluice/libsluice/ByteLimit", name := "<init>", desc := "(JJ)V" } : Jvm.MethodName) prog_1_method_1_code (7 : Nat) (Option.none : Option Jvm.ClassFile.FieldType), Jvm.Cond.code ({ cls := "java/lang/Record", name := "<init>", desc := "()V" } : Jvm.MethodName) jdk_30_method_1_code (1 : Nat) (Option.none : Option Jvm.ClassFile.FieldType), Jvm.Cond.code ({ cls := "java/lang/Object", name := "<init>", desc := "()V" } : Jvm.MethodName) object_method_1_code (1 : Nat) (Option.none : Option Jvm.ClassFile.FieldType), Jvm.Cond.code ({ cls := "com/example/libsluice/libsluice/ByteLimit", name := "neverFits", desc := "(J)Z" } : Jvm.MethodName) prog_1_method_6_code (3 : Nat) (Option.some Jvm.ClassFile.FieldType.boolean), Jvm.Cond.code ({ cls := "com/example/libsluice/libsluice/ByteLimit", name := "requireNotNegative", desc := "(Ljava/lang/String;J)V" } : Jvm.MethodName) prog_1_method_10_code (3 : Nat) (Option.none : Option Jvm.ClassFile.FieldType), Jvm.Cond.code ({ cls := "com/example/libsluice/libsluice/ByteLimit", name := "countableCapacity", desc := "()J" } : Jvm.MethodName) prog_1_method_8_code (1 : Nat) (Option.some Jvm.ClassFile.FieldType.long), Jvm.Cond.code ({ cls := "com/example/libsluice/libsluice/ByteLimit", name := "isUnlimited", desc := "()Z" } : Jvm.MethodName) prog_1_method_3_code (1 : Nat) (Option.some Jvm.ClassFile.FieldType.boolean)]
set_option maxRecDepth 65536 in
theorem codes_eq : words1.filter isCode = codes1 := rfl
theorem w_codes : ∀ c ∈ words1.filter isCode, c.before args0 about1 = true := by
  rw [codes_eq]
  intro c hc
  simp only [codes1, List.mem_cons, List.not_mem_nil, or_false] at hc
  rcases hc with rfl | rfl | rfl | rfl | rfl | rfl | rfl | rfl
  · exact w_c0
  · exact w_c1
  · exact w_c2
  · exact w_c3
  · exact w_c4
  · exact w_c5
  · exact w_c6
  · exact w_c7
set_option maxRecDepth 65536 in
theorem w_t1 : (words1.take 24).all (fun c => isCode c || c.before args0 about1) = true := by decide +kernel
set_option maxRecDepth 65536 in
theorem w_t2 : (words1.drop 24).all (fun c => isCode c || c.before args0 about1) = true := by decide +kernel
theorem w_tables : (allAtoms (Jvm.Cond.code x code maxLocals ret :: tables_1)).before args0 about1 = true := by
  rw [allAtoms_all]
  show words1.all (fun c => c.before args0 about1) = true
  refine all_split ?_ w_codes
  rw [← List.take_append_drop 24 words1, List.all_append, w_t1, w_t2]
  rfl
set_option maxRecDepth 65536 in
theorem w_case : (Jvm.Cond.and given_1 narrow_1).before args0 about1 = true := by decide +kernel
theorem w_applies : (headSpec (Jvm.Cond.code x code maxLocals ret :: tables_1) room_1).applies x e0.platform about1 = true :=
  (Spec.applies_iff w_frames).mpr ⟨w_running, w_runnable, w_alone, w_named, w_hears, w_ripe, w_room, w_tables⟩
theorem atStart : AtStart classFile x code maxLocals ret World_1 tables_1 room_1 Calls_1 rest_1 Pre_1 launch0 p0 e0 about1 theMethod args0 below0 :=
  ⟨lists_1, trivial, launch0.admits_env _ _ _, launch0.least_env, fairChoices_fair.cas, fairChoices_fair.clock, w_frames, w_args, w_heap, w_applies, trivial, trivial, w_case⟩
end start1
theorem witness_1 : WitnessClaimed_1 := ⟨start1.p0, start1.e0, start1.about1, start1.theMethod, start1.args0, start1.below0, start1.atStart⟩
end Jvm.Pilot.@@N@@
