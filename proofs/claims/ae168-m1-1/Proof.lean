import JvmDerived
import JvmDerived.Pilot.@@N@@Statement
import JvmDerived.Pilot.@@N@@Code
set_option linter.unusedVariables false
set_option linter.unusedSimpArgs false
namespace Jvm.Pilot.@@N@@
open Jvm Jvm.ClassFile Sem Op Lib Jvm.Free Jvm.Stand Jvm.LawKit Jvm.RoadKit Bundle Jvm.Pilot.@@N@@.Jvm.D
section Own
variable {p : Program} {l : Launch} {e : Env} {R : Room} {s : State} {m : MethodId} {args : Array Value} {below : List Frame} {meth : Method} {c : Code} {T T' : State} {locs : List Loc} {cells slots C S : Nat} {Qv : Option Value → Heap → List Loc → Prop} {Z : State} {a0 : Array Value} {h : Heap}
/-- from here, with this frame on top, the method returns, Qv holds of what it returns, of the heap and of what was written, within C cells and S slots -/
def own_Ends (p : Program) (e : Env) (below : List Frame) (s : State) (C S : Nat) (Qv : Option Value → Heap → List Loc → Prop) (T : State) (g : JFrame) : Prop :=
  ∃ (s₂ : State) (o : Outcome), Steps p.tables e below (T.setTop g) s₂ ∧ s₂.status = .running ∧ Ended s₂ below o ∧ ∃ v L, o = .returned v ∧ Qv v s₂.heap L ∧ FrameEnd s o s₂ L C S
theorem own_go {g : JFrame} (g' : JFrame) (st : ∀ t, Steps p.tables e below (T'.setTop g') t → Steps p.tables e below (T.setTop g) t) (k : own_Ends p e below s C S Qv T' g') : own_Ends p e below s C S Qv T g := by
  obtain ⟨s₂, o, h1, h⟩ := k
  exact ⟨s₂, o, st _ h1, h⟩
theorem own_ret (X : Stand p l e R s m args below meth c T locs cells slots) (hlk : meth.locks = false) {g : JFrame} {v : Option Value} (hv : meth.sig.returnType = none → v = none)
    (st : ∀ fs, (∀ (f : JFrame) (acts : List Action), f.method = m → f.locked = none → f.entered = [] → (doReturn e (T.setTop f) acts v).1 = T.setFrames fs) → Steps p.tables e below (T.setTop g) (T.setFrames fs))
    (hC : cells ≤ C) (hS : slots ≤ S) (hQ : Qv v T.heap locs) : own_Ends p e below s C S Qv T g := by
  obtain ⟨fs, hr, hrun, hended, hW, hsame⟩ := X.leave (v := v) hv hlk
  exact ⟨_, _, st fs hr, hrun, hended, v, locs, rfl, hQ, ⟨_, rfl⟩, hW, hsame.mono hC hS⟩
theorem own_retI (X : Stand p l e R s m args below meth c T locs cells slots) (hx : p.tables.exec = Jvm.exec) (hlk : meth.locks = false) {pc : Nat} {Ls : Array Slot} {z : Int32} {rest : List Value} {t : FieldType} (hret : meth.sig.returnType = some t)
    (ht : t = .int ∨ t = .boolean ∨ t = .byte ∨ t = .char ∨ t = .short) (hn : narrow t (.int z) = .int z) (hd : decode c.code pc = .ok (.ireturn, 1)) (hC : cells ≤ C) (hS : slots ≤ S) (hQ : Qv (some (.int z)) T.heap locs) : own_Ends p e below s C S Qv T (mkF m pc Ls (.int z :: rest)) :=
  own_ret X hlk (fun h => by rw [hret] at h; cases h) (fun fs hr => retOut X hx hret hn (Or.inl ⟨rfl, ht, _, rfl⟩) hd hr) hC hS hQ
theorem own_retN (X : Stand p l e R s m args below meth c T locs cells slots) (hx : p.tables.exec = Jvm.exec) (hlk : meth.locks = false) {pc : Nat} {Ls : Array Slot} {z : Int32} {rest : List Value} {t : FieldType} (hret : meth.sig.returnType = some t)
    (ht : t = .boolean ∨ t = .byte ∨ t = .char ∨ t = .short) (hd : decode c.code pc = .ok (.ireturn, 1)) (hC : cells ≤ C) (hS : slots ≤ S) (hQ : Qv (some (.int (nar t z))) T.heap locs) : own_Ends p e below s C S Qv T (mkF m pc Ls (.int z :: rest)) :=
  own_ret X hlk (fun h => by rw [hret] at h; cases h) (fun fs hr => retN X hx hret ht hd hr) hC hS hQ
theorem own_retL (X : Stand p l e R s m args below meth c T locs cells slots) (hx : p.tables.exec = Jvm.exec) (hlk : meth.locks = false) {pc : Nat} {Ls : Array Slot} {z : Int64} {rest : List Value} (hret : meth.sig.returnType = some .long)
    (hd : decode c.code pc = .ok (.lreturn, 1)) (hC : cells ≤ C) (hS : slots ≤ S) (hQ : Qv (some (.long z)) T.heap locs) : own_Ends p e below s C S Qv T (mkF m pc Ls (.long z :: rest)) :=
  own_ret X hlk (fun h => by rw [hret] at h; cases h) (fun fs hr => retOut X hx hret rfl (Or.inr (Or.inl ⟨rfl, rfl, _, rfl⟩)) hd hr) hC hS hQ
theorem own_retA (X : Stand p l e R s m args below meth c T locs cells slots) (hx : p.tables.exec = Jvm.exec) (hlk : meth.locks = false) {pc : Nat} {Ls : Array Slot} {z : Addr} {rest : List Value} {t : FieldType} (hret : meth.sig.returnType = some t) (ht : t.isReference = true) (hn : narrow t (.ref z) = .ref z)
    (hd : decode c.code pc = .ok (.areturn, 1)) (hC : cells ≤ C) (hS : slots ≤ S) (hQ : Qv (some (.ref z)) T.heap locs) : own_Ends p e below s C S Qv T (mkF m pc Ls (.ref z :: rest)) :=
  own_ret X hlk (fun h => by rw [hret] at h; cases h) (fun fs hr => retOut X hx hret hn (Or.inr (Or.inr (Or.inr (Or.inr ⟨rfl, ht, rfl⟩)))) hd hr) hC hS hQ
theorem own_ret0 (X : Stand p l e R s m args below meth c T locs cells slots) (hx : p.tables.exec = Jvm.exec) (hlk : meth.locks = false) {pc : Nat} {Ls : Array Slot} (hret : meth.sig.returnType = none)
    (hd : decode c.code pc = .ok (.return_, 1)) (hC : cells ≤ C) (hS : slots ≤ S) (hQ : Qv none T.heap locs) : own_Ends p e below s C S Qv T (mkF m pc Ls []) :=
  own_ret X hlk (fun _ => rfl) (fun fs hr => X.returnOut hx hret hd hr) hC hS hQ
/-- a contract out of its body's walk -/
theorem own_met {y : MethodName} {bytes : ByteArray} {maxL : Nat} {ret : Option FieldType} {ws : List Jvm.Cond} {rm : Room} {as' : Array Value} {h0 : Heap} (hp : plainFor y = true)
    (body : ∀ (p : Program) (e : Env) (s : State) (m : MethodId) (below : List Frame) (meth : Method) (c : Code) (T : State), p.tables.exec = Jvm.exec → c.code = bytes → c.maxLocals = maxL → s.vm.findClass y.cls = some m.cls → meth.sig.returnType = ret → meth.locks = false → meth.name = y.name → Z.Warmed39 s.vm → Stand p l e rm s m as' below meth c T [] 0 0 → T.heap = h0 → own_Ends p e below s rm.cells rm.slots Qv T (entryFrame m as' maxL)) :
    MetFree l y (head1 (Jvm.Cond.code y bytes maxL ret :: ws) rm) (fun a U => a = as' ∧ Z.Warmed39 U.vm ∧ U.heap = h0) (fun _ _ _ _ _ => True) (fun _ U o U' => ∃ v L, o = .returned v ∧ Qv v U'.heap L ∧ FrameEnd U o U' L rm.cells rm.slots) := by
  refine MetFree.of_bodySF hp hisR ?_
  intro p e s m args below meth c s₁ Bd hml0 hP hK
  obtain ⟨rfl, hZ, hh⟩ := hP
  exact body p e s m below meth c s₁ Bd.exec Bd.bytes hml0 (findClass_of_methodNamed Bd.named) Bd.returns Bd.notSynchronized ((name_of_methodNamed Bd.named Bd.method).1) hZ (Stand.of_body Bd) (by rw [← hh, Bd.state]; rfl)
/-- what a callee's contract says (as' its arguments, h the heap where it is called) -/
abbrev own_Met (l : Launch) (Z : State) (y : MethodName) (bytes : ByteArray) (maxL : Nat) (ret : Option FieldType) (rm : Room) (as' : Array Value) (h : Heap) (Q : Option Value → Heap → List Loc → Prop) : Prop :=
  MetFree l y (head1 [Jvm.Cond.code y bytes maxL ret] rm) (fun a U => a = as' ∧ Z.Warmed39 U.vm ∧ U.heap = h) (fun _ _ _ _ _ => True) (fun _ U o U' => ∃ v L, o = .returned v ∧ Q v U'.heap L ∧ FrameEnd U o U' L rm.cells rm.slots)
theorem own_callS (X : Stand p l e R s m args below meth c T locs cells slots) (hx : p.tables.exec = Jvm.exec) (hZ : Z.Warmed39 s.vm) {own : String} {index : Nat} {y : MethodName} {bytes : ByteArray} {maxL : Nat} {ret : Option FieldType} {rm : Room} {as' : Array Value} {Q : Option Value → Heap → List Loc → Prop}
    (hown : s.vm.findClass own = some m.cls) (w1 : (Jvm.Cond.methodLink own index y).before a0 Z = true) (w2 : (Jvm.Cond.static y).before a0 Z = true) (w3 : (Jvm.Cond.initialized y.cls).before a0 Z = true) (w4 : (Jvm.Cond.code y bytes maxL ret).before a0 Z = true)
    (hy : y.cls ≠ "java/lang/invoke/MethodHandle" ∧ y.cls ≠ "java/lang/invoke/VarHandle") (eT : T.heap = h) (hM : own_Met l Z y bytes maxL ret rm as' h Q)
    (W : Nat) (hf : rm.frames + 1 ≤ R.frames) (hl : W + (maxL + 11) + rm.locals ≤ R.locals) (hC : cells + rm.cells ≤ R.cells) (hS : slots + rm.slots ≤ R.slots)
    {g : JFrame} (hg : g.method = m) (hsize : g.locals.size = c.maxLocals) (argsL rest : List Value) (hlen : ∀ sig, parseMethodDescriptor y.desc = some sig → argsL.length = sig.parameters.length)
    (hstack : g.stack = argsL.reverse ++ rest) (has : argsL.toArray = as') (hW : 2 * g.monitorRoom + (rest.map fun v => v.category).sum ≤ W) (hd : decode c.code g.pc = .ok (.invokestatic index, 3))
    (k : ∀ v T' h' L, Stand p l e R s m args below meth c T' (locs ++ L) (cells + rm.cells) (slots + rm.slots) → T'.heap = h' → Q v h' L → own_Ends p e below s C S Qv T' { g with pc := g.pc + 3, stack := v.toList ++ rest }) : own_Ends p e below s C S Qv T g := by
  obtain ⟨v, _, ⟨T', L', k', n'⟩, -, X', ⟨Lc, hQ, l1, y1, z1⟩, st⟩ := Jvm.LawKit.callS X hx (y := y) hown (mvT hZ w1) (mvT hZ w2) (mvT hZ w3) (mvT hZ w4) hy (backOf (W := W) hM hZ w4 w3 hf hl) (g := g) hg hsize (argsL := argsL) (rest := rest) hlen hstack hW hd (fun _ _ => ⟨has, eT, hC, hS⟩)
  dsimp only [Pt.U, Pt.locs, Pt.cells, Pt.slots] at X' l1 y1 z1 st hQ
  subst l1 y1 z1
  exact own_go _ st (k v T' _ Lc X' rfl hQ)
theorem own_callI (X : Stand p l e R s m args below meth c T locs cells slots) (hx : p.tables.exec = Jvm.exec) (hZ : Z.Warmed39 s.vm) {own : String} {index : Nat} {y : MethodName} {bytes : ByteArray} {maxL : Nat} {rm : Room} {as' : Array Value} {Q : Option Value → Heap → List Loc → Prop}
    (hown : s.vm.findClass own = some m.cls) (hy1 : y.name = "<init>") (w1 : (Jvm.Cond.methodLink own index y).before a0 Z = true) (w2 : (Jvm.Cond.instanceMethod y).before a0 Z = true) (w3 : (Jvm.Cond.initialized y.cls).before a0 Z = true) (w4 : (Jvm.Cond.code y bytes maxL none).before a0 Z = true)
    (hy : y.cls ≠ "java/lang/invoke/MethodHandle" ∧ y.cls ≠ "java/lang/invoke/VarHandle") (eT : T.heap = h) (hM : own_Met l Z y bytes maxL none rm as' h Q)
    (W : Nat) (hf : rm.frames + 1 ≤ R.frames) (hl : W + (maxL + 11) + rm.locals ≤ R.locals) (hC : cells + rm.cells ≤ R.cells) (hS : slots + rm.slots ≤ R.slots)
    {g : JFrame} (hg : g.method = m) (hsize : g.locals.size = c.maxLocals) (a : Addr) (argsL rest : List Value) (hlen : ∀ sig, parseMethodDescriptor y.desc = some sig → argsL.length = sig.parameters.length)
    (hstack : g.stack = argsL.reverse ++ .ref a :: rest) (has : (Value.ref a :: argsL).toArray = as') (hW : 2 * g.monitorRoom + (rest.map fun v => v.category).sum ≤ W) (hd : decode c.code g.pc = .ok (.invokespecial index, 3))
    (k : ∀ v T' h' L, Stand p l e R s m args below meth c T' (locs ++ L) (cells + rm.cells) (slots + rm.slots) → T'.heap = h' → Q v h' L → own_Ends p e below s C S Qv T' { g with pc := g.pc + 3, stack := v.toList ++ rest }) : own_Ends p e below s C S Qv T g := by
  obtain ⟨v, _, ⟨T', L', k', n'⟩, -, X', ⟨Lc, hQ, l1, y1, z1⟩, st⟩ := Jvm.LawKit.callI X hx (y := y) hown hy1 (mvT hZ w1) (mvT hZ w2) (mvT hZ w4) hy (backOf (W := W) hM hZ w4 w3 hf hl) (g := g) hg hsize (a := a) (argsL := argsL) (rest := rest) hlen hstack hW hd (fun _ _ => ⟨has, eT, hC, hS⟩)
  dsimp only [Pt.U, Pt.locs, Pt.cells, Pt.slots] at X' l1 y1 z1 st hQ
  subst l1 y1 z1
  exact own_go _ st (k v T' _ Lc X' rfl hQ)
theorem own_callV (X : Stand p l e R s m args below meth c T locs cells slots) (hx : p.tables.exec = Jvm.exec) (hZ : Z.Warmed39 s.vm) {own C0 : String} {index : Nat} {y : MethodName} {bytes : ByteArray} {maxL : Nat} {ret : Option FieldType} {rm : Room} {as' : Array Value} {Q : Option Value → Heap → List Loc → Prop}
    (hown : s.vm.findClass own = some m.cls) (w1 : (Jvm.Cond.methodLink own index y).before a0 Z = true) (w5 : (Jvm.Cond.declares y).before a0 Z = true) (w6 : (Jvm.Cond.selects C0 y y).before a0 Z = true) (w2 : (Jvm.Cond.instanceMethod y).before a0 Z = true) (w3 : (Jvm.Cond.initialized y.cls).before a0 Z = true) (w4 : (Jvm.Cond.code y bytes maxL ret).before a0 Z = true)
    (hy : y.cls ≠ "java/lang/invoke/MethodHandle" ∧ y.cls ≠ "java/lang/invoke/VarHandle") (eT : T.heap = h) (a : Addr) (E : Exa Z h a C0) (hM : own_Met l Z y bytes maxL ret rm as' h Q)
    (W : Nat) (hf : rm.frames + 1 ≤ R.frames) (hl : W + (maxL + 11) + rm.locals ≤ R.locals) (hC : cells + rm.cells ≤ R.cells) (hS : slots + rm.slots ≤ R.slots)
    {g : JFrame} (hg : g.method = m) (hsize : g.locals.size = c.maxLocals) (argsL rest : List Value) (hlen : ∀ sig, parseMethodDescriptor y.desc = some sig → argsL.length = sig.parameters.length)
    (hstack : g.stack = argsL.reverse ++ .ref a :: rest) (has : (Value.ref a :: argsL).toArray = as') (hW : 2 * g.monitorRoom + (rest.map fun v => v.category).sum ≤ W) (hd : decode c.code g.pc = .ok (.invokevirtual index, 3))
    (k : ∀ v T' h' L, Stand p l e R s m args below meth c T' (locs ++ L) (cells + rm.cells) (slots + rm.slots) → T'.heap = h' → Q v h' L → own_Ends p e below s C S Qv T' { g with pc := g.pc + 3, stack := v.toList ++ rest }) : own_Ends p e below s C S Qv T g := by
  obtain ⟨cq, kq, q1, q2, q3⟩ := isOf hZ eT E
  obtain ⟨v, _, ⟨T', L', k', n'⟩, -, X', ⟨Lc, hQ, l1, y1, z1⟩, st⟩ := X.virtualBack hx (y := y) (z := y) hown (mvT hZ w1) (mvT hZ w5) (notFace_of_selects (args := #[]) (mvT hZ w6)) (mvT hZ w6) (mvT hZ w2) hy (backOf (W := W) hM hZ w4 w3 hf hl) q1 q3 (g := g) hg hsize (Steps.refl _) (argsL := argsL) (rest := rest) hlen hstack hW hd (fun _ _ => ⟨has, eT, hC, hS⟩)
  dsimp only [Pt.U, Pt.locs, Pt.cells, Pt.slots] at X' l1 y1 z1 st hQ
  subst l1 y1 z1
  exact own_go _ (fun t q => st.trans q) (k v T' _ Lc X' rfl hQ)
theorem own_callP (X : Stand p l e R s m args below meth c T locs cells slots) (hx : p.tables.exec = Jvm.exec) (hZ : Z.Warmed39 s.vm) {own C0 : String} {index kk : Nat} {y : MethodName} {bytes : ByteArray} {maxL : Nat} {ret : Option FieldType} {rm : Room} {as' : Array Value} {Q : Option Value → Heap → List Loc → Prop}
    (hown : s.vm.findClass own = some m.cls) (w1 : (Jvm.Cond.methodLink own index y).before a0 Z = true) (w2 : (Jvm.Cond.instanceMethod y).before a0 Z = true) (wi : (Jvm.Cond.instantiable y.cls kk).before a0 Z = true) (w5 : (Jvm.Cond.privateMethod y).before a0 Z = true) (w3 : (Jvm.Cond.initialized y.cls).before a0 Z = true) (w4 : (Jvm.Cond.code y bytes maxL ret).before a0 Z = true)
    (hy : y.cls ≠ "java/lang/invoke/MethodHandle" ∧ y.cls ≠ "java/lang/invoke/VarHandle") (eT : T.heap = h) (a : Addr) (E : Exa Z h a C0) (hM : own_Met l Z y bytes maxL ret rm as' h Q)
    (W : Nat) (hf : rm.frames + 1 ≤ R.frames) (hl : W + (maxL + 11) + rm.locals ≤ R.locals) (hC : cells + rm.cells ≤ R.cells) (hS : slots + rm.slots ≤ R.slots)
    {g : JFrame} (hg : g.method = m) (hsize : g.locals.size = c.maxLocals) (argsL rest : List Value) (hlen : ∀ sig, parseMethodDescriptor y.desc = some sig → argsL.length = sig.parameters.length)
    (hstack : g.stack = argsL.reverse ++ .ref a :: rest) (has : (Value.ref a :: argsL).toArray = as') (hW : 2 * g.monitorRoom + (rest.map fun v => v.category).sum ≤ W) (hd : decode c.code g.pc = .ok (.invokevirtual index, 3))
    (k : ∀ v T' h' L, Stand p l e R s m args below meth c T' (locs ++ L) (cells + rm.cells) (slots + rm.slots) → T'.heap = h' → Q v h' L → own_Ends p e below s C S Qv T' { g with pc := g.pc + 3, stack := v.toList ++ rest }) : own_Ends p e below s C S Qv T g := by
  obtain ⟨cq, q1, q2⟩ := E.cell
  have hp := Cond.privateMethod_at (mvP hZ w5 (args := #[]))
  obtain ⟨c2, k2, i1, i2, i3, i4, -⟩ := Cond.instantiable_spec (mvT (args := args) hZ wi)
  have hni : k2.isInterface = false := (Bool.or_eq_false_iff.mp i4).1
  have w6 := selects_self_of_private i1 i2 hni hp (mvT (args := args) hZ w2) hy
  obtain ⟨v, _, ⟨T', L', k', n'⟩, -, X', ⟨Lc, hQ, l1, y1, z1⟩, st⟩ := X.privateBack hx (y := y) hown (mvT hZ w1) (mvT hZ w2) w6 hp (mvT hZ w4) hy (backOf (W := W) hM hZ w4 w3 hf hl) (g := g) hg hsize (Steps.refl _) (a := a) (by rw [eT]; exact q1) q2 (argsL := argsL) (rest := rest) hlen hstack hW hd (fun _ _ => ⟨has, eT, hC, hS⟩)
  dsimp only [Pt.U, Pt.locs, Pt.cells, Pt.slots] at X' l1 y1 z1 st hQ
  subst l1 y1 z1
  exact own_go _ (fun t q => st.trans q) (k v T' _ Lc X' rfl hQ)
abbrev own_rel (cd : ClassFile.Cond) (a b : Int) : Prop := match cd with | .eq => a = b | .ne => ¬ a = b | .lt => a < b | .ge => b ≤ a | .gt => b < a | .le => a ≤ b
theorem own_icT {cd : ClassFile.Cond} {x y : Int32} (h : own_rel cd x.toInt y.toInt) : if_icmp.holds cd x y = true := by
  cases cd <;> simp [own_rel] at h <;> simp [if_icmp.holds, Int32.lt_iff_toInt_lt, Int32.le_iff_toInt_le, ← Int32.toInt_inj, h]
theorem own_icF {cd : ClassFile.Cond} {x y : Int32} (h : ¬ own_rel cd x.toInt y.toInt) : if_icmp.holds cd x y = false := by
  cases cd <;> simp [own_rel] at h <;> simp [if_icmp.holds, Int32.lt_iff_toInt_lt, Int32.le_iff_toInt_le, ← Int32.toInt_inj, h]
theorem own_zT {cd : ClassFile.Cond} {x : Int32} (h : own_rel cd x.toInt 0) : ifCond.holds cd x = true := (if0 cd x).trans (own_icT h)
theorem own_zF {cd : ClassFile.Cond} {x : Int32} (h : ¬ own_rel cd x.toInt 0) : ifCond.holds cd x = false := (if0 cd x).trans (own_icF h)
theorem own_cmp (cd : ClassFile.Cond) (x y : Int64) : own_rel cd (lcmpW x y).toInt 0 ↔ own_rel cd x.toInt y.toInt := by
  have h := c_lcmp x y
  cases cd <;> simp only [own_rel] <;> omega
theorem own_lcT {cd : ClassFile.Cond} {x y : Int64} (h : own_rel cd x.toInt y.toInt) : ifCond.holds cd (lcmpW x y) = true := own_zT ((own_cmp cd x y).mpr h)
theorem own_lcF {cd : ClassFile.Cond} {x y : Int64} (h : ¬ own_rel cd x.toInt y.toInt) : ifCond.holds cd (lcmpW x y) = false := own_zF (fun q => h ((own_cmp cd x y).mp q))
theorem own_xorm1 (x : Int64) : (x ^^^ (-1 : Int64)).toInt = -x.toInt - 1 := by
  have h : x ^^^ (-1 : Int64) = ~~~x := by
    apply Int64.toBitVec_inj.mp
    show x.toBitVec ^^^ BitVec.ofInt 64 (-1) = ~~~x.toBitVec
    have : BitVec.ofInt 64 (-1) = BitVec.allOnes 64 := by decide
    rw [this, BitVec.xor_allOnes]
  rw [h, Int64.toInt_not]
  have := rng64 x
  have e : (-x.toInt - 1).bmod (2 ^ 64) = -x.toInt - 1 := by
    rw [Int.bmod_eq_of_le] <;> omega
  first | exact e | omega
theorem own_nz32 {y : Int32} (h : ¬ y.toInt = 0) : y ≠ 0 := fun q => h (by rw [q]; rfl)
theorem own_nz64 {y : Int64} (h : ¬ y.toInt = 0) : y ≠ 0 := fun q => h (by rw [q]; rfl)
theorem own_lremV (x y : Int64) : 0 ≤ x.toInt → 0 < y.toInt → 0 ≤ (x - (x / y) * y).toInt ∧ (x - (x / y) * y).toInt < y.toInt ∧ (x - (x / y) * y).toInt ≤ x.toInt := by
  intro h0 h1
  rw [(c_lrem x y y.toInt rfl).1 h0]
  refine ⟨Int.emod_nonneg _ (by omega), Int.emod_lt_of_pos _ h1, ?_⟩
  have := Int.emod_add_mul_ediv x.toInt y.toInt
  have h2 : 0 ≤ x.toInt / y.toInt := Int.ediv_nonneg h0 (by omega)
  have h3 : 0 ≤ y.toInt * (x.toInt / y.toInt) := Int.mul_nonneg (by omega) h2
  omega
theorem own_iremV (x y : Int32) : 0 ≤ x.toInt → 0 < y.toInt → 0 ≤ (x % y).toInt ∧ (x % y).toInt < y.toInt ∧ (x % y).toInt ≤ x.toInt := fun h0 h1 =>
  have h := (c_iremV x y).1 h0 h1
  ⟨h.1, h.2.1, h.2.2.1⟩
end Own
section OwnArr
variable {p : Program} {l : Launch} {e : Env} {R : Room} {s : State} {m : MethodId} {args : Array Value} {below : List Frame} {meth : Method} {c : Code} {T T' : State} {locs : List Loc} {cells slots C S : Nat} {Qv : Option Value → Heap → List Loc → Prop} {Z : State} {a0 : Array Value} {h h' : Heap} {a b : Addr} {ty : FieldType} {n sl : Nat} {f : Nat → Value} {v : Value}
/-- an array of kind ty, n long, whose i-th place holds f i -/
def own_Av (Z : State) (h : Heap) (a : Addr) (ty : FieldType) (n : Nat) (f : Nat → Value) : Prop := ∃ c : Cell, Arr Z h a c ty ∧ c.slots.size = n ∧ ∀ i, i < n → c.slots[i]? = some (f i)
theorem own_Av.lt (F : own_Av Z h a ty n f) : a < h.size := by obtain ⟨c, A, -⟩ := F; exact A.lt
theorem own_Av.ext (F : own_Av Z h a ty n f) (E : Ext h h') : own_Av Z h' a ty n f := by obtain ⟨c, A, r⟩ := F; exact ⟨c, A.ext E, r⟩
theorem own_Av.other (F : own_Av Z h b ty n f) (W : Wr h h' a sl v) (q : b ≠ a) : own_Av Z h' b ty n f := by obtain ⟨c, A, r⟩ := F; exact ⟨c, A.other W q, r⟩
theorem own_Av.keep {ws : List Addr} (F : own_Av Z h a ty n f) (K : Keep h h' ws) (q : a ∉ ws) : own_Av Z h' a ty n f := by obtain ⟨c, A, r⟩ := F; exact ⟨c, ⟨K.2.1 a c A.1 q, A.2⟩, r⟩
theorem own_Av.set (F : own_Av Z h a ty n f) {j : Nat} (W : Wr h h' a j v) : own_Av Z h' a ty n (fun i => if i = j then v else f i) := by
  obtain ⟨c, A, hs, H⟩ := F
  refine ⟨c.setSlot j v, A.same W, by rw [sz_set]; exact hs, fun i hi => ?_⟩
  have hj : j < c.slots.size ∨ ¬ j < c.slots.size := Classical.em _
  show (c.slots.setIfInBounds j v)[i]? = some (if i = j then v else f i)
  by_cases q : i = j
  · subst q; simp [hs, hi]
  · rw [if_neg q, Array.getElem?_setIfInBounds_ne (Ne.symm q)]; exact H i hi
abbrev own_AI (Z : State) (h : Heap) (a : Addr) (ty : FieldType) (n : Nat) (F : Nat → Int32) : Prop := own_Av Z h a ty n (fun i => .int (F i))
abbrev own_AL (Z : State) (h : Heap) (a : Addr) (n : Nat) (F : Nat → Int64) : Prop := own_Av Z h a .long n (fun i => .long (F i))
theorem own_Av.eq {f' : Nat → Value} (F : own_Av Z h a ty n f) (q : ∀ i, i < n → f i = f' i) : own_Av Z h a ty n f' := by obtain ⟨c, A, hs, H⟩ := F; exact ⟨c, A, hs, fun i hi => by rw [← q i hi]; exact H i hi⟩
theorem own_idx {j : Int32} (h0 : 0 ≤ j.toInt) (h1 : j.toInt < n) : ¬ (j < 0 ∨ n ≤ j.toNatClampNeg) ∧ j.toNatClampNeg = j.toInt.toNat := by
  have e : j.toNatClampNeg = j.toInt.toNat := rfl
  refine ⟨fun q => ?_, e⟩
  rcases q with q | q
  · rw [Int32.lt_iff_toInt_lt] at q; have : (0 : Int32).toInt = 0 := rfl; omega
  · rw [e] at q; omega
theorem own_nn {j : Int32} (h0 : 0 ≤ j.toInt) : ¬ j < 0 := fun q => by rw [Int32.lt_iff_toInt_lt] at q; have : (0 : Int32).toInt = 0 := rfl; omega
theorem own_newarr (X : Stand p l e R s m args below meth c T locs cells slots) (hx : p.tables.exec = Jvm.exec) (hZ : Z.Warmed39 s.vm) {aty : ArrayType} (w : (Jvm.Cond.arrayClass (newarray.typeOf aty)).before a0 Z = true) (eT : T.heap = h) {g : JFrame} (hg : g.method = m) (hd : decode c.code g.pc = .ok (.newarray aty, 2)) {z : Int32} {rest : List Value} (hs : g.stack = .int z :: rest)
    (hz : 0 ≤ z.toInt) (cap : Nat) (hcap : z.toInt ≤ cap) (hb : cap * 8 ≤ 536870912) (hc : cells + 1 ≤ R.cells) (hl : slots + cap ≤ R.slots)
    (k : ∀ T' h' b, Stand p l e R s m args below meth c T' locs (cells + 1) (slots + cap) → T'.heap = h' → Ext h h' → b = h.size → own_Av Z h' b (newarray.typeOf aty) z.toInt.toNat (fun _ => defaultValue (newarray.typeOf aty)) → own_Ends p e below s C S Qv T' { g with pc := g.pc + 2, stack := .ref b :: rest }) : own_Ends p e below s C S Qv T g := by
  have e1 : z.toNatClampNeg = z.toInt.toNat := rfl
  obtain ⟨T', h', cA, X', e', E, A, st⟩ := newP X hx hZ w eT hg hd hs (own_nn hz) (cap := cap) (by rw [e1]; omega) hb hc hl
  refine own_go _ st (k T' h' _ X' e' E rfl ⟨_, A, sz_new _ _ _, fun i hi => ?_⟩)
  show (Array.replicate _ _)[i]? = _
  rw [Array.getElem?_replicate, if_pos (by rw [e1]; exact hi)]
theorem own_alen (X : Stand p l e R s m args below meth c T locs cells slots) (hx : p.tables.exec = Jvm.exec) (hZ : Z.Warmed39 s.vm) (eT : T.heap = h) (A : own_Av Z h a ty n f) (z : Int32) (hz : z.toInt = n) {g : JFrame} (hg : g.method = m) {rest : List Value} (hs : g.stack = .ref a :: rest) (hd : decode c.code g.pc = .ok (.arraylength, 1))
    (k : own_Ends p e below s C S Qv T { g with pc := g.pc + 1, stack := .int z :: rest }) : own_Ends p e below s C S Qv T g := by
  obtain ⟨cl, A, hn, -⟩ := A
  have e1 : cl.slots.size.toInt32 = z := by
    rw [hn]
    have r := rng32 z
    apply Int32.toInt_inj.mp
    rw [hz]
    show (Int32.ofNat n).toInt = n
    rw [Int32.toInt_ofNat_of_lt (by omega)]
  refine own_go _ (fun t q => X.arraylength hx (by rw [eT]; exact A.1) (State.isArrayOf_alike hZ.alike A.2.1) hg hs hd t (by rw [e1]; exact q)) k
theorem own_iaload (X : Stand p l e R s m args below meth c T locs cells slots) (hx : p.tables.exec = Jvm.exec) (hZ : Z.Warmed39 s.vm) (eT : T.heap = h) {F : Nat → Int32} (A : own_AI Z h a .int n F) {j : Int32} (h0 : 0 ≤ j.toInt) (h1 : j.toInt < n) {g : JFrame} (hg : g.method = m) {rest : List Value} (hs : g.stack = .int j :: .ref a :: rest) (hd : decode c.code g.pc = .ok (.iaload, 1))
    (k : own_Ends p e below s C S Qv T { g with pc := g.pc + 1, stack := .int (F j.toInt.toNat) :: rest }) : own_Ends p e below s C S Qv T g := by
  obtain ⟨cl, A, hn, H⟩ := A
  have q := own_idx h0 h1
  exact own_go _ (fun t r => X.iaload hx (by rw [eT]; exact A.1) (State.isArrayOf_alike hZ.alike A.2.1) A.2.2 (by rw [hn]; exact q.1) (by rw [q.2]; exact H _ (by omega)) hg hs hd t r) k
theorem own_baload (X : Stand p l e R s m args below meth c T locs cells slots) (hx : p.tables.exec = Jvm.exec) (hZ : Z.Warmed39 s.vm) (eT : T.heap = h) {F : Nat → Int32} (A : own_AI Z h a .byte n F) {j : Int32} (h0 : 0 ≤ j.toInt) (h1 : j.toInt < n) {g : JFrame} (hg : g.method = m) {rest : List Value} (hs : g.stack = .int j :: .ref a :: rest) (hd : decode c.code g.pc = .ok (.baload, 1))
    (k : own_Ends p e below s C S Qv T { g with pc := g.pc + 1, stack := .int (F j.toInt.toNat) :: rest }) : own_Ends p e below s C S Qv T g := by
  obtain ⟨cl, A, hn, H⟩ := A
  have q := own_idx h0 h1
  exact own_go _ (fun t r => X.baloadBytes hx (by rw [eT]; exact A.1) (State.isArrayOf_alike hZ.alike A.2.1) A.2.2 (by rw [hn]; exact q.1) (by rw [q.2]; exact H _ (by omega)) hg hs hd t r) k
theorem own_laload (X : Stand p l e R s m args below meth c T locs cells slots) (hx : p.tables.exec = Jvm.exec) (hZ : Z.Warmed39 s.vm) (eT : T.heap = h) {F : Nat → Int64} (A : own_AL Z h a n F) {j : Int32} (h0 : 0 ≤ j.toInt) (h1 : j.toInt < n) {g : JFrame} (hg : g.method = m) {rest : List Value} (hs : g.stack = .int j :: .ref a :: rest) (hd : decode c.code g.pc = .ok (.laload, 1))
    (k : own_Ends p e below s C S Qv T { g with pc := g.pc + 1, stack := .long (F j.toInt.toNat) :: rest }) : own_Ends p e below s C S Qv T g := by
  obtain ⟨cl, A, hn, H⟩ := A
  have q := own_idx h0 h1
  exact own_go _ (fun t r => X.laload hx (by rw [eT]; exact A.1) (State.isArrayOf_alike hZ.alike A.2.1) A.2.2 (by rw [hn]; exact q.1) (by rw [q.2]; exact H _ (by omega)) hg hs hd t r) k
theorem own_iastore (X : Stand p l e R s m args below meth c T locs cells slots) (hx : p.tables.exec = Jvm.exec) (hZ : Z.Warmed39 s.vm) (eT : T.heap = h) {F : Nat → Int32} (A : own_AI Z h a .int n F) {j : Int32} {x : Int32} (h0 : 0 ≤ j.toInt) (h1 : j.toInt < n) {g : JFrame} (hg : g.method = m) {rest : List Value} (hs : g.stack = .int x :: .int j :: .ref a :: rest) (hd : decode c.code g.pc = .ok (.iastore, 1))
    (k : ∀ T' h' F', Stand p l e R s m args below meth c T' (locs ++ [⟨a, j.toInt.toNat⟩]) cells slots → T'.heap = h' → Wr h h' a j.toInt.toNat (.int x) → (F' = fun i => if i = j.toInt.toNat then x else F i) → own_AI Z h' a .int n F' → own_Ends p e below s C S Qv T' { g with pc := g.pc + 1, stack := rest }) : own_Ends p e below s C S Qv T g := by
  obtain ⟨cl, Ar, hn, H⟩ := id A
  have q := own_idx h0 h1
  obtain ⟨T', h', X', e', W, st⟩ := stI X hx hZ eT Ar (j := j) (by rw [hn]; exact q.1) hg hs hd
  skip
  exact own_go _ st (k T' h' _ X' e' W rfl ((own_Av.set A W).eq fun i _ => by
    show (if i = j.toInt.toNat then Value.int x else Value.int (F i)) = Value.int (if i = j.toInt.toNat then x else F i)
    by_cases q : i = j.toInt.toNat
    · rw [if_pos q, if_pos q]
    · rw [if_neg q, if_neg q]))
theorem own_lastore (X : Stand p l e R s m args below meth c T locs cells slots) (hx : p.tables.exec = Jvm.exec) (hZ : Z.Warmed39 s.vm) (eT : T.heap = h) {F : Nat → Int64} (A : own_AL Z h a n F) {j : Int32} {x : Int64} (h0 : 0 ≤ j.toInt) (h1 : j.toInt < n) {g : JFrame} (hg : g.method = m) {rest : List Value} (hs : g.stack = .long x :: .int j :: .ref a :: rest) (hd : decode c.code g.pc = .ok (.lastore, 1))
    (k : ∀ T' h' F', Stand p l e R s m args below meth c T' (locs ++ [⟨a, j.toInt.toNat⟩]) cells slots → T'.heap = h' → Wr h h' a j.toInt.toNat (.long x) → (F' = fun i => if i = j.toInt.toNat then x else F i) → own_AL Z h' a n F' → own_Ends p e below s C S Qv T' { g with pc := g.pc + 1, stack := rest }) : own_Ends p e below s C S Qv T g := by
  obtain ⟨cl, Ar, hn, H⟩ := id A
  have q := own_idx h0 h1
  obtain ⟨T', h', X', e', W, st⟩ := stJ X hx hZ eT Ar (j := j) (by rw [hn]; exact q.1) hg hs hd
  skip
  exact own_go _ st (k T' h' _ X' e' W rfl ((own_Av.set A W).eq fun i _ => by
    show (if i = j.toInt.toNat then Value.long x else Value.long (F i)) = Value.long (if i = j.toInt.toNat then x else F i)
    by_cases q : i = j.toInt.toNat
    · rw [if_pos q, if_pos q]
    · rw [if_neg q, if_neg q]))
theorem own_bastore (X : Stand p l e R s m args below meth c T locs cells slots) (hx : p.tables.exec = Jvm.exec) (hZ : Z.Warmed39 s.vm) (eT : T.heap = h) {F : Nat → Int32} (A : own_AI Z h a .byte n F) {j : Int32} {x x0 : Int32} (h0 : 0 ≤ j.toInt) (h1 : j.toInt < n) (hy : nar .byte x0 = x) {g : JFrame} (hg : g.method = m) {rest : List Value} (hs : g.stack = .int x0 :: .int j :: .ref a :: rest) (hd : decode c.code g.pc = .ok (.bastore, 1))
    (k : ∀ T' h' F', Stand p l e R s m args below meth c T' (locs ++ [⟨a, j.toInt.toNat⟩]) cells slots → T'.heap = h' → Wr h h' a j.toInt.toNat (.int x) → (F' = fun i => if i = j.toInt.toNat then x else F i) → own_AI Z h' a .byte n F' → own_Ends p e below s C S Qv T' { g with pc := g.pc + 1, stack := rest }) : own_Ends p e below s C S Qv T g := by
  obtain ⟨cl, Ar, hn, H⟩ := id A
  have q := own_idx h0 h1
  obtain ⟨T', h', X', e', W, st⟩ := stB X hx hZ eT Ar (j := j) (by rw [hn]; exact q.1) hg hs hd
  rw [hy] at W
  exact own_go _ st (k T' h' _ X' e' W rfl ((own_Av.set A W).eq fun i _ => by
    show (if i = j.toInt.toNat then Value.int x else Value.int (F i)) = Value.int (if i = j.toInt.toNat then x else F i)
    by_cases q : i = j.toInt.toNat
    · rw [if_pos q, if_pos q]
    · rw [if_neg q, if_neg q]))
end OwnArr
theorem d1_0 : decode prog_9_method_2_code 0 = .ok (.aload_n 0, 1) := by decide +kernel
theorem d1_1 : decode prog_9_method_2_code 1 = .ok (.arraylength, 1) := by decide +kernel
theorem d1_2 : decode prog_9_method_2_code 2 = .ok (.iconst 1, 1) := by decide +kernel
theorem d1_3 : decode prog_9_method_2_code 3 = .ok (.if_icmp .lt 15, 3) := by decide +kernel
theorem d1_6 : decode prog_9_method_2_code 6 = .ok (.aload_n 0, 1) := by decide +kernel
theorem d1_7 : decode prog_9_method_2_code 7 = .ok (.arraylength, 1) := by decide +kernel
theorem d1_8 : decode prog_9_method_2_code 8 = .ok (.sipush 256, 3) := by decide +kernel
theorem d1_11 : decode prog_9_method_2_code 11 = .ok (.if_icmp .gt 7, 3) := by decide +kernel
theorem d1_14 : decode prog_9_method_2_code 14 = .ok (.iconst 1, 1) := by decide +kernel
theorem d1_15 : decode prog_9_method_2_code 15 = .ok (.goto 4, 3) := by decide +kernel
theorem d1_18 : decode prog_9_method_2_code 18 = .ok (.iconst 0, 1) := by decide +kernel
theorem d1_19 : decode prog_9_method_2_code 19 = .ok (.ireturn, 1) := by decide +kernel
theorem pf1 : plainFor (⟨"com/example/tallygate/tallygate/core/Pools", "isValidId", "([B)Z"⟩ : MethodName) = true := by decide +kernel
theorem ef1 (m : MethodId) (a : Addr) : entryFrame m #[(.ref a)] 1 = (mkF m 0 #[.val (.ref a)] []) := by first | rfl | (simp [entryFrame, mkF, argsToLocals, Value.category, maxLocals]; done)
def Q1 (Z : State) (a : Addr) (n : Nat) (F : Nat → Int32) (z : Int32) (h0 : Heap) (n0 : Nat) (v : Option Value) (h : Heap) (L : List Loc) : Prop := (∃ r : Int32, v = some (.int r) ∧ (r.toInt = 1 ∧ (1 ≤ n ∧ n ≤ 256) ∨ r.toInt = 0 ∧ ¬ (1 ≤ n ∧ n ≤ 256))) ∧ Fr n0 L ∧ h = h0
set_option maxRecDepth 65536 in
set_option maxHeartbeats 40000000 in
theorem rm1 (l : Launch) (Z : State) (a0 : Array Value) (hw : ∀ d ∈ tables_1, d.before a0 Z = true) (ws : List Jvm.Cond) (a : Addr) (n : Nat) (F : Nat → Int32) (z : Int32) (h0 : Heap) (n0 : Nat) (Z0 : n0 ≤ h0.size) (A_a : own_AI Z h0 a .byte n F) (hz : z.toInt = n) :
    MetFree l (⟨"com/example/tallygate/tallygate/core/Pools", "isValidId", "([B)Z"⟩ : MethodName) (head1 (Jvm.Cond.code (⟨"com/example/tallygate/tallygate/core/Pools", "isValidId", "([B)Z"⟩ : MethodName) prog_9_method_2_code 1 (some Jvm.ClassFile.FieldType.boolean) :: ws) ({ frames := 0, cells := 0, slots := 0, locals := 0 } : Room)) (fun aa U => aa = #[(.ref a)] ∧ Z.Warmed39 U.vm ∧ U.heap = h0) (fun _ _ _ _ _ => True) (fun _ U o U' => ∃ v L, o = .returned v ∧ Q1 Z a n F z h0 n0 v U'.heap L ∧ FrameEnd U o U' L ({ frames := 0, cells := 0, slots := 0, locals := 0 } : Room).cells ({ frames := 0, cells := 0, slots := 0, locals := 0 } : Room).slots) := by
  refine own_met pf1 ?_
  intro p e s m below meth c T0 hx hby hml hown hret hlk hnm hZ X0 e0
  have N0 := Fr.nil n0
  rw [ef1]
  refine own_go (mkF m 1 #[.val (.ref a)] [(.ref a)]) (fun t k => XS.aloadN X0.here hx rfl (hb hby d1_0) rfl rfl k) ?_
  refine own_alen X0 hx hZ e0 A_a z hz (g := (mkF m 1 #[.val (.ref a)] [(.ref a)])) rfl rfl (hb hby d1_1) ?_
  show own_Ends p e below s ({ frames := 0, cells := 0, slots := 0, locals := 0 } : Room).cells ({ frames := 0, cells := 0, slots := 0, locals := 0 } : Room).slots (Q1 Z a n F z h0 n0) T0 (mkF m 2 #[.val (.ref a)] [(.int z)])
  refine own_go (mkF m 3 #[.val (.ref a)] [(.int (1 : Int32)), (.int z)]) (fun t k => XS.iconst X0.here hx rfl (hb hby d1_2) k) ?_
  by_cases c3 : z.toInt < 1
  · skip
    refine own_go (mkF m 18 #[.val (.ref a)] []) (fun t k => XS.icmpYes X0.here hx rfl (pc0 := 3) (pc' := 18) rfl (hb hby d1_3) rfl (own_icT (cd := .lt) c3) (by decide) (by decide) k) ?_
    refine own_go (mkF m 19 #[.val (.ref a)] [(.int (0 : Int32))]) (fun t k => XS.iconst X0.here hx rfl (hb hby d1_18) k) ?_
    refine own_retI X0 hx hlk hret (by simp) rfl (hb hby d1_19) (by decide) (by decide) ?_
    rw [e0]
    exact ⟨⟨_, rfl, Or.inr ⟨rfl, by omega⟩⟩, N0, rfl⟩
  · skip
    refine own_go (mkF m 6 #[.val (.ref a)] []) (fun t k => XS.icmpNo X0.here hx rfl (hb hby d1_3) rfl (own_icF (cd := .lt) c3) k) ?_
    refine own_go (mkF m 7 #[.val (.ref a)] [(.ref a)]) (fun t k => XS.aloadN X0.here hx rfl (hb hby d1_6) rfl rfl k) ?_
    refine own_alen X0 hx hZ e0 A_a z hz (g := (mkF m 7 #[.val (.ref a)] [(.ref a)])) rfl rfl (hb hby d1_7) ?_
    show own_Ends p e below s ({ frames := 0, cells := 0, slots := 0, locals := 0 } : Room).cells ({ frames := 0, cells := 0, slots := 0, locals := 0 } : Room).slots (Q1 Z a n F z h0 n0) T0 (mkF m 8 #[.val (.ref a)] [(.int z)])
    refine own_go (mkF m 11 #[.val (.ref a)] [(.int (256 : Int32)), (.int z)]) (fun t k => XS.sipush X0.here hx rfl (hb hby d1_8) k) ?_
    by_cases c11 : 256 < z.toInt
    · skip
      refine own_go (mkF m 18 #[.val (.ref a)] []) (fun t k => XS.icmpYes X0.here hx rfl (pc0 := 11) (pc' := 18) rfl (hb hby d1_11) rfl (own_icT (cd := .gt) c11) (by decide) (by decide) k) ?_
      refine own_go (mkF m 19 #[.val (.ref a)] [(.int (0 : Int32))]) (fun t k => XS.iconst X0.here hx rfl (hb hby d1_18) k) ?_
      refine own_retI X0 hx hlk hret (by simp) rfl (hb hby d1_19) (by decide) (by decide) ?_
      rw [e0]
      exact ⟨⟨_, rfl, Or.inr ⟨rfl, by omega⟩⟩, N0, rfl⟩
    · skip
      refine own_go (mkF m 14 #[.val (.ref a)] []) (fun t k => XS.icmpNo X0.here hx rfl (hb hby d1_11) rfl (own_icF (cd := .gt) c11) k) ?_
      refine own_go (mkF m 15 #[.val (.ref a)] [(.int (1 : Int32))]) (fun t k => XS.iconst X0.here hx rfl (hb hby d1_14) k) ?_
      refine own_go (mkF m 19 #[.val (.ref a)] [(.int (1 : Int32))]) (fun t k => XS.goto X0.here hx rfl (pc0 := 15) (pc' := 19) rfl (hb hby d1_15) (by decide) (by decide) k) ?_
      refine own_retI X0 hx hlk hret (by simp) rfl (hb hby d1_19) (by decide) (by decide) ?_
      rw [e0]
      exact ⟨⟨_, rfl, Or.inl ⟨rfl, by omega⟩⟩, N0, rfl⟩
theorem pd0_0 : parseMethodDescriptor "([B)Z" = some ⟨[(.array .byte)], some .boolean⟩ := by decide +kernel
theorem pf0 : plainFor (⟨"com/example/tallygate/tallygate/core/PoolsIsValidIdPinLaw", "law", "(III)Z"⟩ : MethodName) = true := by decide +kernel
theorem ef0 (m : MethodId) (q1 : Int32) (q2 : Int32) (q3 : Int32) : entryFrame m #[(.int q1), (.int q2), (.int q3)] maxLocals = (mkF m 0 #[.val (.int q1), .val (.int q2), .val (.int q3), .unset, .unset, .unset] []) := by first | rfl | (simp [entryFrame, mkF, argsToLocals, Value.category, maxLocals]; done)
def Q0 (Z : State) (q1 : Int32) (q2 : Int32) (q3 : Int32) (h0 : Heap) (n0 : Nat) (v : Option Value) (h : Heap) (L : List Loc) : Prop := v = some (.int 1) ∧ Fr n0 L
set_option maxRecDepth 65536 in
set_option maxHeartbeats 40000000 in
theorem rm0 (l : Launch) (Z : State) (a0 : Array Value) (hw : ∀ d ∈ tables_1, d.before a0 Z = true) (ws : List Jvm.Cond) (q1 : Int32) (q2 : Int32) (q3 : Int32) (h0 : Heap) (n0 : Nat) (Z0 : n0 ≤ h0.size) :
    MetFree l x (head1 (Jvm.Cond.code x code maxLocals ret :: ws) room_1) (fun aa U => aa = #[(.int q1), (.int q2), (.int q3)] ∧ Z.Warmed39 U.vm ∧ U.heap = h0) (fun _ _ _ _ _ => True) (fun _ U o U' => ∃ v L, o = .returned v ∧ Q0 Z q1 q2 q3 h0 n0 v U'.heap L ∧ FrameEnd U o U' L room_1.cells room_1.slots) := by
  refine own_met pf0 ?_
  intro p e s m below meth c T0 hx hby hml hown hret hlk hnm hZ X0 e0
  have N0 := Fr.nil n0
  have r_q1 := rng32 q1
  have r_q2 := rng32 q2
  have r_q3 := rng32 q3
  rw [ef0]
  refine own_go (mkF m 1 #[.val (.int q1), .val (.int q2), .val (.int q3), .unset, .unset, .unset] [(.int q1)]) (fun t k => XS.iloadN X0.here hx rfl (hb hby at_0) rfl k) ?_
  refine own_go (mkF m 4 #[.val (.int q1), .val (.int q2), .val (.int q3), .unset, .unset, .unset] [(.int (511 : Int32)), (.int q1)]) (fun t k => XS.sipush X0.here hx rfl (hb hby at_1) k) ?_
  refine own_go (mkF m 5 #[.val (.int q1), .val (.int q2), .val (.int q3), .unset, .unset, .unset] [(.int (q1 &&& (511 : Int32)))]) (fun t k => XS.iand X0.here hx rfl (hb hby at_4) rfl k) ?_
  generalize hv4 : (q1 &&& (511 : Int32)) = v4
  have f4 : v4.toInt = q1.toInt % 512 := by rw [← hv4]; exact c_mask q1 (511 : Int32) 9 (by decide) (by decide)
  have r4 := rng32 v4
  refine own_go (mkF m 6 #[.val (.int q1), .val (.int q2), .val (.int q3), .val (.int v4), .unset, .unset] []) (fun t k => XS.istoreN X0.here hx rfl (hb hby at_5) rfl (l' := #[.val (.int q1), .val (.int q2), .val (.int q3), .val (.int v4), .unset, .unset]) rfl k) ?_
  refine own_go (mkF m 7 #[.val (.int q1), .val (.int q2), .val (.int q3), .val (.int v4), .unset, .unset] [(.int v4)]) (fun t k => XS.iloadN X0.here hx rfl (hb hby at_6) rfl k) ?_
  refine own_newarr X0 hx hZ (hw _ (List.mem_of_getElem? (i := 0) rfl)) e0 (g := (mkF m 7 #[.val (.int q1), .val (.int q2), .val (.int q3), .val (.int v4), .unset, .unset] [(.int v4)])) rfl (hb hby at_7) rfl (by omega) 511 (by omega) (by decide) (by decide) (by decide) ?_
  intro T7 h7 b7 X7 e7 E7 g7 A7
  have A7 : own_AI Z h7 b7 .byte (v4.toInt.toNat) (fun _ => 0) := A7
  have gb7 : n0 ≤ b7 := Nat.le_trans Z0 (Nat.le_of_eq g7.symm)
  have Z0_7 : n0 ≤ h7.size := Nat.le_trans Z0 E7.1
  show own_Ends p e below s room_1.cells room_1.slots (Q0 Z q1 q2 q3 h0 n0) T7 (mkF m 9 #[.val (.int q1), .val (.int q2), .val (.int q3), .val (.int v4), .unset, .unset] [(.ref b7)])
  refine own_go (mkF m 11 #[.val (.int q1), .val (.int q2), .val (.int q3), .val (.int v4), .val (.ref b7), .unset] []) (fun t k => XS.astore X7.here hx rfl (hb hby at_9) rfl rfl (l' := #[.val (.int q1), .val (.int q2), .val (.int q3), .val (.int v4), .val (.ref b7), .unset]) rfl k) ?_
  refine own_go (mkF m 12 #[.val (.int q1), .val (.int q2), .val (.int q3), .val (.int v4), .val (.ref b7), .unset] [(.int v4)]) (fun t k => XS.iloadN X7.here hx rfl (hb hby at_11) rfl k) ?_
  by_cases c12 : v4.toInt ≤ 0
  · skip
    refine own_go (mkF m 29 #[.val (.int q1), .val (.int q2), .val (.int q3), .val (.int v4), .val (.ref b7), .unset] []) (fun t k => XS.ifYes X7.here hx rfl (pc0 := 12) (pc' := 29) rfl (hb hby at_12) rfl (own_zT (cd := .le) c12) (by decide) (by decide) k) ?_
    refine own_go (mkF m 30 #[.val (.int q1), .val (.int q2), .val (.int q3), .val (.int v4), .val (.ref b7), .unset] [(.int v4)]) (fun t k => XS.iloadN X7.here hx rfl (hb hby at_29) rfl k) ?_
    refine own_go (mkF m 31 #[.val (.int q1), .val (.int q2), .val (.int q3), .val (.int v4), .val (.ref b7), .unset] [(.int (2 : Int32)), (.int v4)]) (fun t k => XS.iconst X7.here hx rfl (hb hby at_30) k) ?_
    by_cases c31 : v4.toInt ≤ 2
    · skip
      refine own_go (mkF m 45 #[.val (.int q1), .val (.int q2), .val (.int q3), .val (.int v4), .val (.ref b7), .unset] []) (fun t k => XS.icmpYes X7.here hx rfl (pc0 := 31) (pc' := 45) rfl (hb hby at_31) rfl (own_icT (cd := .le) c31) (by decide) (by decide) k) ?_
      refine own_go (mkF m 46 #[.val (.int q1), .val (.int q2), .val (.int q3), .val (.int v4), .val (.ref b7), .unset] [(.int v4)]) (fun t k => XS.iloadN X7.here hx rfl (hb hby at_45) rfl k) ?_
      refine own_go (mkF m 47 #[.val (.int q1), .val (.int q2), .val (.int q3), .val (.int v4), .val (.ref b7), .unset] [(.int (1 : Int32)), (.int v4)]) (fun t k => XS.iconst X7.here hx rfl (hb hby at_46) k) ?_
      by_cases c47 : v4.toInt < 1
      · skip
        refine own_go (mkF m 61 #[.val (.int q1), .val (.int q2), .val (.int q3), .val (.int v4), .val (.ref b7), .unset] []) (fun t k => XS.icmpYes X7.here hx rfl (pc0 := 47) (pc' := 61) rfl (hb hby at_47) rfl (own_icT (cd := .lt) c47) (by decide) (by decide) k) ?_
        refine own_go (mkF m 62 #[.val (.int q1), .val (.int q2), .val (.int q3), .val (.int v4), .val (.ref b7), .unset] [(.int (0 : Int32))]) (fun t k => XS.iconst X7.here hx rfl (hb hby at_61) k) ?_
        refine own_go (mkF m 64 #[.val (.int q1), .val (.int q2), .val (.int q3), .val (.int v4), .val (.ref b7), .val (.int (0 : Int32))] []) (fun t k => XS.istore X7.here hx rfl (hb hby at_62) rfl (l' := #[.val (.int q1), .val (.int q2), .val (.int q3), .val (.int v4), .val (.ref b7), .val (.int (0 : Int32))]) rfl k) ?_
        refine own_go (mkF m 66 #[.val (.int q1), .val (.int q2), .val (.int q3), .val (.int v4), .val (.ref b7), .val (.int (0 : Int32))] [(.ref b7)]) (fun t k => XS.aload X7.here hx rfl (hb hby at_64) rfl rfl k) ?_
        refine own_callS X7 hx hZ (y := (⟨"com/example/tallygate/tallygate/core/Pools", "isValidId", "([B)Z"⟩ : MethodName)) hown (hw _ (List.mem_of_getElem? (i := 1) rfl)) (hw _ (List.mem_of_getElem? (i := 2) rfl)) (hw _ (List.mem_of_getElem? (i := 3) rfl)) (hw _ (List.mem_of_getElem? (i := 4) rfl)) (by decide) e7 (rm1 l Z a0 hw [] b7 (v4.toInt.toNat) (fun _ => 0) v4 h7 n0 Z0_7 A7 (by omega)) 0 (by decide) (by decide) (by decide) (by decide) (g := (mkF m 66 #[.val (.int q1), .val (.int q2), .val (.int q3), .val (.int v4), .val (.ref b7), .val (.int (0 : Int32))] [(.ref b7)])) rfl (by rw [hml]; rfl) [(.ref b7)] [] (lenOf pd0_0 rfl) rfl rfl (by show 2 * 0 + _ ≤ _; exact Nat.le_of_eq rfl) (hb hby at_66) ?_
        intro rv66 T66 h66 L66 X66 e66 hQ66
        obtain ⟨⟨r, rfl, hr66⟩, NQ66, eq66⟩ := hQ66
        rw [eq66] at e66
        have N66 := Fr.app N0 NQ66
        show own_Ends p e below s room_1.cells room_1.slots (Q0 Z q1 q2 q3 h0 n0) T66 (mkF m 69 #[.val (.int q1), .val (.int q2), .val (.int q3), .val (.int v4), .val (.ref b7), .val (.int (0 : Int32))] [(.int r)])
        refine own_go (mkF m 71 #[.val (.int q1), .val (.int q2), .val (.int q3), .val (.int v4), .val (.ref b7), .val (.int (0 : Int32))] [(.int (0 : Int32)), (.int r)]) (fun t k => XS.iload X66.here hx rfl (hb hby at_69) rfl k) ?_
        by_cases c71 : r.toInt = 0
        · skip
          refine own_go (mkF m 74 #[.val (.int q1), .val (.int q2), .val (.int q3), .val (.int v4), .val (.ref b7), .val (.int (0 : Int32))] []) (fun t k => XS.icmpNo X66.here hx rfl (hb hby at_71) rfl (own_icF (cd := .ne) (fun q => q c71)) k) ?_
          refine own_go (mkF m 75 #[.val (.int q1), .val (.int q2), .val (.int q3), .val (.int v4), .val (.ref b7), .val (.int (0 : Int32))] [(.int (1 : Int32))]) (fun t k => XS.iconst X66.here hx rfl (hb hby at_74) k) ?_
          refine own_go (mkF m 79 #[.val (.int q1), .val (.int q2), .val (.int q3), .val (.int v4), .val (.ref b7), .val (.int (0 : Int32))] [(.int (1 : Int32))]) (fun t k => XS.goto X66.here hx rfl (pc0 := 75) (pc' := 79) rfl (hb hby at_75) (by decide) (by decide) k) ?_
          refine own_retI X66 hx hlk hret (by simp) rfl (hb hby at_79) (by decide) (by decide) ?_
          rw [e66]
          exact ⟨rfl, N66⟩
        · skip
          refine own_go (mkF m 78 #[.val (.int q1), .val (.int q2), .val (.int q3), .val (.int v4), .val (.ref b7), .val (.int (0 : Int32))] []) (fun t k => XS.icmpYes X66.here hx rfl (pc0 := 71) (pc' := 78) rfl (hb hby at_71) rfl (own_icT (cd := .ne) c71) (by decide) (by decide) k) ?_
          refine own_go (mkF m 79 #[.val (.int q1), .val (.int q2), .val (.int q3), .val (.int v4), .val (.ref b7), .val (.int (0 : Int32))] [(.int (0 : Int32))]) (fun t k => XS.iconst X66.here hx rfl (hb hby at_78) k) ?_
          refine own_retI X66 hx hlk hret (by simp) rfl (hb hby at_79) (by decide) (by decide) ?_
          rw [e66]
          exfalso
          omega
      · skip
        refine own_go (mkF m 50 #[.val (.int q1), .val (.int q2), .val (.int q3), .val (.int v4), .val (.ref b7), .unset] []) (fun t k => XS.icmpNo X7.here hx rfl (hb hby at_47) rfl (own_icF (cd := .lt) c47) k) ?_
        refine own_go (mkF m 51 #[.val (.int q1), .val (.int q2), .val (.int q3), .val (.int v4), .val (.ref b7), .unset] [(.int v4)]) (fun t k => XS.iloadN X7.here hx rfl (hb hby at_50) rfl k) ?_
        refine own_go (mkF m 54 #[.val (.int q1), .val (.int q2), .val (.int q3), .val (.int v4), .val (.ref b7), .unset] [(.int (256 : Int32)), (.int v4)]) (fun t k => XS.sipush X7.here hx rfl (hb hby at_51) k) ?_
        by_cases c54 : 256 < v4.toInt
        · skip
          refine own_go (mkF m 61 #[.val (.int q1), .val (.int q2), .val (.int q3), .val (.int v4), .val (.ref b7), .unset] []) (fun t k => XS.icmpYes X7.here hx rfl (pc0 := 54) (pc' := 61) rfl (hb hby at_54) rfl (own_icT (cd := .gt) c54) (by decide) (by decide) k) ?_
          refine own_go (mkF m 62 #[.val (.int q1), .val (.int q2), .val (.int q3), .val (.int v4), .val (.ref b7), .unset] [(.int (0 : Int32))]) (fun t k => XS.iconst X7.here hx rfl (hb hby at_61) k) ?_
          refine own_go (mkF m 64 #[.val (.int q1), .val (.int q2), .val (.int q3), .val (.int v4), .val (.ref b7), .val (.int (0 : Int32))] []) (fun t k => XS.istore X7.here hx rfl (hb hby at_62) rfl (l' := #[.val (.int q1), .val (.int q2), .val (.int q3), .val (.int v4), .val (.ref b7), .val (.int (0 : Int32))]) rfl k) ?_
          refine own_go (mkF m 66 #[.val (.int q1), .val (.int q2), .val (.int q3), .val (.int v4), .val (.ref b7), .val (.int (0 : Int32))] [(.ref b7)]) (fun t k => XS.aload X7.here hx rfl (hb hby at_64) rfl rfl k) ?_
          refine own_callS X7 hx hZ (y := (⟨"com/example/tallygate/tallygate/core/Pools", "isValidId", "([B)Z"⟩ : MethodName)) hown (hw _ (List.mem_of_getElem? (i := 1) rfl)) (hw _ (List.mem_of_getElem? (i := 2) rfl)) (hw _ (List.mem_of_getElem? (i := 3) rfl)) (hw _ (List.mem_of_getElem? (i := 4) rfl)) (by decide) e7 (rm1 l Z a0 hw [] b7 (v4.toInt.toNat) (fun _ => 0) v4 h7 n0 Z0_7 A7 (by omega)) 0 (by decide) (by decide) (by decide) (by decide) (g := (mkF m 66 #[.val (.int q1), .val (.int q2), .val (.int q3), .val (.int v4), .val (.ref b7), .val (.int (0 : Int32))] [(.ref b7)])) rfl (by rw [hml]; rfl) [(.ref b7)] [] (lenOf pd0_0 rfl) rfl rfl (by show 2 * 0 + _ ≤ _; exact Nat.le_of_eq rfl) (hb hby at_66) ?_
          intro rv66 T66 h66 L66 X66 e66 hQ66
          obtain ⟨⟨r, rfl, hr66⟩, NQ66, eq66⟩ := hQ66
          rw [eq66] at e66
          have N66 := Fr.app N0 NQ66
          show own_Ends p e below s room_1.cells room_1.slots (Q0 Z q1 q2 q3 h0 n0) T66 (mkF m 69 #[.val (.int q1), .val (.int q2), .val (.int q3), .val (.int v4), .val (.ref b7), .val (.int (0 : Int32))] [(.int r)])
          refine own_go (mkF m 71 #[.val (.int q1), .val (.int q2), .val (.int q3), .val (.int v4), .val (.ref b7), .val (.int (0 : Int32))] [(.int (0 : Int32)), (.int r)]) (fun t k => XS.iload X66.here hx rfl (hb hby at_69) rfl k) ?_
          by_cases c71 : r.toInt = 0
          · skip
            refine own_go (mkF m 74 #[.val (.int q1), .val (.int q2), .val (.int q3), .val (.int v4), .val (.ref b7), .val (.int (0 : Int32))] []) (fun t k => XS.icmpNo X66.here hx rfl (hb hby at_71) rfl (own_icF (cd := .ne) (fun q => q c71)) k) ?_
            refine own_go (mkF m 75 #[.val (.int q1), .val (.int q2), .val (.int q3), .val (.int v4), .val (.ref b7), .val (.int (0 : Int32))] [(.int (1 : Int32))]) (fun t k => XS.iconst X66.here hx rfl (hb hby at_74) k) ?_
            refine own_go (mkF m 79 #[.val (.int q1), .val (.int q2), .val (.int q3), .val (.int v4), .val (.ref b7), .val (.int (0 : Int32))] [(.int (1 : Int32))]) (fun t k => XS.goto X66.here hx rfl (pc0 := 75) (pc' := 79) rfl (hb hby at_75) (by decide) (by decide) k) ?_
            refine own_retI X66 hx hlk hret (by simp) rfl (hb hby at_79) (by decide) (by decide) ?_
            rw [e66]
            exact ⟨rfl, N66⟩
          · skip
            refine own_go (mkF m 78 #[.val (.int q1), .val (.int q2), .val (.int q3), .val (.int v4), .val (.ref b7), .val (.int (0 : Int32))] []) (fun t k => XS.icmpYes X66.here hx rfl (pc0 := 71) (pc' := 78) rfl (hb hby at_71) rfl (own_icT (cd := .ne) c71) (by decide) (by decide) k) ?_
            refine own_go (mkF m 79 #[.val (.int q1), .val (.int q2), .val (.int q3), .val (.int v4), .val (.ref b7), .val (.int (0 : Int32))] [(.int (0 : Int32))]) (fun t k => XS.iconst X66.here hx rfl (hb hby at_78) k) ?_
            refine own_retI X66 hx hlk hret (by simp) rfl (hb hby at_79) (by decide) (by decide) ?_
            rw [e66]
            exfalso
            omega
        · skip
          refine own_go (mkF m 57 #[.val (.int q1), .val (.int q2), .val (.int q3), .val (.int v4), .val (.ref b7), .unset] []) (fun t k => XS.icmpNo X7.here hx rfl (hb hby at_54) rfl (own_icF (cd := .gt) c54) k) ?_
          refine own_go (mkF m 58 #[.val (.int q1), .val (.int q2), .val (.int q3), .val (.int v4), .val (.ref b7), .unset] [(.int (1 : Int32))]) (fun t k => XS.iconst X7.here hx rfl (hb hby at_57) k) ?_
          refine own_go (mkF m 62 #[.val (.int q1), .val (.int q2), .val (.int q3), .val (.int v4), .val (.ref b7), .unset] [(.int (1 : Int32))]) (fun t k => XS.goto X7.here hx rfl (pc0 := 58) (pc' := 62) rfl (hb hby at_58) (by decide) (by decide) k) ?_
          refine own_go (mkF m 64 #[.val (.int q1), .val (.int q2), .val (.int q3), .val (.int v4), .val (.ref b7), .val (.int (1 : Int32))] []) (fun t k => XS.istore X7.here hx rfl (hb hby at_62) rfl (l' := #[.val (.int q1), .val (.int q2), .val (.int q3), .val (.int v4), .val (.ref b7), .val (.int (1 : Int32))]) rfl k) ?_
          refine own_go (mkF m 66 #[.val (.int q1), .val (.int q2), .val (.int q3), .val (.int v4), .val (.ref b7), .val (.int (1 : Int32))] [(.ref b7)]) (fun t k => XS.aload X7.here hx rfl (hb hby at_64) rfl rfl k) ?_
          refine own_callS X7 hx hZ (y := (⟨"com/example/tallygate/tallygate/core/Pools", "isValidId", "([B)Z"⟩ : MethodName)) hown (hw _ (List.mem_of_getElem? (i := 1) rfl)) (hw _ (List.mem_of_getElem? (i := 2) rfl)) (hw _ (List.mem_of_getElem? (i := 3) rfl)) (hw _ (List.mem_of_getElem? (i := 4) rfl)) (by decide) e7 (rm1 l Z a0 hw [] b7 (v4.toInt.toNat) (fun _ => 0) v4 h7 n0 Z0_7 A7 (by omega)) 0 (by decide) (by decide) (by decide) (by decide) (g := (mkF m 66 #[.val (.int q1), .val (.int q2), .val (.int q3), .val (.int v4), .val (.ref b7), .val (.int (1 : Int32))] [(.ref b7)])) rfl (by rw [hml]; rfl) [(.ref b7)] [] (lenOf pd0_0 rfl) rfl rfl (by show 2 * 0 + _ ≤ _; exact Nat.le_of_eq rfl) (hb hby at_66) ?_
          intro rv66 T66 h66 L66 X66 e66 hQ66
          obtain ⟨⟨r, rfl, hr66⟩, NQ66, eq66⟩ := hQ66
          rw [eq66] at e66
          have N66 := Fr.app N0 NQ66
          show own_Ends p e below s room_1.cells room_1.slots (Q0 Z q1 q2 q3 h0 n0) T66 (mkF m 69 #[.val (.int q1), .val (.int q2), .val (.int q3), .val (.int v4), .val (.ref b7), .val (.int (1 : Int32))] [(.int r)])
          refine own_go (mkF m 71 #[.val (.int q1), .val (.int q2), .val (.int q3), .val (.int v4), .val (.ref b7), .val (.int (1 : Int32))] [(.int (1 : Int32)), (.int r)]) (fun t k => XS.iload X66.here hx rfl (hb hby at_69) rfl k) ?_
          by_cases c71 : r.toInt = 1
          · skip
            refine own_go (mkF m 74 #[.val (.int q1), .val (.int q2), .val (.int q3), .val (.int v4), .val (.ref b7), .val (.int (1 : Int32))] []) (fun t k => XS.icmpNo X66.here hx rfl (hb hby at_71) rfl (own_icF (cd := .ne) (fun q => q c71)) k) ?_
            refine own_go (mkF m 75 #[.val (.int q1), .val (.int q2), .val (.int q3), .val (.int v4), .val (.ref b7), .val (.int (1 : Int32))] [(.int (1 : Int32))]) (fun t k => XS.iconst X66.here hx rfl (hb hby at_74) k) ?_
            refine own_go (mkF m 79 #[.val (.int q1), .val (.int q2), .val (.int q3), .val (.int v4), .val (.ref b7), .val (.int (1 : Int32))] [(.int (1 : Int32))]) (fun t k => XS.goto X66.here hx rfl (pc0 := 75) (pc' := 79) rfl (hb hby at_75) (by decide) (by decide) k) ?_
            refine own_retI X66 hx hlk hret (by simp) rfl (hb hby at_79) (by decide) (by decide) ?_
            rw [e66]
            exact ⟨rfl, N66⟩
          · skip
            refine own_go (mkF m 78 #[.val (.int q1), .val (.int q2), .val (.int q3), .val (.int v4), .val (.ref b7), .val (.int (1 : Int32))] []) (fun t k => XS.icmpYes X66.here hx rfl (pc0 := 71) (pc' := 78) rfl (hb hby at_71) rfl (own_icT (cd := .ne) c71) (by decide) (by decide) k) ?_
            refine own_go (mkF m 79 #[.val (.int q1), .val (.int q2), .val (.int q3), .val (.int v4), .val (.ref b7), .val (.int (1 : Int32))] [(.int (0 : Int32))]) (fun t k => XS.iconst X66.here hx rfl (hb hby at_78) k) ?_
            refine own_retI X66 hx hlk hret (by simp) rfl (hb hby at_79) (by decide) (by decide) ?_
            rw [e66]
            exfalso
            omega
    · skip
      refine own_go (mkF m 34 #[.val (.int q1), .val (.int q2), .val (.int q3), .val (.int v4), .val (.ref b7), .unset] []) (fun t k => XS.icmpNo X7.here hx rfl (hb hby at_31) rfl (own_icF (cd := .le) c31) k) ?_
      refine own_go (mkF m 36 #[.val (.int q1), .val (.int q2), .val (.int q3), .val (.int v4), .val (.ref b7), .unset] [(.ref b7)]) (fun t k => XS.aload X7.here hx rfl (hb hby at_34) rfl rfl k) ?_
      refine own_go (mkF m 37 #[.val (.int q1), .val (.int q2), .val (.int q3), .val (.int v4), .val (.ref b7), .unset] [(.int v4), (.ref b7)]) (fun t k => XS.iloadN X7.here hx rfl (hb hby at_36) rfl k) ?_
      refine own_go (mkF m 38 #[.val (.int q1), .val (.int q2), .val (.int q3), .val (.int v4), .val (.ref b7), .unset] [(.int (2 : Int32)), (.int v4), (.ref b7)]) (fun t k => XS.iconst X7.here hx rfl (hb hby at_37) k) ?_
      refine own_go (mkF m 39 #[.val (.int q1), .val (.int q2), .val (.int q3), .val (.int v4), .val (.ref b7), .unset] [(.int (v4 / (2 : Int32))), (.ref b7)]) (fun t k => XS.idiv X7.here hx rfl (hb hby at_38) rfl (by decide) k) ?_
      generalize hv38 : (v4 / (2 : Int32)) = v38
      have f38 : (0 ≤ v4.toInt → v38.toInt = v4.toInt / 2) ∧ (v4.toInt < 0 → v38.toInt = -((-v4.toInt) / 2)) := by rw [← hv38]; exact c_idiv v4 (2 : Int32) 2 (by decide) (by decide)
      have r38 := rng32 v38
      refine own_go (mkF m 40 #[.val (.int q1), .val (.int q2), .val (.int q3), .val (.int v4), .val (.ref b7), .unset] [(.int q2), (.int v38), (.ref b7)]) (fun t k => XS.iloadN X7.here hx rfl (hb hby at_39) rfl k) ?_
      refine own_go (mkF m 42 #[.val (.int q1), .val (.int q2), .val (.int q3), .val (.int v4), .val (.ref b7), .unset] [(.int (8 : Int32)), (.int q2), (.int v38), (.ref b7)]) (fun t k => XS.bipush X7.here hx rfl (hb hby at_40) k) ?_
      refine own_go (mkF m 43 #[.val (.int q1), .val (.int q2), .val (.int q3), .val (.int v4), .val (.ref b7), .unset] [(.int ((q2.toUInt32 >>> ((8 : Int32) &&& 31).toUInt32).toInt32)), (.int v38), (.ref b7)]) (fun t k => XS.iushr X7.here hx rfl (hb hby at_42) rfl k) ?_
      generalize hv42 : ((q2.toUInt32 >>> ((8 : Int32) &&& 31).toUInt32).toInt32) = v42
      have f42 : v42.toInt = (q2.toInt % 4294967296) / 256 := by rw [← hv42]; exact c_iushr q2 (8 : Int32) 8 (by decide) (by decide)
      have r42 := rng32 v42
      refine own_go (mkF m 44 #[.val (.int q1), .val (.int q2), .val (.int q3), .val (.int v4), .val (.ref b7), .unset] [(.int (v42.toInt8.toInt32)), (.int v38), (.ref b7)]) (fun t k => XS.i2b X7.here hx rfl (hb hby at_43) rfl k) ?_
      generalize hv43 : (v42.toInt8.toInt32) = v43
      have f43 : (v43.toInt - v42.toInt) % 256 = 0 ∧ -128 ≤ v43.toInt ∧ v43.toInt < 128 := by rw [← hv43]; exact c_i2b v42
      have r43 := rng32 v43
      refine own_bastore X7 hx hZ e7 A7 (j := v38) (x := (nar .byte v43)) (by omega) (by show (v38.toInt : Int) < _; omega) rfl (g := (mkF m 44 #[.val (.int q1), .val (.int q2), .val (.int q3), .val (.int v4), .val (.ref b7), .unset] [(.int v43), (.int v38), (.ref b7)])) rfl rfl (hb hby at_44) ?_
      intro T44 h44 F44 X44 e44 W44 hF44 A44
      have N44 := Fr.snoc X44 N0 gb7
      have Z0_44 : n0 ≤ h44.size := by rw [W44.size]; exact Z0_7
      show own_Ends p e below s room_1.cells room_1.slots (Q0 Z q1 q2 q3 h0 n0) T44 (mkF m 45 #[.val (.int q1), .val (.int q2), .val (.int q3), .val (.int v4), .val (.ref b7), .unset] [])
      refine own_go (mkF m 46 #[.val (.int q1), .val (.int q2), .val (.int q3), .val (.int v4), .val (.ref b7), .unset] [(.int v4)]) (fun t k => XS.iloadN X44.here hx rfl (hb hby at_45) rfl k) ?_
      refine own_go (mkF m 47 #[.val (.int q1), .val (.int q2), .val (.int q3), .val (.int v4), .val (.ref b7), .unset] [(.int (1 : Int32)), (.int v4)]) (fun t k => XS.iconst X44.here hx rfl (hb hby at_46) k) ?_
      by_cases c47 : v4.toInt < 1
      · skip
        refine own_go (mkF m 61 #[.val (.int q1), .val (.int q2), .val (.int q3), .val (.int v4), .val (.ref b7), .unset] []) (fun t k => XS.icmpYes X44.here hx rfl (pc0 := 47) (pc' := 61) rfl (hb hby at_47) rfl (own_icT (cd := .lt) c47) (by decide) (by decide) k) ?_
        refine own_go (mkF m 62 #[.val (.int q1), .val (.int q2), .val (.int q3), .val (.int v4), .val (.ref b7), .unset] [(.int (0 : Int32))]) (fun t k => XS.iconst X44.here hx rfl (hb hby at_61) k) ?_
        refine own_go (mkF m 64 #[.val (.int q1), .val (.int q2), .val (.int q3), .val (.int v4), .val (.ref b7), .val (.int (0 : Int32))] []) (fun t k => XS.istore X44.here hx rfl (hb hby at_62) rfl (l' := #[.val (.int q1), .val (.int q2), .val (.int q3), .val (.int v4), .val (.ref b7), .val (.int (0 : Int32))]) rfl k) ?_
        refine own_go (mkF m 66 #[.val (.int q1), .val (.int q2), .val (.int q3), .val (.int v4), .val (.ref b7), .val (.int (0 : Int32))] [(.ref b7)]) (fun t k => XS.aload X44.here hx rfl (hb hby at_64) rfl rfl k) ?_
        refine own_callS X44 hx hZ (y := (⟨"com/example/tallygate/tallygate/core/Pools", "isValidId", "([B)Z"⟩ : MethodName)) hown (hw _ (List.mem_of_getElem? (i := 1) rfl)) (hw _ (List.mem_of_getElem? (i := 2) rfl)) (hw _ (List.mem_of_getElem? (i := 3) rfl)) (hw _ (List.mem_of_getElem? (i := 4) rfl)) (by decide) e44 (rm1 l Z a0 hw [] b7 (v4.toInt.toNat) F44 v4 h44 n0 Z0_44 A44 (by omega)) 0 (by decide) (by decide) (by decide) (by decide) (g := (mkF m 66 #[.val (.int q1), .val (.int q2), .val (.int q3), .val (.int v4), .val (.ref b7), .val (.int (0 : Int32))] [(.ref b7)])) rfl (by rw [hml]; rfl) [(.ref b7)] [] (lenOf pd0_0 rfl) rfl rfl (by show 2 * 0 + _ ≤ _; exact Nat.le_of_eq rfl) (hb hby at_66) ?_
        intro rv66 T66 h66 L66 X66 e66 hQ66
        obtain ⟨⟨r, rfl, hr66⟩, NQ66, eq66⟩ := hQ66
        rw [eq66] at e66
        have N66 := Fr.app N44 NQ66
        show own_Ends p e below s room_1.cells room_1.slots (Q0 Z q1 q2 q3 h0 n0) T66 (mkF m 69 #[.val (.int q1), .val (.int q2), .val (.int q3), .val (.int v4), .val (.ref b7), .val (.int (0 : Int32))] [(.int r)])
        refine own_go (mkF m 71 #[.val (.int q1), .val (.int q2), .val (.int q3), .val (.int v4), .val (.ref b7), .val (.int (0 : Int32))] [(.int (0 : Int32)), (.int r)]) (fun t k => XS.iload X66.here hx rfl (hb hby at_69) rfl k) ?_
        by_cases c71 : r.toInt = 0
        · skip
          refine own_go (mkF m 74 #[.val (.int q1), .val (.int q2), .val (.int q3), .val (.int v4), .val (.ref b7), .val (.int (0 : Int32))] []) (fun t k => XS.icmpNo X66.here hx rfl (hb hby at_71) rfl (own_icF (cd := .ne) (fun q => q c71)) k) ?_
          refine own_go (mkF m 75 #[.val (.int q1), .val (.int q2), .val (.int q3), .val (.int v4), .val (.ref b7), .val (.int (0 : Int32))] [(.int (1 : Int32))]) (fun t k => XS.iconst X66.here hx rfl (hb hby at_74) k) ?_
          refine own_go (mkF m 79 #[.val (.int q1), .val (.int q2), .val (.int q3), .val (.int v4), .val (.ref b7), .val (.int (0 : Int32))] [(.int (1 : Int32))]) (fun t k => XS.goto X66.here hx rfl (pc0 := 75) (pc' := 79) rfl (hb hby at_75) (by decide) (by decide) k) ?_
          refine own_retI X66 hx hlk hret (by simp) rfl (hb hby at_79) (by decide) (by decide) ?_
          rw [e66]
          exact ⟨rfl, N66⟩
        · skip
          refine own_go (mkF m 78 #[.val (.int q1), .val (.int q2), .val (.int q3), .val (.int v4), .val (.ref b7), .val (.int (0 : Int32))] []) (fun t k => XS.icmpYes X66.here hx rfl (pc0 := 71) (pc' := 78) rfl (hb hby at_71) rfl (own_icT (cd := .ne) c71) (by decide) (by decide) k) ?_
          refine own_go (mkF m 79 #[.val (.int q1), .val (.int q2), .val (.int q3), .val (.int v4), .val (.ref b7), .val (.int (0 : Int32))] [(.int (0 : Int32))]) (fun t k => XS.iconst X66.here hx rfl (hb hby at_78) k) ?_
          refine own_retI X66 hx hlk hret (by simp) rfl (hb hby at_79) (by decide) (by decide) ?_
          rw [e66]
          exfalso
          omega
      · skip
        refine own_go (mkF m 50 #[.val (.int q1), .val (.int q2), .val (.int q3), .val (.int v4), .val (.ref b7), .unset] []) (fun t k => XS.icmpNo X44.here hx rfl (hb hby at_47) rfl (own_icF (cd := .lt) c47) k) ?_
        refine own_go (mkF m 51 #[.val (.int q1), .val (.int q2), .val (.int q3), .val (.int v4), .val (.ref b7), .unset] [(.int v4)]) (fun t k => XS.iloadN X44.here hx rfl (hb hby at_50) rfl k) ?_
        refine own_go (mkF m 54 #[.val (.int q1), .val (.int q2), .val (.int q3), .val (.int v4), .val (.ref b7), .unset] [(.int (256 : Int32)), (.int v4)]) (fun t k => XS.sipush X44.here hx rfl (hb hby at_51) k) ?_
        by_cases c54 : 256 < v4.toInt
        · skip
          refine own_go (mkF m 61 #[.val (.int q1), .val (.int q2), .val (.int q3), .val (.int v4), .val (.ref b7), .unset] []) (fun t k => XS.icmpYes X44.here hx rfl (pc0 := 54) (pc' := 61) rfl (hb hby at_54) rfl (own_icT (cd := .gt) c54) (by decide) (by decide) k) ?_
          refine own_go (mkF m 62 #[.val (.int q1), .val (.int q2), .val (.int q3), .val (.int v4), .val (.ref b7), .unset] [(.int (0 : Int32))]) (fun t k => XS.iconst X44.here hx rfl (hb hby at_61) k) ?_
          refine own_go (mkF m 64 #[.val (.int q1), .val (.int q2), .val (.int q3), .val (.int v4), .val (.ref b7), .val (.int (0 : Int32))] []) (fun t k => XS.istore X44.here hx rfl (hb hby at_62) rfl (l' := #[.val (.int q1), .val (.int q2), .val (.int q3), .val (.int v4), .val (.ref b7), .val (.int (0 : Int32))]) rfl k) ?_
          refine own_go (mkF m 66 #[.val (.int q1), .val (.int q2), .val (.int q3), .val (.int v4), .val (.ref b7), .val (.int (0 : Int32))] [(.ref b7)]) (fun t k => XS.aload X44.here hx rfl (hb hby at_64) rfl rfl k) ?_
          refine own_callS X44 hx hZ (y := (⟨"com/example/tallygate/tallygate/core/Pools", "isValidId", "([B)Z"⟩ : MethodName)) hown (hw _ (List.mem_of_getElem? (i := 1) rfl)) (hw _ (List.mem_of_getElem? (i := 2) rfl)) (hw _ (List.mem_of_getElem? (i := 3) rfl)) (hw _ (List.mem_of_getElem? (i := 4) rfl)) (by decide) e44 (rm1 l Z a0 hw [] b7 (v4.toInt.toNat) F44 v4 h44 n0 Z0_44 A44 (by omega)) 0 (by decide) (by decide) (by decide) (by decide) (g := (mkF m 66 #[.val (.int q1), .val (.int q2), .val (.int q3), .val (.int v4), .val (.ref b7), .val (.int (0 : Int32))] [(.ref b7)])) rfl (by rw [hml]; rfl) [(.ref b7)] [] (lenOf pd0_0 rfl) rfl rfl (by show 2 * 0 + _ ≤ _; exact Nat.le_of_eq rfl) (hb hby at_66) ?_
          intro rv66 T66 h66 L66 X66 e66 hQ66
          obtain ⟨⟨r, rfl, hr66⟩, NQ66, eq66⟩ := hQ66
          rw [eq66] at e66
          have N66 := Fr.app N44 NQ66
          show own_Ends p e below s room_1.cells room_1.slots (Q0 Z q1 q2 q3 h0 n0) T66 (mkF m 69 #[.val (.int q1), .val (.int q2), .val (.int q3), .val (.int v4), .val (.ref b7), .val (.int (0 : Int32))] [(.int r)])
          refine own_go (mkF m 71 #[.val (.int q1), .val (.int q2), .val (.int q3), .val (.int v4), .val (.ref b7), .val (.int (0 : Int32))] [(.int (0 : Int32)), (.int r)]) (fun t k => XS.iload X66.here hx rfl (hb hby at_69) rfl k) ?_
          by_cases c71 : r.toInt = 0
          · skip
            refine own_go (mkF m 74 #[.val (.int q1), .val (.int q2), .val (.int q3), .val (.int v4), .val (.ref b7), .val (.int (0 : Int32))] []) (fun t k => XS.icmpNo X66.here hx rfl (hb hby at_71) rfl (own_icF (cd := .ne) (fun q => q c71)) k) ?_
            refine own_go (mkF m 75 #[.val (.int q1), .val (.int q2), .val (.int q3), .val (.int v4), .val (.ref b7), .val (.int (0 : Int32))] [(.int (1 : Int32))]) (fun t k => XS.iconst X66.here hx rfl (hb hby at_74) k) ?_
            refine own_go (mkF m 79 #[.val (.int q1), .val (.int q2), .val (.int q3), .val (.int v4), .val (.ref b7), .val (.int (0 : Int32))] [(.int (1 : Int32))]) (fun t k => XS.goto X66.here hx rfl (pc0 := 75) (pc' := 79) rfl (hb hby at_75) (by decide) (by decide) k) ?_
            refine own_retI X66 hx hlk hret (by simp) rfl (hb hby at_79) (by decide) (by decide) ?_
            rw [e66]
            exact ⟨rfl, N66⟩
          · skip
            refine own_go (mkF m 78 #[.val (.int q1), .val (.int q2), .val (.int q3), .val (.int v4), .val (.ref b7), .val (.int (0 : Int32))] []) (fun t k => XS.icmpYes X66.here hx rfl (pc0 := 71) (pc' := 78) rfl (hb hby at_71) rfl (own_icT (cd := .ne) c71) (by decide) (by decide) k) ?_
            refine own_go (mkF m 79 #[.val (.int q1), .val (.int q2), .val (.int q3), .val (.int v4), .val (.ref b7), .val (.int (0 : Int32))] [(.int (0 : Int32))]) (fun t k => XS.iconst X66.here hx rfl (hb hby at_78) k) ?_
            refine own_retI X66 hx hlk hret (by simp) rfl (hb hby at_79) (by decide) (by decide) ?_
            rw [e66]
            exfalso
            omega
        · skip
          refine own_go (mkF m 57 #[.val (.int q1), .val (.int q2), .val (.int q3), .val (.int v4), .val (.ref b7), .unset] []) (fun t k => XS.icmpNo X44.here hx rfl (hb hby at_54) rfl (own_icF (cd := .gt) c54) k) ?_
          refine own_go (mkF m 58 #[.val (.int q1), .val (.int q2), .val (.int q3), .val (.int v4), .val (.ref b7), .unset] [(.int (1 : Int32))]) (fun t k => XS.iconst X44.here hx rfl (hb hby at_57) k) ?_
          refine own_go (mkF m 62 #[.val (.int q1), .val (.int q2), .val (.int q3), .val (.int v4), .val (.ref b7), .unset] [(.int (1 : Int32))]) (fun t k => XS.goto X44.here hx rfl (pc0 := 58) (pc' := 62) rfl (hb hby at_58) (by decide) (by decide) k) ?_
          refine own_go (mkF m 64 #[.val (.int q1), .val (.int q2), .val (.int q3), .val (.int v4), .val (.ref b7), .val (.int (1 : Int32))] []) (fun t k => XS.istore X44.here hx rfl (hb hby at_62) rfl (l' := #[.val (.int q1), .val (.int q2), .val (.int q3), .val (.int v4), .val (.ref b7), .val (.int (1 : Int32))]) rfl k) ?_
          refine own_go (mkF m 66 #[.val (.int q1), .val (.int q2), .val (.int q3), .val (.int v4), .val (.ref b7), .val (.int (1 : Int32))] [(.ref b7)]) (fun t k => XS.aload X44.here hx rfl (hb hby at_64) rfl rfl k) ?_
          refine own_callS X44 hx hZ (y := (⟨"com/example/tallygate/tallygate/core/Pools", "isValidId", "([B)Z"⟩ : MethodName)) hown (hw _ (List.mem_of_getElem? (i := 1) rfl)) (hw _ (List.mem_of_getElem? (i := 2) rfl)) (hw _ (List.mem_of_getElem? (i := 3) rfl)) (hw _ (List.mem_of_getElem? (i := 4) rfl)) (by decide) e44 (rm1 l Z a0 hw [] b7 (v4.toInt.toNat) F44 v4 h44 n0 Z0_44 A44 (by omega)) 0 (by decide) (by decide) (by decide) (by decide) (g := (mkF m 66 #[.val (.int q1), .val (.int q2), .val (.int q3), .val (.int v4), .val (.ref b7), .val (.int (1 : Int32))] [(.ref b7)])) rfl (by rw [hml]; rfl) [(.ref b7)] [] (lenOf pd0_0 rfl) rfl rfl (by show 2 * 0 + _ ≤ _; exact Nat.le_of_eq rfl) (hb hby at_66) ?_
          intro rv66 T66 h66 L66 X66 e66 hQ66
          obtain ⟨⟨r, rfl, hr66⟩, NQ66, eq66⟩ := hQ66
          rw [eq66] at e66
          have N66 := Fr.app N44 NQ66
          show own_Ends p e below s room_1.cells room_1.slots (Q0 Z q1 q2 q3 h0 n0) T66 (mkF m 69 #[.val (.int q1), .val (.int q2), .val (.int q3), .val (.int v4), .val (.ref b7), .val (.int (1 : Int32))] [(.int r)])
          refine own_go (mkF m 71 #[.val (.int q1), .val (.int q2), .val (.int q3), .val (.int v4), .val (.ref b7), .val (.int (1 : Int32))] [(.int (1 : Int32)), (.int r)]) (fun t k => XS.iload X66.here hx rfl (hb hby at_69) rfl k) ?_
          by_cases c71 : r.toInt = 1
          · skip
            refine own_go (mkF m 74 #[.val (.int q1), .val (.int q2), .val (.int q3), .val (.int v4), .val (.ref b7), .val (.int (1 : Int32))] []) (fun t k => XS.icmpNo X66.here hx rfl (hb hby at_71) rfl (own_icF (cd := .ne) (fun q => q c71)) k) ?_
            refine own_go (mkF m 75 #[.val (.int q1), .val (.int q2), .val (.int q3), .val (.int v4), .val (.ref b7), .val (.int (1 : Int32))] [(.int (1 : Int32))]) (fun t k => XS.iconst X66.here hx rfl (hb hby at_74) k) ?_
            refine own_go (mkF m 79 #[.val (.int q1), .val (.int q2), .val (.int q3), .val (.int v4), .val (.ref b7), .val (.int (1 : Int32))] [(.int (1 : Int32))]) (fun t k => XS.goto X66.here hx rfl (pc0 := 75) (pc' := 79) rfl (hb hby at_75) (by decide) (by decide) k) ?_
            refine own_retI X66 hx hlk hret (by simp) rfl (hb hby at_79) (by decide) (by decide) ?_
            rw [e66]
            exact ⟨rfl, N66⟩
          · skip
            refine own_go (mkF m 78 #[.val (.int q1), .val (.int q2), .val (.int q3), .val (.int v4), .val (.ref b7), .val (.int (1 : Int32))] []) (fun t k => XS.icmpYes X66.here hx rfl (pc0 := 71) (pc' := 78) rfl (hb hby at_71) rfl (own_icT (cd := .ne) c71) (by decide) (by decide) k) ?_
            refine own_go (mkF m 79 #[.val (.int q1), .val (.int q2), .val (.int q3), .val (.int v4), .val (.ref b7), .val (.int (1 : Int32))] [(.int (0 : Int32))]) (fun t k => XS.iconst X66.here hx rfl (hb hby at_78) k) ?_
            refine own_retI X66 hx hlk hret (by simp) rfl (hb hby at_79) (by decide) (by decide) ?_
            rw [e66]
            exfalso
            omega
  · skip
    refine own_go (mkF m 15 #[.val (.int q1), .val (.int q2), .val (.int q3), .val (.int v4), .val (.ref b7), .unset] []) (fun t k => XS.ifNo X7.here hx rfl (hb hby at_12) rfl (own_zF (cd := .le) c12) k) ?_
    refine own_go (mkF m 17 #[.val (.int q1), .val (.int q2), .val (.int q3), .val (.int v4), .val (.ref b7), .unset] [(.ref b7)]) (fun t k => XS.aload X7.here hx rfl (hb hby at_15) rfl rfl k) ?_
    refine own_go (mkF m 18 #[.val (.int q1), .val (.int q2), .val (.int q3), .val (.int v4), .val (.ref b7), .unset] [(.int (0 : Int32)), (.ref b7)]) (fun t k => XS.iconst X7.here hx rfl (hb hby at_17) k) ?_
    refine own_go (mkF m 19 #[.val (.int q1), .val (.int q2), .val (.int q3), .val (.int v4), .val (.ref b7), .unset] [(.int q2), (.int (0 : Int32)), (.ref b7)]) (fun t k => XS.iloadN X7.here hx rfl (hb hby at_18) rfl k) ?_
    refine own_go (mkF m 20 #[.val (.int q1), .val (.int q2), .val (.int q3), .val (.int v4), .val (.ref b7), .unset] [(.int (q2.toInt8.toInt32)), (.int (0 : Int32)), (.ref b7)]) (fun t k => XS.i2b X7.here hx rfl (hb hby at_19) rfl k) ?_
    generalize hv19 : (q2.toInt8.toInt32) = v19
    have f19 : (v19.toInt - q2.toInt) % 256 = 0 ∧ -128 ≤ v19.toInt ∧ v19.toInt < 128 := by rw [← hv19]; exact c_i2b q2
    have r19 := rng32 v19
    refine own_bastore X7 hx hZ e7 A7 (j := (0 : Int32)) (x := (nar .byte v19)) (by decide) (by show (0 : Int) < _; omega) rfl (g := (mkF m 20 #[.val (.int q1), .val (.int q2), .val (.int q3), .val (.int v4), .val (.ref b7), .unset] [(.int v19), (.int (0 : Int32)), (.ref b7)])) rfl rfl (hb hby at_20) ?_
    intro T20 h20 F20 X20 e20 W20 hF20 A20
    have N20 := Fr.snoc X20 N0 gb7
    have Z0_20 : n0 ≤ h20.size := by rw [W20.size]; exact Z0_7
    show own_Ends p e below s room_1.cells room_1.slots (Q0 Z q1 q2 q3 h0 n0) T20 (mkF m 21 #[.val (.int q1), .val (.int q2), .val (.int q3), .val (.int v4), .val (.ref b7), .unset] [])
    refine own_go (mkF m 23 #[.val (.int q1), .val (.int q2), .val (.int q3), .val (.int v4), .val (.ref b7), .unset] [(.ref b7)]) (fun t k => XS.aload X20.here hx rfl (hb hby at_21) rfl rfl k) ?_
    refine own_go (mkF m 24 #[.val (.int q1), .val (.int q2), .val (.int q3), .val (.int v4), .val (.ref b7), .unset] [(.int v4), (.ref b7)]) (fun t k => XS.iloadN X20.here hx rfl (hb hby at_23) rfl k) ?_
    refine own_go (mkF m 25 #[.val (.int q1), .val (.int q2), .val (.int q3), .val (.int v4), .val (.ref b7), .unset] [(.int (1 : Int32)), (.int v4), (.ref b7)]) (fun t k => XS.iconst X20.here hx rfl (hb hby at_24) k) ?_
    refine own_go (mkF m 26 #[.val (.int q1), .val (.int q2), .val (.int q3), .val (.int v4), .val (.ref b7), .unset] [(.int (v4 - (1 : Int32))), (.ref b7)]) (fun t k => XS.isub X20.here hx rfl (hb hby at_25) rfl k) ?_
    generalize hv25 : (v4 - (1 : Int32)) = v25
    have f25 : (v25.toInt - (v4.toInt - 1)) % 4294967296 = 0 := by rw [← hv25]; exact c_isub v4 (1 : Int32)
    have r25 := rng32 v25
    refine own_go (mkF m 27 #[.val (.int q1), .val (.int q2), .val (.int q3), .val (.int v4), .val (.ref b7), .unset] [(.int q3), (.int v25), (.ref b7)]) (fun t k => XS.iloadN X20.here hx rfl (hb hby at_26) rfl k) ?_
    refine own_go (mkF m 28 #[.val (.int q1), .val (.int q2), .val (.int q3), .val (.int v4), .val (.ref b7), .unset] [(.int (q3.toInt8.toInt32)), (.int v25), (.ref b7)]) (fun t k => XS.i2b X20.here hx rfl (hb hby at_27) rfl k) ?_
    generalize hv27 : (q3.toInt8.toInt32) = v27
    have f27 : (v27.toInt - q3.toInt) % 256 = 0 ∧ -128 ≤ v27.toInt ∧ v27.toInt < 128 := by rw [← hv27]; exact c_i2b q3
    have r27 := rng32 v27
    refine own_bastore X20 hx hZ e20 A20 (j := v25) (x := (nar .byte v27)) (by omega) (by show (v25.toInt : Int) < _; omega) rfl (g := (mkF m 28 #[.val (.int q1), .val (.int q2), .val (.int q3), .val (.int v4), .val (.ref b7), .unset] [(.int v27), (.int v25), (.ref b7)])) rfl rfl (hb hby at_28) ?_
    intro T28 h28 F28 X28 e28 W28 hF28 A28
    have N28 := Fr.snoc X28 N20 gb7
    have Z0_28 : n0 ≤ h28.size := by rw [W28.size]; exact Z0_20
    show own_Ends p e below s room_1.cells room_1.slots (Q0 Z q1 q2 q3 h0 n0) T28 (mkF m 29 #[.val (.int q1), .val (.int q2), .val (.int q3), .val (.int v4), .val (.ref b7), .unset] [])
    refine own_go (mkF m 30 #[.val (.int q1), .val (.int q2), .val (.int q3), .val (.int v4), .val (.ref b7), .unset] [(.int v4)]) (fun t k => XS.iloadN X28.here hx rfl (hb hby at_29) rfl k) ?_
    refine own_go (mkF m 31 #[.val (.int q1), .val (.int q2), .val (.int q3), .val (.int v4), .val (.ref b7), .unset] [(.int (2 : Int32)), (.int v4)]) (fun t k => XS.iconst X28.here hx rfl (hb hby at_30) k) ?_
    by_cases c31 : v4.toInt ≤ 2
    · skip
      refine own_go (mkF m 45 #[.val (.int q1), .val (.int q2), .val (.int q3), .val (.int v4), .val (.ref b7), .unset] []) (fun t k => XS.icmpYes X28.here hx rfl (pc0 := 31) (pc' := 45) rfl (hb hby at_31) rfl (own_icT (cd := .le) c31) (by decide) (by decide) k) ?_
      refine own_go (mkF m 46 #[.val (.int q1), .val (.int q2), .val (.int q3), .val (.int v4), .val (.ref b7), .unset] [(.int v4)]) (fun t k => XS.iloadN X28.here hx rfl (hb hby at_45) rfl k) ?_
      refine own_go (mkF m 47 #[.val (.int q1), .val (.int q2), .val (.int q3), .val (.int v4), .val (.ref b7), .unset] [(.int (1 : Int32)), (.int v4)]) (fun t k => XS.iconst X28.here hx rfl (hb hby at_46) k) ?_
      by_cases c47 : v4.toInt < 1
      · skip
        refine own_go (mkF m 61 #[.val (.int q1), .val (.int q2), .val (.int q3), .val (.int v4), .val (.ref b7), .unset] []) (fun t k => XS.icmpYes X28.here hx rfl (pc0 := 47) (pc' := 61) rfl (hb hby at_47) rfl (own_icT (cd := .lt) c47) (by decide) (by decide) k) ?_
        refine own_go (mkF m 62 #[.val (.int q1), .val (.int q2), .val (.int q3), .val (.int v4), .val (.ref b7), .unset] [(.int (0 : Int32))]) (fun t k => XS.iconst X28.here hx rfl (hb hby at_61) k) ?_
        refine own_go (mkF m 64 #[.val (.int q1), .val (.int q2), .val (.int q3), .val (.int v4), .val (.ref b7), .val (.int (0 : Int32))] []) (fun t k => XS.istore X28.here hx rfl (hb hby at_62) rfl (l' := #[.val (.int q1), .val (.int q2), .val (.int q3), .val (.int v4), .val (.ref b7), .val (.int (0 : Int32))]) rfl k) ?_
        refine own_go (mkF m 66 #[.val (.int q1), .val (.int q2), .val (.int q3), .val (.int v4), .val (.ref b7), .val (.int (0 : Int32))] [(.ref b7)]) (fun t k => XS.aload X28.here hx rfl (hb hby at_64) rfl rfl k) ?_
        refine own_callS X28 hx hZ (y := (⟨"com/example/tallygate/tallygate/core/Pools", "isValidId", "([B)Z"⟩ : MethodName)) hown (hw _ (List.mem_of_getElem? (i := 1) rfl)) (hw _ (List.mem_of_getElem? (i := 2) rfl)) (hw _ (List.mem_of_getElem? (i := 3) rfl)) (hw _ (List.mem_of_getElem? (i := 4) rfl)) (by decide) e28 (rm1 l Z a0 hw [] b7 (v4.toInt.toNat) F28 v4 h28 n0 Z0_28 A28 (by omega)) 0 (by decide) (by decide) (by decide) (by decide) (g := (mkF m 66 #[.val (.int q1), .val (.int q2), .val (.int q3), .val (.int v4), .val (.ref b7), .val (.int (0 : Int32))] [(.ref b7)])) rfl (by rw [hml]; rfl) [(.ref b7)] [] (lenOf pd0_0 rfl) rfl rfl (by show 2 * 0 + _ ≤ _; exact Nat.le_of_eq rfl) (hb hby at_66) ?_
        intro rv66 T66 h66 L66 X66 e66 hQ66
        obtain ⟨⟨r, rfl, hr66⟩, NQ66, eq66⟩ := hQ66
        rw [eq66] at e66
        have N66 := Fr.app N28 NQ66
        show own_Ends p e below s room_1.cells room_1.slots (Q0 Z q1 q2 q3 h0 n0) T66 (mkF m 69 #[.val (.int q1), .val (.int q2), .val (.int q3), .val (.int v4), .val (.ref b7), .val (.int (0 : Int32))] [(.int r)])
        refine own_go (mkF m 71 #[.val (.int q1), .val (.int q2), .val (.int q3), .val (.int v4), .val (.ref b7), .val (.int (0 : Int32))] [(.int (0 : Int32)), (.int r)]) (fun t k => XS.iload X66.here hx rfl (hb hby at_69) rfl k) ?_
        by_cases c71 : r.toInt = 0
        · skip
          refine own_go (mkF m 74 #[.val (.int q1), .val (.int q2), .val (.int q3), .val (.int v4), .val (.ref b7), .val (.int (0 : Int32))] []) (fun t k => XS.icmpNo X66.here hx rfl (hb hby at_71) rfl (own_icF (cd := .ne) (fun q => q c71)) k) ?_
          refine own_go (mkF m 75 #[.val (.int q1), .val (.int q2), .val (.int q3), .val (.int v4), .val (.ref b7), .val (.int (0 : Int32))] [(.int (1 : Int32))]) (fun t k => XS.iconst X66.here hx rfl (hb hby at_74) k) ?_
          refine own_go (mkF m 79 #[.val (.int q1), .val (.int q2), .val (.int q3), .val (.int v4), .val (.ref b7), .val (.int (0 : Int32))] [(.int (1 : Int32))]) (fun t k => XS.goto X66.here hx rfl (pc0 := 75) (pc' := 79) rfl (hb hby at_75) (by decide) (by decide) k) ?_
          refine own_retI X66 hx hlk hret (by simp) rfl (hb hby at_79) (by decide) (by decide) ?_
          rw [e66]
          exact ⟨rfl, N66⟩
        · skip
          refine own_go (mkF m 78 #[.val (.int q1), .val (.int q2), .val (.int q3), .val (.int v4), .val (.ref b7), .val (.int (0 : Int32))] []) (fun t k => XS.icmpYes X66.here hx rfl (pc0 := 71) (pc' := 78) rfl (hb hby at_71) rfl (own_icT (cd := .ne) c71) (by decide) (by decide) k) ?_
          refine own_go (mkF m 79 #[.val (.int q1), .val (.int q2), .val (.int q3), .val (.int v4), .val (.ref b7), .val (.int (0 : Int32))] [(.int (0 : Int32))]) (fun t k => XS.iconst X66.here hx rfl (hb hby at_78) k) ?_
          refine own_retI X66 hx hlk hret (by simp) rfl (hb hby at_79) (by decide) (by decide) ?_
          rw [e66]
          exfalso
          omega
      · skip
        refine own_go (mkF m 50 #[.val (.int q1), .val (.int q2), .val (.int q3), .val (.int v4), .val (.ref b7), .unset] []) (fun t k => XS.icmpNo X28.here hx rfl (hb hby at_47) rfl (own_icF (cd := .lt) c47) k) ?_
        refine own_go (mkF m 51 #[.val (.int q1), .val (.int q2), .val (.int q3), .val (.int v4), .val (.ref b7), .unset] [(.int v4)]) (fun t k => XS.iloadN X28.here hx rfl (hb hby at_50) rfl k) ?_
        refine own_go (mkF m 54 #[.val (.int q1), .val (.int q2), .val (.int q3), .val (.int v4), .val (.ref b7), .unset] [(.int (256 : Int32)), (.int v4)]) (fun t k => XS.sipush X28.here hx rfl (hb hby at_51) k) ?_
        by_cases c54 : 256 < v4.toInt
        · skip
          refine own_go (mkF m 61 #[.val (.int q1), .val (.int q2), .val (.int q3), .val (.int v4), .val (.ref b7), .unset] []) (fun t k => XS.icmpYes X28.here hx rfl (pc0 := 54) (pc' := 61) rfl (hb hby at_54) rfl (own_icT (cd := .gt) c54) (by decide) (by decide) k) ?_
          refine own_go (mkF m 62 #[.val (.int q1), .val (.int q2), .val (.int q3), .val (.int v4), .val (.ref b7), .unset] [(.int (0 : Int32))]) (fun t k => XS.iconst X28.here hx rfl (hb hby at_61) k) ?_
          refine own_go (mkF m 64 #[.val (.int q1), .val (.int q2), .val (.int q3), .val (.int v4), .val (.ref b7), .val (.int (0 : Int32))] []) (fun t k => XS.istore X28.here hx rfl (hb hby at_62) rfl (l' := #[.val (.int q1), .val (.int q2), .val (.int q3), .val (.int v4), .val (.ref b7), .val (.int (0 : Int32))]) rfl k) ?_
          refine own_go (mkF m 66 #[.val (.int q1), .val (.int q2), .val (.int q3), .val (.int v4), .val (.ref b7), .val (.int (0 : Int32))] [(.ref b7)]) (fun t k => XS.aload X28.here hx rfl (hb hby at_64) rfl rfl k) ?_
          refine own_callS X28 hx hZ (y := (⟨"com/example/tallygate/tallygate/core/Pools", "isValidId", "([B)Z"⟩ : MethodName)) hown (hw _ (List.mem_of_getElem? (i := 1) rfl)) (hw _ (List.mem_of_getElem? (i := 2) rfl)) (hw _ (List.mem_of_getElem? (i := 3) rfl)) (hw _ (List.mem_of_getElem? (i := 4) rfl)) (by decide) e28 (rm1 l Z a0 hw [] b7 (v4.toInt.toNat) F28 v4 h28 n0 Z0_28 A28 (by omega)) 0 (by decide) (by decide) (by decide) (by decide) (g := (mkF m 66 #[.val (.int q1), .val (.int q2), .val (.int q3), .val (.int v4), .val (.ref b7), .val (.int (0 : Int32))] [(.ref b7)])) rfl (by rw [hml]; rfl) [(.ref b7)] [] (lenOf pd0_0 rfl) rfl rfl (by show 2 * 0 + _ ≤ _; exact Nat.le_of_eq rfl) (hb hby at_66) ?_
          intro rv66 T66 h66 L66 X66 e66 hQ66
          obtain ⟨⟨r, rfl, hr66⟩, NQ66, eq66⟩ := hQ66
          rw [eq66] at e66
          have N66 := Fr.app N28 NQ66
          show own_Ends p e below s room_1.cells room_1.slots (Q0 Z q1 q2 q3 h0 n0) T66 (mkF m 69 #[.val (.int q1), .val (.int q2), .val (.int q3), .val (.int v4), .val (.ref b7), .val (.int (0 : Int32))] [(.int r)])
          refine own_go (mkF m 71 #[.val (.int q1), .val (.int q2), .val (.int q3), .val (.int v4), .val (.ref b7), .val (.int (0 : Int32))] [(.int (0 : Int32)), (.int r)]) (fun t k => XS.iload X66.here hx rfl (hb hby at_69) rfl k) ?_
          by_cases c71 : r.toInt = 0
          · skip
            refine own_go (mkF m 74 #[.val (.int q1), .val (.int q2), .val (.int q3), .val (.int v4), .val (.ref b7), .val (.int (0 : Int32))] []) (fun t k => XS.icmpNo X66.here hx rfl (hb hby at_71) rfl (own_icF (cd := .ne) (fun q => q c71)) k) ?_
            refine own_go (mkF m 75 #[.val (.int q1), .val (.int q2), .val (.int q3), .val (.int v4), .val (.ref b7), .val (.int (0 : Int32))] [(.int (1 : Int32))]) (fun t k => XS.iconst X66.here hx rfl (hb hby at_74) k) ?_
            refine own_go (mkF m 79 #[.val (.int q1), .val (.int q2), .val (.int q3), .val (.int v4), .val (.ref b7), .val (.int (0 : Int32))] [(.int (1 : Int32))]) (fun t k => XS.goto X66.here hx rfl (pc0 := 75) (pc' := 79) rfl (hb hby at_75) (by decide) (by decide) k) ?_
            refine own_retI X66 hx hlk hret (by simp) rfl (hb hby at_79) (by decide) (by decide) ?_
            rw [e66]
            exact ⟨rfl, N66⟩
          · skip
            refine own_go (mkF m 78 #[.val (.int q1), .val (.int q2), .val (.int q3), .val (.int v4), .val (.ref b7), .val (.int (0 : Int32))] []) (fun t k => XS.icmpYes X66.here hx rfl (pc0 := 71) (pc' := 78) rfl (hb hby at_71) rfl (own_icT (cd := .ne) c71) (by decide) (by decide) k) ?_
            refine own_go (mkF m 79 #[.val (.int q1), .val (.int q2), .val (.int q3), .val (.int v4), .val (.ref b7), .val (.int (0 : Int32))] [(.int (0 : Int32))]) (fun t k => XS.iconst X66.here hx rfl (hb hby at_78) k) ?_
            refine own_retI X66 hx hlk hret (by simp) rfl (hb hby at_79) (by decide) (by decide) ?_
            rw [e66]
            exfalso
            omega
        · skip
          refine own_go (mkF m 57 #[.val (.int q1), .val (.int q2), .val (.int q3), .val (.int v4), .val (.ref b7), .unset] []) (fun t k => XS.icmpNo X28.here hx rfl (hb hby at_54) rfl (own_icF (cd := .gt) c54) k) ?_
          refine own_go (mkF m 58 #[.val (.int q1), .val (.int q2), .val (.int q3), .val (.int v4), .val (.ref b7), .unset] [(.int (1 : Int32))]) (fun t k => XS.iconst X28.here hx rfl (hb hby at_57) k) ?_
          refine own_go (mkF m 62 #[.val (.int q1), .val (.int q2), .val (.int q3), .val (.int v4), .val (.ref b7), .unset] [(.int (1 : Int32))]) (fun t k => XS.goto X28.here hx rfl (pc0 := 58) (pc' := 62) rfl (hb hby at_58) (by decide) (by decide) k) ?_
          refine own_go (mkF m 64 #[.val (.int q1), .val (.int q2), .val (.int q3), .val (.int v4), .val (.ref b7), .val (.int (1 : Int32))] []) (fun t k => XS.istore X28.here hx rfl (hb hby at_62) rfl (l' := #[.val (.int q1), .val (.int q2), .val (.int q3), .val (.int v4), .val (.ref b7), .val (.int (1 : Int32))]) rfl k) ?_
          refine own_go (mkF m 66 #[.val (.int q1), .val (.int q2), .val (.int q3), .val (.int v4), .val (.ref b7), .val (.int (1 : Int32))] [(.ref b7)]) (fun t k => XS.aload X28.here hx rfl (hb hby at_64) rfl rfl k) ?_
          refine own_callS X28 hx hZ (y := (⟨"com/example/tallygate/tallygate/core/Pools", "isValidId", "([B)Z"⟩ : MethodName)) hown (hw _ (List.mem_of_getElem? (i := 1) rfl)) (hw _ (List.mem_of_getElem? (i := 2) rfl)) (hw _ (List.mem_of_getElem? (i := 3) rfl)) (hw _ (List.mem_of_getElem? (i := 4) rfl)) (by decide) e28 (rm1 l Z a0 hw [] b7 (v4.toInt.toNat) F28 v4 h28 n0 Z0_28 A28 (by omega)) 0 (by decide) (by decide) (by decide) (by decide) (g := (mkF m 66 #[.val (.int q1), .val (.int q2), .val (.int q3), .val (.int v4), .val (.ref b7), .val (.int (1 : Int32))] [(.ref b7)])) rfl (by rw [hml]; rfl) [(.ref b7)] [] (lenOf pd0_0 rfl) rfl rfl (by show 2 * 0 + _ ≤ _; exact Nat.le_of_eq rfl) (hb hby at_66) ?_
          intro rv66 T66 h66 L66 X66 e66 hQ66
          obtain ⟨⟨r, rfl, hr66⟩, NQ66, eq66⟩ := hQ66
          rw [eq66] at e66
          have N66 := Fr.app N28 NQ66
          show own_Ends p e below s room_1.cells room_1.slots (Q0 Z q1 q2 q3 h0 n0) T66 (mkF m 69 #[.val (.int q1), .val (.int q2), .val (.int q3), .val (.int v4), .val (.ref b7), .val (.int (1 : Int32))] [(.int r)])
          refine own_go (mkF m 71 #[.val (.int q1), .val (.int q2), .val (.int q3), .val (.int v4), .val (.ref b7), .val (.int (1 : Int32))] [(.int (1 : Int32)), (.int r)]) (fun t k => XS.iload X66.here hx rfl (hb hby at_69) rfl k) ?_
          by_cases c71 : r.toInt = 1
          · skip
            refine own_go (mkF m 74 #[.val (.int q1), .val (.int q2), .val (.int q3), .val (.int v4), .val (.ref b7), .val (.int (1 : Int32))] []) (fun t k => XS.icmpNo X66.here hx rfl (hb hby at_71) rfl (own_icF (cd := .ne) (fun q => q c71)) k) ?_
            refine own_go (mkF m 75 #[.val (.int q1), .val (.int q2), .val (.int q3), .val (.int v4), .val (.ref b7), .val (.int (1 : Int32))] [(.int (1 : Int32))]) (fun t k => XS.iconst X66.here hx rfl (hb hby at_74) k) ?_
            refine own_go (mkF m 79 #[.val (.int q1), .val (.int q2), .val (.int q3), .val (.int v4), .val (.ref b7), .val (.int (1 : Int32))] [(.int (1 : Int32))]) (fun t k => XS.goto X66.here hx rfl (pc0 := 75) (pc' := 79) rfl (hb hby at_75) (by decide) (by decide) k) ?_
            refine own_retI X66 hx hlk hret (by simp) rfl (hb hby at_79) (by decide) (by decide) ?_
            rw [e66]
            exact ⟨rfl, N66⟩
          · skip
            refine own_go (mkF m 78 #[.val (.int q1), .val (.int q2), .val (.int q3), .val (.int v4), .val (.ref b7), .val (.int (1 : Int32))] []) (fun t k => XS.icmpYes X66.here hx rfl (pc0 := 71) (pc' := 78) rfl (hb hby at_71) rfl (own_icT (cd := .ne) c71) (by decide) (by decide) k) ?_
            refine own_go (mkF m 79 #[.val (.int q1), .val (.int q2), .val (.int q3), .val (.int v4), .val (.ref b7), .val (.int (1 : Int32))] [(.int (0 : Int32))]) (fun t k => XS.iconst X66.here hx rfl (hb hby at_78) k) ?_
            refine own_retI X66 hx hlk hret (by simp) rfl (hb hby at_79) (by decide) (by decide) ?_
            rw [e66]
            exfalso
            omega
    · skip
      refine own_go (mkF m 34 #[.val (.int q1), .val (.int q2), .val (.int q3), .val (.int v4), .val (.ref b7), .unset] []) (fun t k => XS.icmpNo X28.here hx rfl (hb hby at_31) rfl (own_icF (cd := .le) c31) k) ?_
      refine own_go (mkF m 36 #[.val (.int q1), .val (.int q2), .val (.int q3), .val (.int v4), .val (.ref b7), .unset] [(.ref b7)]) (fun t k => XS.aload X28.here hx rfl (hb hby at_34) rfl rfl k) ?_
      refine own_go (mkF m 37 #[.val (.int q1), .val (.int q2), .val (.int q3), .val (.int v4), .val (.ref b7), .unset] [(.int v4), (.ref b7)]) (fun t k => XS.iloadN X28.here hx rfl (hb hby at_36) rfl k) ?_
      refine own_go (mkF m 38 #[.val (.int q1), .val (.int q2), .val (.int q3), .val (.int v4), .val (.ref b7), .unset] [(.int (2 : Int32)), (.int v4), (.ref b7)]) (fun t k => XS.iconst X28.here hx rfl (hb hby at_37) k) ?_
      refine own_go (mkF m 39 #[.val (.int q1), .val (.int q2), .val (.int q3), .val (.int v4), .val (.ref b7), .unset] [(.int (v4 / (2 : Int32))), (.ref b7)]) (fun t k => XS.idiv X28.here hx rfl (hb hby at_38) rfl (by decide) k) ?_
      generalize hv38 : (v4 / (2 : Int32)) = v38
      have f38 : (0 ≤ v4.toInt → v38.toInt = v4.toInt / 2) ∧ (v4.toInt < 0 → v38.toInt = -((-v4.toInt) / 2)) := by rw [← hv38]; exact c_idiv v4 (2 : Int32) 2 (by decide) (by decide)
      have r38 := rng32 v38
      refine own_go (mkF m 40 #[.val (.int q1), .val (.int q2), .val (.int q3), .val (.int v4), .val (.ref b7), .unset] [(.int q2), (.int v38), (.ref b7)]) (fun t k => XS.iloadN X28.here hx rfl (hb hby at_39) rfl k) ?_
      refine own_go (mkF m 42 #[.val (.int q1), .val (.int q2), .val (.int q3), .val (.int v4), .val (.ref b7), .unset] [(.int (8 : Int32)), (.int q2), (.int v38), (.ref b7)]) (fun t k => XS.bipush X28.here hx rfl (hb hby at_40) k) ?_
      refine own_go (mkF m 43 #[.val (.int q1), .val (.int q2), .val (.int q3), .val (.int v4), .val (.ref b7), .unset] [(.int ((q2.toUInt32 >>> ((8 : Int32) &&& 31).toUInt32).toInt32)), (.int v38), (.ref b7)]) (fun t k => XS.iushr X28.here hx rfl (hb hby at_42) rfl k) ?_
      generalize hv42 : ((q2.toUInt32 >>> ((8 : Int32) &&& 31).toUInt32).toInt32) = v42
      have f42 : v42.toInt = (q2.toInt % 4294967296) / 256 := by rw [← hv42]; exact c_iushr q2 (8 : Int32) 8 (by decide) (by decide)
      have r42 := rng32 v42
      refine own_go (mkF m 44 #[.val (.int q1), .val (.int q2), .val (.int q3), .val (.int v4), .val (.ref b7), .unset] [(.int (v42.toInt8.toInt32)), (.int v38), (.ref b7)]) (fun t k => XS.i2b X28.here hx rfl (hb hby at_43) rfl k) ?_
      generalize hv43 : (v42.toInt8.toInt32) = v43
      have f43 : (v43.toInt - v42.toInt) % 256 = 0 ∧ -128 ≤ v43.toInt ∧ v43.toInt < 128 := by rw [← hv43]; exact c_i2b v42
      have r43 := rng32 v43
      refine own_bastore X28 hx hZ e28 A28 (j := v38) (x := (nar .byte v43)) (by omega) (by show (v38.toInt : Int) < _; omega) rfl (g := (mkF m 44 #[.val (.int q1), .val (.int q2), .val (.int q3), .val (.int v4), .val (.ref b7), .unset] [(.int v43), (.int v38), (.ref b7)])) rfl rfl (hb hby at_44) ?_
      intro T44 h44 F44 X44 e44 W44 hF44 A44
      have N44 := Fr.snoc X44 N28 gb7
      have Z0_44 : n0 ≤ h44.size := by rw [W44.size]; exact Z0_28
      show own_Ends p e below s room_1.cells room_1.slots (Q0 Z q1 q2 q3 h0 n0) T44 (mkF m 45 #[.val (.int q1), .val (.int q2), .val (.int q3), .val (.int v4), .val (.ref b7), .unset] [])
      refine own_go (mkF m 46 #[.val (.int q1), .val (.int q2), .val (.int q3), .val (.int v4), .val (.ref b7), .unset] [(.int v4)]) (fun t k => XS.iloadN X44.here hx rfl (hb hby at_45) rfl k) ?_
      refine own_go (mkF m 47 #[.val (.int q1), .val (.int q2), .val (.int q3), .val (.int v4), .val (.ref b7), .unset] [(.int (1 : Int32)), (.int v4)]) (fun t k => XS.iconst X44.here hx rfl (hb hby at_46) k) ?_
      by_cases c47 : v4.toInt < 1
      · skip
        refine own_go (mkF m 61 #[.val (.int q1), .val (.int q2), .val (.int q3), .val (.int v4), .val (.ref b7), .unset] []) (fun t k => XS.icmpYes X44.here hx rfl (pc0 := 47) (pc' := 61) rfl (hb hby at_47) rfl (own_icT (cd := .lt) c47) (by decide) (by decide) k) ?_
        refine own_go (mkF m 62 #[.val (.int q1), .val (.int q2), .val (.int q3), .val (.int v4), .val (.ref b7), .unset] [(.int (0 : Int32))]) (fun t k => XS.iconst X44.here hx rfl (hb hby at_61) k) ?_
        refine own_go (mkF m 64 #[.val (.int q1), .val (.int q2), .val (.int q3), .val (.int v4), .val (.ref b7), .val (.int (0 : Int32))] []) (fun t k => XS.istore X44.here hx rfl (hb hby at_62) rfl (l' := #[.val (.int q1), .val (.int q2), .val (.int q3), .val (.int v4), .val (.ref b7), .val (.int (0 : Int32))]) rfl k) ?_
        refine own_go (mkF m 66 #[.val (.int q1), .val (.int q2), .val (.int q3), .val (.int v4), .val (.ref b7), .val (.int (0 : Int32))] [(.ref b7)]) (fun t k => XS.aload X44.here hx rfl (hb hby at_64) rfl rfl k) ?_
        refine own_callS X44 hx hZ (y := (⟨"com/example/tallygate/tallygate/core/Pools", "isValidId", "([B)Z"⟩ : MethodName)) hown (hw _ (List.mem_of_getElem? (i := 1) rfl)) (hw _ (List.mem_of_getElem? (i := 2) rfl)) (hw _ (List.mem_of_getElem? (i := 3) rfl)) (hw _ (List.mem_of_getElem? (i := 4) rfl)) (by decide) e44 (rm1 l Z a0 hw [] b7 (v4.toInt.toNat) F44 v4 h44 n0 Z0_44 A44 (by omega)) 0 (by decide) (by decide) (by decide) (by decide) (g := (mkF m 66 #[.val (.int q1), .val (.int q2), .val (.int q3), .val (.int v4), .val (.ref b7), .val (.int (0 : Int32))] [(.ref b7)])) rfl (by rw [hml]; rfl) [(.ref b7)] [] (lenOf pd0_0 rfl) rfl rfl (by show 2 * 0 + _ ≤ _; exact Nat.le_of_eq rfl) (hb hby at_66) ?_
        intro rv66 T66 h66 L66 X66 e66 hQ66
        obtain ⟨⟨r, rfl, hr66⟩, NQ66, eq66⟩ := hQ66
        rw [eq66] at e66
        have N66 := Fr.app N44 NQ66
        show own_Ends p e below s room_1.cells room_1.slots (Q0 Z q1 q2 q3 h0 n0) T66 (mkF m 69 #[.val (.int q1), .val (.int q2), .val (.int q3), .val (.int v4), .val (.ref b7), .val (.int (0 : Int32))] [(.int r)])
        refine own_go (mkF m 71 #[.val (.int q1), .val (.int q2), .val (.int q3), .val (.int v4), .val (.ref b7), .val (.int (0 : Int32))] [(.int (0 : Int32)), (.int r)]) (fun t k => XS.iload X66.here hx rfl (hb hby at_69) rfl k) ?_
        by_cases c71 : r.toInt = 0
        · skip
          refine own_go (mkF m 74 #[.val (.int q1), .val (.int q2), .val (.int q3), .val (.int v4), .val (.ref b7), .val (.int (0 : Int32))] []) (fun t k => XS.icmpNo X66.here hx rfl (hb hby at_71) rfl (own_icF (cd := .ne) (fun q => q c71)) k) ?_
          refine own_go (mkF m 75 #[.val (.int q1), .val (.int q2), .val (.int q3), .val (.int v4), .val (.ref b7), .val (.int (0 : Int32))] [(.int (1 : Int32))]) (fun t k => XS.iconst X66.here hx rfl (hb hby at_74) k) ?_
          refine own_go (mkF m 79 #[.val (.int q1), .val (.int q2), .val (.int q3), .val (.int v4), .val (.ref b7), .val (.int (0 : Int32))] [(.int (1 : Int32))]) (fun t k => XS.goto X66.here hx rfl (pc0 := 75) (pc' := 79) rfl (hb hby at_75) (by decide) (by decide) k) ?_
          refine own_retI X66 hx hlk hret (by simp) rfl (hb hby at_79) (by decide) (by decide) ?_
          rw [e66]
          exact ⟨rfl, N66⟩
        · skip
          refine own_go (mkF m 78 #[.val (.int q1), .val (.int q2), .val (.int q3), .val (.int v4), .val (.ref b7), .val (.int (0 : Int32))] []) (fun t k => XS.icmpYes X66.here hx rfl (pc0 := 71) (pc' := 78) rfl (hb hby at_71) rfl (own_icT (cd := .ne) c71) (by decide) (by decide) k) ?_
          refine own_go (mkF m 79 #[.val (.int q1), .val (.int q2), .val (.int q3), .val (.int v4), .val (.ref b7), .val (.int (0 : Int32))] [(.int (0 : Int32))]) (fun t k => XS.iconst X66.here hx rfl (hb hby at_78) k) ?_
          refine own_retI X66 hx hlk hret (by simp) rfl (hb hby at_79) (by decide) (by decide) ?_
          rw [e66]
          exfalso
          omega
      · skip
        refine own_go (mkF m 50 #[.val (.int q1), .val (.int q2), .val (.int q3), .val (.int v4), .val (.ref b7), .unset] []) (fun t k => XS.icmpNo X44.here hx rfl (hb hby at_47) rfl (own_icF (cd := .lt) c47) k) ?_
        refine own_go (mkF m 51 #[.val (.int q1), .val (.int q2), .val (.int q3), .val (.int v4), .val (.ref b7), .unset] [(.int v4)]) (fun t k => XS.iloadN X44.here hx rfl (hb hby at_50) rfl k) ?_
        refine own_go (mkF m 54 #[.val (.int q1), .val (.int q2), .val (.int q3), .val (.int v4), .val (.ref b7), .unset] [(.int (256 : Int32)), (.int v4)]) (fun t k => XS.sipush X44.here hx rfl (hb hby at_51) k) ?_
        by_cases c54 : 256 < v4.toInt
        · skip
          refine own_go (mkF m 61 #[.val (.int q1), .val (.int q2), .val (.int q3), .val (.int v4), .val (.ref b7), .unset] []) (fun t k => XS.icmpYes X44.here hx rfl (pc0 := 54) (pc' := 61) rfl (hb hby at_54) rfl (own_icT (cd := .gt) c54) (by decide) (by decide) k) ?_
          refine own_go (mkF m 62 #[.val (.int q1), .val (.int q2), .val (.int q3), .val (.int v4), .val (.ref b7), .unset] [(.int (0 : Int32))]) (fun t k => XS.iconst X44.here hx rfl (hb hby at_61) k) ?_
          refine own_go (mkF m 64 #[.val (.int q1), .val (.int q2), .val (.int q3), .val (.int v4), .val (.ref b7), .val (.int (0 : Int32))] []) (fun t k => XS.istore X44.here hx rfl (hb hby at_62) rfl (l' := #[.val (.int q1), .val (.int q2), .val (.int q3), .val (.int v4), .val (.ref b7), .val (.int (0 : Int32))]) rfl k) ?_
          refine own_go (mkF m 66 #[.val (.int q1), .val (.int q2), .val (.int q3), .val (.int v4), .val (.ref b7), .val (.int (0 : Int32))] [(.ref b7)]) (fun t k => XS.aload X44.here hx rfl (hb hby at_64) rfl rfl k) ?_
          refine own_callS X44 hx hZ (y := (⟨"com/example/tallygate/tallygate/core/Pools", "isValidId", "([B)Z"⟩ : MethodName)) hown (hw _ (List.mem_of_getElem? (i := 1) rfl)) (hw _ (List.mem_of_getElem? (i := 2) rfl)) (hw _ (List.mem_of_getElem? (i := 3) rfl)) (hw _ (List.mem_of_getElem? (i := 4) rfl)) (by decide) e44 (rm1 l Z a0 hw [] b7 (v4.toInt.toNat) F44 v4 h44 n0 Z0_44 A44 (by omega)) 0 (by decide) (by decide) (by decide) (by decide) (g := (mkF m 66 #[.val (.int q1), .val (.int q2), .val (.int q3), .val (.int v4), .val (.ref b7), .val (.int (0 : Int32))] [(.ref b7)])) rfl (by rw [hml]; rfl) [(.ref b7)] [] (lenOf pd0_0 rfl) rfl rfl (by show 2 * 0 + _ ≤ _; exact Nat.le_of_eq rfl) (hb hby at_66) ?_
          intro rv66 T66 h66 L66 X66 e66 hQ66
          obtain ⟨⟨r, rfl, hr66⟩, NQ66, eq66⟩ := hQ66
          rw [eq66] at e66
          have N66 := Fr.app N44 NQ66
          show own_Ends p e below s room_1.cells room_1.slots (Q0 Z q1 q2 q3 h0 n0) T66 (mkF m 69 #[.val (.int q1), .val (.int q2), .val (.int q3), .val (.int v4), .val (.ref b7), .val (.int (0 : Int32))] [(.int r)])
          refine own_go (mkF m 71 #[.val (.int q1), .val (.int q2), .val (.int q3), .val (.int v4), .val (.ref b7), .val (.int (0 : Int32))] [(.int (0 : Int32)), (.int r)]) (fun t k => XS.iload X66.here hx rfl (hb hby at_69) rfl k) ?_
          by_cases c71 : r.toInt = 0
          · skip
            refine own_go (mkF m 74 #[.val (.int q1), .val (.int q2), .val (.int q3), .val (.int v4), .val (.ref b7), .val (.int (0 : Int32))] []) (fun t k => XS.icmpNo X66.here hx rfl (hb hby at_71) rfl (own_icF (cd := .ne) (fun q => q c71)) k) ?_
            refine own_go (mkF m 75 #[.val (.int q1), .val (.int q2), .val (.int q3), .val (.int v4), .val (.ref b7), .val (.int (0 : Int32))] [(.int (1 : Int32))]) (fun t k => XS.iconst X66.here hx rfl (hb hby at_74) k) ?_
            refine own_go (mkF m 79 #[.val (.int q1), .val (.int q2), .val (.int q3), .val (.int v4), .val (.ref b7), .val (.int (0 : Int32))] [(.int (1 : Int32))]) (fun t k => XS.goto X66.here hx rfl (pc0 := 75) (pc' := 79) rfl (hb hby at_75) (by decide) (by decide) k) ?_
            refine own_retI X66 hx hlk hret (by simp) rfl (hb hby at_79) (by decide) (by decide) ?_
            rw [e66]
            exact ⟨rfl, N66⟩
          · skip
            refine own_go (mkF m 78 #[.val (.int q1), .val (.int q2), .val (.int q3), .val (.int v4), .val (.ref b7), .val (.int (0 : Int32))] []) (fun t k => XS.icmpYes X66.here hx rfl (pc0 := 71) (pc' := 78) rfl (hb hby at_71) rfl (own_icT (cd := .ne) c71) (by decide) (by decide) k) ?_
            refine own_go (mkF m 79 #[.val (.int q1), .val (.int q2), .val (.int q3), .val (.int v4), .val (.ref b7), .val (.int (0 : Int32))] [(.int (0 : Int32))]) (fun t k => XS.iconst X66.here hx rfl (hb hby at_78) k) ?_
            refine own_retI X66 hx hlk hret (by simp) rfl (hb hby at_79) (by decide) (by decide) ?_
            rw [e66]
            exfalso
            omega
        · skip
          refine own_go (mkF m 57 #[.val (.int q1), .val (.int q2), .val (.int q3), .val (.int v4), .val (.ref b7), .unset] []) (fun t k => XS.icmpNo X44.here hx rfl (hb hby at_54) rfl (own_icF (cd := .gt) c54) k) ?_
          refine own_go (mkF m 58 #[.val (.int q1), .val (.int q2), .val (.int q3), .val (.int v4), .val (.ref b7), .unset] [(.int (1 : Int32))]) (fun t k => XS.iconst X44.here hx rfl (hb hby at_57) k) ?_
          refine own_go (mkF m 62 #[.val (.int q1), .val (.int q2), .val (.int q3), .val (.int v4), .val (.ref b7), .unset] [(.int (1 : Int32))]) (fun t k => XS.goto X44.here hx rfl (pc0 := 58) (pc' := 62) rfl (hb hby at_58) (by decide) (by decide) k) ?_
          refine own_go (mkF m 64 #[.val (.int q1), .val (.int q2), .val (.int q3), .val (.int v4), .val (.ref b7), .val (.int (1 : Int32))] []) (fun t k => XS.istore X44.here hx rfl (hb hby at_62) rfl (l' := #[.val (.int q1), .val (.int q2), .val (.int q3), .val (.int v4), .val (.ref b7), .val (.int (1 : Int32))]) rfl k) ?_
          refine own_go (mkF m 66 #[.val (.int q1), .val (.int q2), .val (.int q3), .val (.int v4), .val (.ref b7), .val (.int (1 : Int32))] [(.ref b7)]) (fun t k => XS.aload X44.here hx rfl (hb hby at_64) rfl rfl k) ?_
          refine own_callS X44 hx hZ (y := (⟨"com/example/tallygate/tallygate/core/Pools", "isValidId", "([B)Z"⟩ : MethodName)) hown (hw _ (List.mem_of_getElem? (i := 1) rfl)) (hw _ (List.mem_of_getElem? (i := 2) rfl)) (hw _ (List.mem_of_getElem? (i := 3) rfl)) (hw _ (List.mem_of_getElem? (i := 4) rfl)) (by decide) e44 (rm1 l Z a0 hw [] b7 (v4.toInt.toNat) F44 v4 h44 n0 Z0_44 A44 (by omega)) 0 (by decide) (by decide) (by decide) (by decide) (g := (mkF m 66 #[.val (.int q1), .val (.int q2), .val (.int q3), .val (.int v4), .val (.ref b7), .val (.int (1 : Int32))] [(.ref b7)])) rfl (by rw [hml]; rfl) [(.ref b7)] [] (lenOf pd0_0 rfl) rfl rfl (by show 2 * 0 + _ ≤ _; exact Nat.le_of_eq rfl) (hb hby at_66) ?_
          intro rv66 T66 h66 L66 X66 e66 hQ66
          obtain ⟨⟨r, rfl, hr66⟩, NQ66, eq66⟩ := hQ66
          rw [eq66] at e66
          have N66 := Fr.app N44 NQ66
          show own_Ends p e below s room_1.cells room_1.slots (Q0 Z q1 q2 q3 h0 n0) T66 (mkF m 69 #[.val (.int q1), .val (.int q2), .val (.int q3), .val (.int v4), .val (.ref b7), .val (.int (1 : Int32))] [(.int r)])
          refine own_go (mkF m 71 #[.val (.int q1), .val (.int q2), .val (.int q3), .val (.int v4), .val (.ref b7), .val (.int (1 : Int32))] [(.int (1 : Int32)), (.int r)]) (fun t k => XS.iload X66.here hx rfl (hb hby at_69) rfl k) ?_
          by_cases c71 : r.toInt = 1
          · skip
            refine own_go (mkF m 74 #[.val (.int q1), .val (.int q2), .val (.int q3), .val (.int v4), .val (.ref b7), .val (.int (1 : Int32))] []) (fun t k => XS.icmpNo X66.here hx rfl (hb hby at_71) rfl (own_icF (cd := .ne) (fun q => q c71)) k) ?_
            refine own_go (mkF m 75 #[.val (.int q1), .val (.int q2), .val (.int q3), .val (.int v4), .val (.ref b7), .val (.int (1 : Int32))] [(.int (1 : Int32))]) (fun t k => XS.iconst X66.here hx rfl (hb hby at_74) k) ?_
            refine own_go (mkF m 79 #[.val (.int q1), .val (.int q2), .val (.int q3), .val (.int v4), .val (.ref b7), .val (.int (1 : Int32))] [(.int (1 : Int32))]) (fun t k => XS.goto X66.here hx rfl (pc0 := 75) (pc' := 79) rfl (hb hby at_75) (by decide) (by decide) k) ?_
            refine own_retI X66 hx hlk hret (by simp) rfl (hb hby at_79) (by decide) (by decide) ?_
            rw [e66]
            exact ⟨rfl, N66⟩
          · skip
            refine own_go (mkF m 78 #[.val (.int q1), .val (.int q2), .val (.int q3), .val (.int v4), .val (.ref b7), .val (.int (1 : Int32))] []) (fun t k => XS.icmpYes X66.here hx rfl (pc0 := 71) (pc' := 78) rfl (hb hby at_71) rfl (own_icT (cd := .ne) c71) (by decide) (by decide) k) ?_
            refine own_go (mkF m 79 #[.val (.int q1), .val (.int q2), .val (.int q3), .val (.int v4), .val (.ref b7), .val (.int (1 : Int32))] [(.int (0 : Int32))]) (fun t k => XS.iconst X66.here hx rfl (hb hby at_78) k) ?_
            refine own_retI X66 hx hlk hret (by simp) rfl (hb hby at_79) (by decide) (by decide) ?_
            rw [e66]
            exfalso
            omega
set_option maxRecDepth 65536 in
set_option maxHeartbeats 40000000 in
theorem comes_1 {Post : Tables → Env → Array Value → State → Outcome → State → Prop} (hpost : ∀ tb e args s v u, (limb_1_1.after args s (.returned v) u = true ∧ limb_1_2.after args s (.returned v) u = true ∧ True) → FrameEnd s (.returned v) u (Jvm.fieldLocs frame_1_writes args s ++ Jvm.arrayLocs frame_1_arrays args s ++ Jvm.staticLocs frame_1_statics s) 16 1088 → Post tb e args s (.returned v) u) :
    ArmFor flags0 classFile x code maxLocals ret World_1 tables_1 room_1 Calls_1 rest_1 Pre_1 Post := by
  intro l hfl _ _ p e ha hc hk s m args below hf hA hF happ hP
  obtain ⟨hcalls, hrest, hpre⟩ := hP
  obtain ⟨-, -, -, hnamed, -, -, -, hat⟩ := (Spec.applies_iff hf).mp happ
  obtain ⟨hg, hn⟩ := and_e (Cond.before_iff.mp (show (Jvm.Cond.and given_1 narrow_1).before args s = true from hpre))
  obtain ⟨q0, u0⟩ := and_e hg
  obtain ⟨k0, u1⟩ := and_e u0
  obtain ⟨k1, u2⟩ := and_e u1
  obtain ⟨w0, w1, w2, rfl⟩ : ∃ w0 w1 w2 : Value, args = #[w0, w1, w2] := by
    have hs : args.size = 3 := by simpa [Cond.value, given_1] using q0
    obtain ⟨L⟩ := args
    match L, hs with
    | [w0, w1, w2], _ => exact ⟨w0, w1, w2, rfl⟩
  have hw := fun d (hd : d ∈ tables_1) => atoms_spec (ws := Jvm.Cond.code x code maxLocals ret :: tables_1) hat d (List.mem_cons_of_mem _ hd)
  obtain ⟨i0, g0⟩ := is_v k0
  obtain rfl : w0 = (.int i0) := Option.some.inj g0
  obtain ⟨i1, g1⟩ := is_v k1
  obtain rfl : w1 = (.int i1) := Option.some.inj g1
  obtain ⟨i2, g2⟩ := is_v u2
  obtain rfl : w2 = (.int i2) := Option.some.inj g2
  obtain ⟨n, o, h1, h2, h3, _, L, rfl, ⟨rfl, N⟩, hq⟩ := rm0 l s _ hw tables_1 i0 i1 i2 s.heap s.heap.size (Nat.le_refl _)  p e ha hc hk s m _ below hf ((Spec.applies_iff_loose hf).mp happ).1 ⟨rfl, State.Warmed39.refl s, rfl⟩ trivial
  refine ⟨n, _, h1, h2, h3, hpost _ _ _ _ _ _ ⟨Cond.after_iff.mpr rfl, Cond.after_iff.mpr (eq_i res_at (Term.int_eval (1)) rfl), trivial⟩ ⟨hq.1, hq.2.1, (hq.2.2.sift fun y hy => Or.inr (N y hy)).mono (by decide) (by decide)⟩⟩
theorem main_1_1 : Claimed_1_1 := comes_1 fun _ _ _ _ _ _ h hF => ⟨h.1, hF⟩
theorem main_1_2 : Claimed_1_2 := comes_1 fun _ _ _ _ _ _ h hF => ⟨h.2.1, hF⟩
end Jvm.Pilot.@@N@@
namespace Jvm.Pilot.@@N@@
open Jvm Jvm.ClassFile Sem Op Lib Jvm.Free Jvm.Stand Jvm.Pilot.@@N@@.Jvm.D
/-! MADE BY PROGRAM (witnessworld.py) out of the Statement's table words and the real class files: 10 classes; the members and pool entries that the words name. The judged class is class 1, her method 1. -/
namespace start1
open Jvm.ClassFile
def u (s : String) : CpInfo := .utf8 (stringToUtf16 s)
/-- a pool by its gaps: so many unusable entries, then the entry; so many at the end -/
def gap : Nat → List CpInfo → List CpInfo
  | 0, r => r
  | n + 1, r => .unusable :: gap n r
def poolList (es : List (Nat × CpInfo)) (last : Nat) : List CpInfo := es.foldr (fun e r => gap e.1 (e.2 :: r)) (gap last [])
def pool (es : List (Nat × CpInfo)) (last : Nat) : Array CpInfo := ⟨poolList es last⟩
def fileOf (pool : Array CpInfo) (this : Nat) (attrs : Array Attribute := #[]) (ms : Array MethodInfo := #[]) (fl : Nat := 33) (sup : Nat := 0) (ifs : Array Nat := #[]) (fds : Array FieldInfo := #[]) : ClassFile where
  minorVersion := 0
  majorVersion := 65
  constantPool := pool
  accessFlags := fl
  thisClass := this
  superClass := sup
  interfaces := ifs
  fields := fds
  methods := ms
  attributes := attrs
def plain (name : String) (sup : Option ClassId) : Class where
  name := name
  kind := .ordinary
  loader := none
  accessFlags := 33
  super := sup
  interfaces := #[]
  cf := none
  fields := #[]
  methods := #[]
  instanceTypes := #[]
  staticTypes := #[]
  resolved := #[]
  callSites := []
  init := .initialized
  statics := none
  mirror := none

def pool0 : Array CpInfo := pool [(5, u "<init>"), (0, u "()V"), (1, .class_ 10), (1, u "java/lang/Object")] 113

def k0m0 : Method := { name := "<init>", desc := "()V", sig := { parameters := [], returnType := none }, accessFlags := 1, code := none }
/-- java/lang/Object -/
def k0 : Class := { plain "java/lang/Object" none with
  accessFlags := 33
  interfaces := #[]
  cf := some (fileOf pool0 8 #[] #[{ accessFlags := 1, nameIndex := 5, descriptorIndex := 6, attributes := #[] }] 33 0 #[] #[])
  fields := #[]
  methods := #[k0m0]
  instanceTypes := #[]
  staticTypes := #[]
  resolved := Array.replicate 124 none
  statics := none }

def pool1 : Array CpInfo := pool [(2, .class_ 4), (1, u "java/lang/Object"), (0, u "<init>"), (0, u "()V"), (0, .methodref 8 9), (0, .class_ 10), (0, .nameAndType 11 12), (0, u "com/example/tallygate/tallygate/core/Pools"), (0, u "isValidId"), (0, u "([B)Z"), (0, .class_ 14), (0, u "com/example/tallygate/tallygate/core/PoolsIsValidIdPinLaw"), (2, u "law"), (0, u "(III)Z")] 5

def k1m0 : Method := { name := "<init>", desc := "()V", sig := { parameters := [], returnType := none }, accessFlags := 2, code := none }
def k1c1 : Code := { maxStack := 4, maxLocals := 6, code := code, exceptionTable := #[], attributes := #[] }
def k1m1 : Method := { name := "law", desc := "(III)Z", sig := { parameters := [.int, .int, .int], returnType := some .boolean }, accessFlags := 9, code := some k1c1 }
/-- com/example/tallygate/tallygate/core/PoolsIsValidIdPinLaw -/
def k1 : Class := { plain "com/example/tallygate/tallygate/core/PoolsIsValidIdPinLaw" (some 0) with
  accessFlags := 49
  interfaces := #[]
  cf := some (fileOf pool1 13 #[] #[{ accessFlags := 2, nameIndex := 5, descriptorIndex := 6, attributes := #[] }, { accessFlags := 9, nameIndex := 17, descriptorIndex := 18, attributes := #[] }] 49 2 #[] #[])
  fields := #[]
  methods := #[k1m0, k1m1]
  instanceTypes := #[]
  staticTypes := #[]
  resolved := Array.replicate 24 none
  statics := none }

def pool2 : Array CpInfo := pool [(2, .class_ 4), (1, u "java/lang/Object"), (3, .class_ 10), (1, u "com/example/tallygate/tallygate/core/Kind"), (0, u "tag"), (0, u "B"), (2, u "noun"), (0, u "Ljava/lang/String;"), (2, u "journal"), (0, u "Lcom/example/tallygate/tallygate/core/Journal;"), (2, u "stateBytes"), (0, u "J"), (40, .class_ 67), (1, u "com/example/tallygate/tallygate/core/Kind$Operation"), (6, u "written")] 125

/-- com/example/tallygate/tallygate/core/Kind -/
def k2 : Class := { plain "com/example/tallygate/tallygate/core/Kind" (some 0) with
  accessFlags := 1056
  interfaces := #[]
  cf := some (fileOf pool2 8 #[.nestMembers #[65]] #[] 1056 2 #[] #[{ accessFlags := 18, nameIndex := 11, descriptorIndex := 12, attributes := #[] }, { accessFlags := 18, nameIndex := 15, descriptorIndex := 16, attributes := #[] }, { accessFlags := 2, nameIndex := 19, descriptorIndex := 20, attributes := #[] }, { accessFlags := 2, nameIndex := 74, descriptorIndex := 24, attributes := #[] }, { accessFlags := 66, nameIndex := 23, descriptorIndex := 24, attributes := #[] }])
  fields := #[{ name := "tag", type := .byte, accessFlags := 18, slot := 0, constantValue := 0 }, { name := "noun", type := (.object "java/lang/String"), accessFlags := 18, slot := 1, constantValue := 0 }, { name := "journal", type := (.object "com/example/tallygate/tallygate/core/Journal"), accessFlags := 2, slot := 2, constantValue := 0 }, { name := "written", type := .long, accessFlags := 2, slot := 3, constantValue := 0 }, { name := "stateBytes", type := .long, accessFlags := 66, slot := 4, constantValue := 0 }]
  methods := #[]
  instanceTypes := #[.byte, (.object "java/lang/String"), (.object "com/example/tallygate/tallygate/core/Journal"), .long, .long]
  staticTypes := #[]
  resolved := Array.replicate 200 none
  statics := none }

def pool3 : Array CpInfo := pool [(1, .class_ 2), (0, u "com/example/tallygate/tallygate/core/Pools"), (3, .class_ 8), (1, u "com/example/tallygate/tallygate/core/Kind"), (0, u "<init>"), (5, u "()V"), (2, u "pools"), (0, u "Ljava/util/Map;"), (46, .class_ 67), (0, u "com/example/tallygate/tallygate/core/Pools$Pool"), (21, u "isValidId"), (0, u "([B)Z"), (87, .class_ 179), (0, u "com/example/tallygate/tallygate/core/Pools$Stat"), (24, .class_ 206), (1, u "com/example/tallygate/tallygate/core/Pools$State"), (112, u "I"), (22, u "MAX_IDS"), (2, u "MAX_ID_LENGTH"), (1, u "KIND"), (0, u "B"), (1, u "ADD"), (1, u "TAKE"), (0, u "USE"), (1, u "RELEASE")] 89

def k3m0 : Method := { name := "<init>", desc := "()V", sig := { parameters := [], returnType := none }, accessFlags := 0, code := none }
def k3c1 : Code := { maxStack := 2, maxLocals := 1, code := prog_9_method_2_code, exceptionTable := #[], attributes := #[] }
def k3m1 : Method := { name := "isValidId", desc := "([B)Z", sig := { parameters := [(.array .byte)], returnType := some .boolean }, accessFlags := 9, code := some k3c1 }
/-- com/example/tallygate/tallygate/core/Pools -/
def k3 : Class := { plain "com/example/tallygate/tallygate/core/Pools" (some 2) with
  accessFlags := 49
  interfaces := #[]
  cf := some (fileOf pool3 1 #[.nestMembers #[66, 204, 178]] #[{ accessFlags := 0, nameIndex := 9, descriptorIndex := 15, attributes := #[] }, { accessFlags := 9, nameIndex := 89, descriptorIndex := 90, attributes := #[] }] 49 6 #[] #[{ accessFlags := 25, nameIndex := 342, descriptorIndex := 319, attributes := #[] }, { accessFlags := 25, nameIndex := 345, descriptorIndex := 319, attributes := #[] }, { accessFlags := 24, nameIndex := 347, descriptorIndex := 348, attributes := #[] }, { accessFlags := 26, nameIndex := 350, descriptorIndex := 348, attributes := #[] }, { accessFlags := 26, nameIndex := 352, descriptorIndex := 348, attributes := #[] }, { accessFlags := 26, nameIndex := 353, descriptorIndex := 348, attributes := #[] }, { accessFlags := 26, nameIndex := 355, descriptorIndex := 348, attributes := #[] }, { accessFlags := 18, nameIndex := 18, descriptorIndex := 19, attributes := #[] }])
  fields := #[{ name := "MAX_IDS", type := .int, accessFlags := 25, slot := 0, constantValue := 0 }, { name := "MAX_ID_LENGTH", type := .int, accessFlags := 25, slot := 1, constantValue := 0 }, { name := "KIND", type := .byte, accessFlags := 24, slot := 2, constantValue := 0 }, { name := "ADD", type := .byte, accessFlags := 26, slot := 3, constantValue := 0 }, { name := "TAKE", type := .byte, accessFlags := 26, slot := 4, constantValue := 0 }, { name := "USE", type := .byte, accessFlags := 26, slot := 5, constantValue := 0 }, { name := "RELEASE", type := .byte, accessFlags := 26, slot := 6, constantValue := 0 }, { name := "pools", type := (.object "java/util/Map"), accessFlags := 18, slot := 5, constantValue := 0 }]
  methods := #[k3m0, k3m1]
  instanceTypes := #[.byte, (.object "java/lang/String"), (.object "com/example/tallygate/tallygate/core/Journal"), .long, .long, (.object "java/util/Map")]
  staticTypes := #[.int, .int, .byte, .byte, .byte, .byte, .byte]
  resolved := Array.replicate 445 none
  statics := none }

def pool4 : Array CpInfo := pool [(1, u "java/lang/Cloneable"), (0, .class_ 1), (0, u "java/lang/Object"), (0, .class_ 3)] 3

/-- java/lang/Cloneable -/
def k4 : Class := { plain "java/lang/Cloneable" (some 0) with
  accessFlags := 1537
  interfaces := #[]
  cf := some (fileOf pool4 2 #[] #[] 1537 4 #[] #[])
  fields := #[]
  methods := #[]
  instanceTypes := #[]
  staticTypes := #[]
  resolved := Array.replicate 8 none
  statics := none }

def pool5 : Array CpInfo := pool [(1, u "java/io/Serializable"), (0, .class_ 1), (0, u "java/lang/Object"), (0, .class_ 3)] 3

/-- java/io/Serializable -/
def k5 : Class := { plain "java/io/Serializable" (some 0) with
  accessFlags := 1537
  interfaces := #[]
  cf := some (fileOf pool5 2 #[] #[] 1537 4 #[] #[])
  fields := #[]
  methods := #[]
  instanceTypes := #[]
  staticTypes := #[]
  resolved := Array.replicate 8 none
  statics := none }

/-- the primitive byte -/
def k6 : Class := { plain "byte" none with kind := .primitive 'B', accessFlags := 0x411 }
/-- [B -/
def k7 : Class := { plain "[B" (some 0) with kind := .array 6 .byte, interfaces := #[4, 5], accessFlags := 1041 }

/-- the primitive int -/
def k8 : Class := { plain "int" none with kind := .primitive 'I', accessFlags := 0x411 }
/-- [I -/
def k9 : Class := { plain "[I" (some 0) with kind := .array 8 .int, interfaces := #[4, 5], accessFlags := 1041 }

def heap : Heap := #[]
def classes : Array Class := #[k0, k1, k2, k3, k4, k5, k6, k7, k8, k9]
def interned : List (Array UInt16 × Addr) := []
def slotsUsed : Nat := 0
def theMethod : MethodId := ⟨1, 1⟩
def args0 : Array Value := #[.int 5, .int 7, .int 2]
def aboutOver (below : List Frame) : State where
  vm := { classes := classes, interned := interned.toArray }
  heap := heap
  slotsUsed := slotsUsed
  threads := #[{ frames := .invoking theMethod args0 :: below }]
def below0 : List Frame := [.native { method := ⟨0, 0⟩, args := #[] }]
def about1 : State := aboutOver below0
def p0 : Program := .bare "" "" ""
def e0 : Env := launch0.env 0 0 0
theorem w_frames : about1.frames = Frame.invoking theMethod args0 :: below0 := rfl
set_option maxRecDepth 65536 in
theorem w_args : argsFit about1.vm theMethod args0 = true := by decide +kernel
set_option maxRecDepth 65536 in
theorem w_heap : heapFits about1 = true := by decide +kernel
set_option maxRecDepth 65536 in
theorem w_runnable : about1.curStatus? = some .runnable := by decide +kernel
set_option maxRecDepth 65536 in
theorem w_alone : about1.alone = true := by decide +kernel
set_option maxRecDepth 65536 in
theorem w_named : about1.methodNamed? x = some theMethod := by decide +kernel
set_option maxRecDepth 65536 in
theorem w_hears : about1.hears theMethod below0 = true := by decide +kernel
set_option maxRecDepth 65536 in
theorem w_ripe : about1.ripe theMethod args0 below0 = true := by decide +kernel
theorem w_running : about1.status = .running := rfl
set_option maxRecDepth 65536 in
theorem w_room : about1.hasRoom e0.platform room_1 = true :=
  launch0.hasRoom_least _ room_1 (by decide +kernel) (by decide +kernel) (by decide +kernel) (by decide +kernel) (by decide +kernel) (by decide +kernel)
theorem allAtoms_all (ts : List Jvm.Cond) (a : Array Jvm.Value) (st : Jvm.State) : (allAtoms ts).before a st = ts.all (fun c => c.before a st) := by
  induction ts with
  | nil => rfl
  | cons c t ih =>
    show (Jvm.Cond.and c (allAtoms t)).before a st = _
    rw [Jvm.Cond.before_and, ih, List.all_cons]
def words1 : List Jvm.Cond := Jvm.Cond.code x code maxLocals ret :: tables_1
/-- a 'code' word, met by the world's own term for the bytes: nothing is compared byte by byte -/
theorem code_word {y : MethodName} {bytes : ByteArray} {mx : Nat} {rt : Option FieldType} {a : Array Value} {s : State} {m : MethodId} {meth : Method} {c : Code} (h1 : s.methodNamed? y = some m) (h2 : s.vm.method? m = some meth) (h3 : meth.code = some c) (h4 : c.code = bytes)
    (h5 : (c.maxLocals == mx && c.exceptionTable.isEmpty && decide (c.maxStack ≤ mostOperands) && decide (meth.sig.returnType = rt) && !meth.locks && decide (parseMethodDescriptor y.desc = some meth.sig)) = true) : (Jvm.Cond.code y bytes mx rt).before a s = true := by
  simp only [Bool.and_eq_true, beq_iff_eq, Bool.not_eq_true', decide_eq_true_eq] at h5
  obtain ⟨⟨⟨⟨⟨g1, g2⟩, g3⟩, g4⟩, g5⟩, g6⟩ := h5
  simp [Cond.before, Cond.holds, Cond.value, h1, h2, h3, h4, g1, g2, g3, g4, g5, g6]
def isCode : Jvm.Cond → Bool
  | .code _ _ _ _ => true
  | _ => false
theorem all_split {L : List Jvm.Cond} {P : Jvm.Cond → Bool} (h1 : L.all (fun c => isCode c || P c) = true) (h2 : ∀ c ∈ L.filter isCode, P c = true) : L.all P = true := by
  refine List.all_eq_true.mpr fun c hc => ?_
  have h := List.all_eq_true.mp h1 c hc
  rcases Bool.eq_false_or_eq_true (isCode c) with hi | hi
  · exact h2 c (List.mem_filter.mpr ⟨hc, hi⟩)
  · simpa [hi] using h
set_option maxRecDepth 65536 in
theorem w_c0 : (Jvm.Cond.code x code maxLocals ret).before args0 about1 = true := code_word (m := ⟨1, 1⟩) (meth := k1m1) (c := k1c1) (by decide +kernel) rfl rfl rfl (by decide +kernel)
set_option maxRecDepth 65536 in
theorem w_c1 : (Jvm.Cond.code ({ cls := "com/example/tallygate/tallygate/core/Pools", name := "isValidId", desc := "([B)Z" } : Jvm.MethodName) prog_9_method_2_code (1 : Nat) (Option.some Jvm.ClassFile.FieldType.boolean)).before args0 about1 = true := code_word (m := ⟨3, 1⟩) (meth := k3m1) (c := k3c1) (by decide +kernel) rfl rfl rfl (by decide +kernel)
def codes1 : List Jvm.Cond := [Jvm.Cond.code x code maxLocals ret, Jvm.Cond.code ({ cls := "com/example/tallygate/tallygate/core/Pools", name := "isValidId", desc := "([B)Z" } : Jvm.MethodName) prog_9_method_2_code (1 : Nat) (Option.some Jvm.ClassFile.FieldType.boolean)]
set_option maxRecDepth 65536 in
theorem codes_eq : words1.filter isCode = codes1 := rfl
theorem w_codes : ∀ c ∈ words1.filter isCode, c.before args0 about1 = true := by
  rw [codes_eq]
  intro c hc
  simp only [codes1, List.mem_cons, List.not_mem_nil, or_false] at hc
  rcases hc with rfl | rfl
  · exact w_c0
  · exact w_c1
set_option maxRecDepth 65536 in
theorem w_t1 : words1.all (fun c => isCode c || c.before args0 about1) = true := by decide +kernel
theorem w_tables : (allAtoms (Jvm.Cond.code x code maxLocals ret :: tables_1)).before args0 about1 = true := by
  rw [allAtoms_all]
  show words1.all (fun c => c.before args0 about1) = true
  refine all_split ?_ w_codes
  rw [w_t1]
set_option maxRecDepth 65536 in
theorem w_case : (Jvm.Cond.and given_1 narrow_1).before args0 about1 = true := by decide +kernel
theorem w_applies : (headSpec (Jvm.Cond.code x code maxLocals ret :: tables_1) room_1).applies x e0.platform about1 = true :=
  (Spec.applies_iff w_frames).mpr ⟨w_running, w_runnable, w_alone, w_named, w_hears, w_ripe, w_room, w_tables⟩
theorem atStart : AtStart classFile x code maxLocals ret World_1 tables_1 room_1 Calls_1 rest_1 Pre_1 launch0 p0 e0 about1 theMethod args0 below0 :=
  ⟨lists_1, trivial, launch0.admits_env _ _ _, launch0.least_env, fairChoices_fair.cas, fairChoices_fair.clock, w_frames, w_args, w_heap, w_applies, trivial, trivial, w_case⟩
end start1
theorem witness_1 : WitnessClaimed_1 := ⟨start1.p0, start1.e0, start1.about1, start1.theMethod, start1.args0, start1.below0, start1.atStart⟩
end Jvm.Pilot.@@N@@
