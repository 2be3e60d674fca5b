import JvmDerived
import JvmDerived.Pilot.@@N@@Statement
import JvmDerived.Pilot.@@N@@Code
set_option linter.unusedVariables false
set_option linter.unusedSimpArgs false
namespace Jvm.Pilot.@@N@@
open Jvm Jvm.ClassFile Sem Op Lib Jvm.Free Jvm.Stand Jvm.LawKit Jvm.RoadKit Bundle Jvm.Pilot.@@N@@.Jvm.D
section Own
variable {p : Program} {l : Launch} {e : Env} {R : Room} {s : State} {m : MethodId} {args : Array Value} {below : List Frame} {meth : Method} {c : Code} {T T' : State} {locs : List Loc} {cells slots C S : Nat} {Qv : Option Value → Heap → List Loc → Prop} {Z : State} {a0 : Array Value} {h : Heap}
/-- from here, with this frame on top, the method returns, Qv holds of what it returns, of the heap and of what was written, within C cells and S slots -/
def own_Ends (p : Program) (e : Env) (below : List Frame) (s : State) (C S : Nat) (Qv : Option Value → Heap → List Loc → Prop) (T : State) (g : JFrame) : Prop :=
  ∃ (s₂ : State) (o : Outcome), Steps p.tables e below (T.setTop g) s₂ ∧ s₂.status = .running ∧ Ended s₂ below o ∧ ∃ v L, o = .returned v ∧ Qv v s₂.heap L ∧ FrameEnd s o s₂ L C S
theorem own_go {g : JFrame} (g' : JFrame) (st : ∀ t, Steps p.tables e below (T'.setTop g') t → Steps p.tables e below (T.setTop g) t) (k : own_Ends p e below s C S Qv T' g') : own_Ends p e below s C S Qv T g := by
  obtain ⟨s₂, o, h1, h⟩ := k
  exact ⟨s₂, o, st _ h1, h⟩
theorem own_ret (X : Stand p l e R s m args below meth c T locs cells slots) (hlk : meth.locks = false) {g : JFrame} {v : Option Value} (hv : meth.sig.returnType = none → v = none)
    (st : ∀ fs, (∀ (f : JFrame) (acts : List Action), f.method = m → f.locked = none → f.entered = [] → (doReturn e (T.setTop f) acts v).1 = T.setFrames fs) → Steps p.tables e below (T.setTop g) (T.setFrames fs))
    (hC : cells ≤ C) (hS : slots ≤ S) (hQ : Qv v T.heap locs) : own_Ends p e below s C S Qv T g := by
  obtain ⟨fs, hr, hrun, hended, hW, hsame⟩ := X.leave (v := v) hv hlk
  exact ⟨_, _, st fs hr, hrun, hended, v, locs, rfl, hQ, ⟨_, rfl⟩, hW, hsame.mono hC hS⟩
theorem own_retI (X : Stand p l e R s m args below meth c T locs cells slots) (hx : p.tables.exec = Jvm.exec) (hlk : meth.locks = false) {pc : Nat} {Ls : Array Slot} {z : Int32} {rest : List Value} {t : FieldType} (hret : meth.sig.returnType = some t)
    (ht : t = .int ∨ t = .boolean ∨ t = .byte ∨ t = .char ∨ t = .short) (hn : narrow t (.int z) = .int z) (hd : decode c.code pc = .ok (.ireturn, 1)) (hC : cells ≤ C) (hS : slots ≤ S) (hQ : Qv (some (.int z)) T.heap locs) : own_Ends p e below s C S Qv T (mkF m pc Ls (.int z :: rest)) :=
  own_ret X hlk (fun h => by rw [hret] at h; cases h) (fun fs hr => retOut X hx hret hn (Or.inl ⟨rfl, ht, _, rfl⟩) hd hr) hC hS hQ
theorem own_retN (X : Stand p l e R s m args below meth c T locs cells slots) (hx : p.tables.exec = Jvm.exec) (hlk : meth.locks = false) {pc : Nat} {Ls : Array Slot} {z : Int32} {rest : List Value} {t : FieldType} (hret : meth.sig.returnType = some t)
    (ht : t = .boolean ∨ t = .byte ∨ t = .char ∨ t = .short) (hd : decode c.code pc = .ok (.ireturn, 1)) (hC : cells ≤ C) (hS : slots ≤ S) (hQ : Qv (some (.int (nar t z))) T.heap locs) : own_Ends p e below s C S Qv T (mkF m pc Ls (.int z :: rest)) :=
  own_ret X hlk (fun h => by rw [hret] at h; cases h) (fun fs hr => retN X hx hret ht hd hr) hC hS hQ
theorem own_retL (X : Stand p l e R s m args below meth c T locs cells slots) (hx : p.tables.exec = Jvm.exec) (hlk : meth.locks = false) {pc : Nat} {Ls : Array Slot} {z : Int64} {rest : List Value} (hret : meth.sig.returnType = some .long)
    (hd : decode c.code pc = .ok (.lreturn, 1)) (hC : cells ≤ C) (hS : slots ≤ S) (hQ : Qv (some (.long z)) T.heap locs) : own_Ends p e below s C S Qv T (mkF m pc Ls (.long z :: rest)) :=
  own_ret X hlk (fun h => by rw [hret] at h; cases h) (fun fs hr => retOut X hx hret rfl (Or.inr (Or.inl ⟨rfl, rfl, _, rfl⟩)) hd hr) hC hS hQ
theorem own_retA (X : Stand p l e R s m args below meth c T locs cells slots) (hx : p.tables.exec = Jvm.exec) (hlk : meth.locks = false) {pc : Nat} {Ls : Array Slot} {z : Addr} {rest : List Value} {t : FieldType} (hret : meth.sig.returnType = some t) (ht : t.isReference = true) (hn : narrow t (.ref z) = .ref z)
    (hd : decode c.code pc = .ok (.areturn, 1)) (hC : cells ≤ C) (hS : slots ≤ S) (hQ : Qv (some (.ref z)) T.heap locs) : own_Ends p e below s C S Qv T (mkF m pc Ls (.ref z :: rest)) :=
  own_ret X hlk (fun h => by rw [hret] at h; cases h) (fun fs hr => retOut X hx hret hn (Or.inr (Or.inr (Or.inr (Or.inr ⟨rfl, ht, rfl⟩)))) hd hr) hC hS hQ
theorem own_ret0 (X : Stand p l e R s m args below meth c T locs cells slots) (hx : p.tables.exec = Jvm.exec) (hlk : meth.locks = false) {pc : Nat} {Ls : Array Slot} (hret : meth.sig.returnType = none)
    (hd : decode c.code pc = .ok (.return_, 1)) (hC : cells ≤ C) (hS : slots ≤ S) (hQ : Qv none T.heap locs) : own_Ends p e below s C S Qv T (mkF m pc Ls []) :=
  own_ret X hlk (fun _ => rfl) (fun fs hr => X.returnOut hx hret hd hr) hC hS hQ
/-- a contract out of its body's walk -/
theorem own_met {y : MethodName} {bytes : ByteArray} {maxL : Nat} {ret : Option FieldType} {ws : List Jvm.Cond} {rm : Room} {as' : Array Value} {h0 : Heap} (hp : plainFor y = true)
    (body : ∀ (p : Program) (e : Env) (s : State) (m : MethodId) (below : List Frame) (meth : Method) (c : Code) (T : State), p.tables.exec = Jvm.exec → c.code = bytes → c.maxLocals = maxL → s.vm.findClass y.cls = some m.cls → meth.sig.returnType = ret → meth.locks = false → meth.name = y.name → Z.Warmed39 s.vm → Stand p l e rm s m as' below meth c T [] 0 0 → T.heap = h0 → own_Ends p e below s rm.cells rm.slots Qv T (entryFrame m as' maxL)) :
    MetFree l y (head1 (Jvm.Cond.code y bytes maxL ret :: ws) rm) (fun a U => a = as' ∧ Z.Warmed39 U.vm ∧ U.heap = h0) (fun _ _ _ _ _ => True) (fun _ U o U' => ∃ v L, o = .returned v ∧ Qv v U'.heap L ∧ FrameEnd U o U' L rm.cells rm.slots) := by
  refine MetFree.of_bodySF hp hisR ?_
  intro p e s m args below meth c s₁ Bd hml0 hP hK
  obtain ⟨rfl, hZ, hh⟩ := hP
  exact body p e s m below meth c s₁ Bd.exec Bd.bytes hml0 (findClass_of_methodNamed Bd.named) Bd.returns Bd.notSynchronized ((name_of_methodNamed Bd.named Bd.method).1) hZ (Stand.of_body Bd) (by rw [← hh, Bd.state]; rfl)
/-- what a callee's contract says (as' its arguments, h the heap where it is called) -/
abbrev own_Met (l : Launch) (Z : State) (y : MethodName) (bytes : ByteArray) (maxL : Nat) (ret : Option FieldType) (rm : Room) (as' : Array Value) (h : Heap) (Q : Option Value → Heap → List Loc → Prop) : Prop :=
  MetFree l y (head1 [Jvm.Cond.code y bytes maxL ret] rm) (fun a U => a = as' ∧ Z.Warmed39 U.vm ∧ U.heap = h) (fun _ _ _ _ _ => True) (fun _ U o U' => ∃ v L, o = .returned v ∧ Q v U'.heap L ∧ FrameEnd U o U' L rm.cells rm.slots)
theorem own_callS (X : Stand p l e R s m args below meth c T locs cells slots) (hx : p.tables.exec = Jvm.exec) (hZ : Z.Warmed39 s.vm) {own : String} {index : Nat} {y : MethodName} {bytes : ByteArray} {maxL : Nat} {ret : Option FieldType} {rm : Room} {as' : Array Value} {Q : Option Value → Heap → List Loc → Prop}
    (hown : s.vm.findClass own = some m.cls) (w1 : (Jvm.Cond.methodLink own index y).before a0 Z = true) (w2 : (Jvm.Cond.static y).before a0 Z = true) (w3 : (Jvm.Cond.initialized y.cls).before a0 Z = true) (w4 : (Jvm.Cond.code y bytes maxL ret).before a0 Z = true)
    (hy : y.cls ≠ "java/lang/invoke/MethodHandle" ∧ y.cls ≠ "java/lang/invoke/VarHandle") (eT : T.heap = h) (hM : own_Met l Z y bytes maxL ret rm as' h Q)
    (W : Nat) (hf : rm.frames + 1 ≤ R.frames) (hl : W + (maxL + 11) + rm.locals ≤ R.locals) (hC : cells + rm.cells ≤ R.cells) (hS : slots + rm.slots ≤ R.slots)
    {g : JFrame} (hg : g.method = m) (hsize : g.locals.size = c.maxLocals) (argsL rest : List Value) (hlen : ∀ sig, parseMethodDescriptor y.desc = some sig → argsL.length = sig.parameters.length)
    (hstack : g.stack = argsL.reverse ++ rest) (has : argsL.toArray = as') (hW : 2 * g.monitorRoom + (rest.map fun v => v.category).sum ≤ W) (hd : decode c.code g.pc = .ok (.invokestatic index, 3))
    (k : ∀ v T' h' L, Stand p l e R s m args below meth c T' (locs ++ L) (cells + rm.cells) (slots + rm.slots) → T'.heap = h' → Q v h' L → own_Ends p e below s C S Qv T' { g with pc := g.pc + 3, stack := v.toList ++ rest }) : own_Ends p e below s C S Qv T g := by
  obtain ⟨v, _, ⟨T', L', k', n'⟩, -, X', ⟨Lc, hQ, l1, y1, z1⟩, st⟩ := Jvm.LawKit.callS X hx (y := y) hown (mvT hZ w1) (mvT hZ w2) (mvT hZ w3) (mvT hZ w4) hy (backOf (W := W) hM hZ w4 w3 hf hl) (g := g) hg hsize (argsL := argsL) (rest := rest) hlen hstack hW hd (fun _ _ => ⟨has, eT, hC, hS⟩)
  dsimp only [Pt.U, Pt.locs, Pt.cells, Pt.slots] at X' l1 y1 z1 st hQ
  subst l1 y1 z1
  exact own_go _ st (k v T' _ Lc X' rfl hQ)
theorem own_callI (X : Stand p l e R s m args below meth c T locs cells slots) (hx : p.tables.exec = Jvm.exec) (hZ : Z.Warmed39 s.vm) {own : String} {index : Nat} {y : MethodName} {bytes : ByteArray} {maxL : Nat} {rm : Room} {as' : Array Value} {Q : Option Value → Heap → List Loc → Prop}
    (hown : s.vm.findClass own = some m.cls) (hy1 : y.name = "<init>") (w1 : (Jvm.Cond.methodLink own index y).before a0 Z = true) (w2 : (Jvm.Cond.instanceMethod y).before a0 Z = true) (w3 : (Jvm.Cond.initialized y.cls).before a0 Z = true) (w4 : (Jvm.Cond.code y bytes maxL none).before a0 Z = true)
    (hy : y.cls ≠ "java/lang/invoke/MethodHandle" ∧ y.cls ≠ "java/lang/invoke/VarHandle") (eT : T.heap = h) (hM : own_Met l Z y bytes maxL none rm as' h Q)
    (W : Nat) (hf : rm.frames + 1 ≤ R.frames) (hl : W + (maxL + 11) + rm.locals ≤ R.locals) (hC : cells + rm.cells ≤ R.cells) (hS : slots + rm.slots ≤ R.slots)
    {g : JFrame} (hg : g.method = m) (hsize : g.locals.size = c.maxLocals) (a : Addr) (argsL rest : List Value) (hlen : ∀ sig, parseMethodDescriptor y.desc = some sig → argsL.length = sig.parameters.length)
    (hstack : g.stack = argsL.reverse ++ .ref a :: rest) (has : (Value.ref a :: argsL).toArray = as') (hW : 2 * g.monitorRoom + (rest.map fun v => v.category).sum ≤ W) (hd : decode c.code g.pc = .ok (.invokespecial index, 3))
    (k : ∀ v T' h' L, Stand p l e R s m args below meth c T' (locs ++ L) (cells + rm.cells) (slots + rm.slots) → T'.heap = h' → Q v h' L → own_Ends p e below s C S Qv T' { g with pc := g.pc + 3, stack := v.toList ++ rest }) : own_Ends p e below s C S Qv T g := by
  obtain ⟨v, _, ⟨T', L', k', n'⟩, -, X', ⟨Lc, hQ, l1, y1, z1⟩, st⟩ := Jvm.LawKit.callI X hx (y := y) hown hy1 (mvT hZ w1) (mvT hZ w2) (mvT hZ w4) hy (backOf (W := W) hM hZ w4 w3 hf hl) (g := g) hg hsize (a := a) (argsL := argsL) (rest := rest) hlen hstack hW hd (fun _ _ => ⟨has, eT, hC, hS⟩)
  dsimp only [Pt.U, Pt.locs, Pt.cells, Pt.slots] at X' l1 y1 z1 st hQ
  subst l1 y1 z1
  exact own_go _ st (k v T' _ Lc X' rfl hQ)
theorem own_callV (X : Stand p l e R s m args below meth c T locs cells slots) (hx : p.tables.exec = Jvm.exec) (hZ : Z.Warmed39 s.vm) {own C0 : String} {index : Nat} {y : MethodName} {bytes : ByteArray} {maxL : Nat} {ret : Option FieldType} {rm : Room} {as' : Array Value} {Q : Option Value → Heap → List Loc → Prop}
    (hown : s.vm.findClass own = some m.cls) (w1 : (Jvm.Cond.methodLink own index y).before a0 Z = true) (w5 : (Jvm.Cond.declares y).before a0 Z = true) (w6 : (Jvm.Cond.selects C0 y y).before a0 Z = true) (w2 : (Jvm.Cond.instanceMethod y).before a0 Z = true) (w3 : (Jvm.Cond.initialized y.cls).before a0 Z = true) (w4 : (Jvm.Cond.code y bytes maxL ret).before a0 Z = true)
    (hy : y.cls ≠ "java/lang/invoke/MethodHandle" ∧ y.cls ≠ "java/lang/invoke/VarHandle") (eT : T.heap = h) (a : Addr) (E : Exa Z h a C0) (hM : own_Met l Z y bytes maxL ret rm as' h Q)
    (W : Nat) (hf : rm.frames + 1 ≤ R.frames) (hl : W + (maxL + 11) + rm.locals ≤ R.locals) (hC : cells + rm.cells ≤ R.cells) (hS : slots + rm.slots ≤ R.slots)
    {g : JFrame} (hg : g.method = m) (hsize : g.locals.size = c.maxLocals) (argsL rest : List Value) (hlen : ∀ sig, parseMethodDescriptor y.desc = some sig → argsL.length = sig.parameters.length)
    (hstack : g.stack = argsL.reverse ++ .ref a :: rest) (has : (Value.ref a :: argsL).toArray = as') (hW : 2 * g.monitorRoom + (rest.map fun v => v.category).sum ≤ W) (hd : decode c.code g.pc = .ok (.invokevirtual index, 3))
    (k : ∀ v T' h' L, Stand p l e R s m args below meth c T' (locs ++ L) (cells + rm.cells) (slots + rm.slots) → T'.heap = h' → Q v h' L → own_Ends p e below s C S Qv T' { g with pc := g.pc + 3, stack := v.toList ++ rest }) : own_Ends p e below s C S Qv T g := by
  obtain ⟨cq, kq, q1, q2, q3⟩ := isOf hZ eT E
  obtain ⟨v, _, ⟨T', L', k', n'⟩, -, X', ⟨Lc, hQ, l1, y1, z1⟩, st⟩ := X.virtualBack hx (y := y) (z := y) hown (mvT hZ w1) (mvT hZ w5) (notFace_of_selects (args := #[]) (mvT hZ w6)) (mvT hZ w6) (mvT hZ w2) hy (backOf (W := W) hM hZ w4 w3 hf hl) q1 q3 (g := g) hg hsize (Steps.refl _) (argsL := argsL) (rest := rest) hlen hstack hW hd (fun _ _ => ⟨has, eT, hC, hS⟩)
  dsimp only [Pt.U, Pt.locs, Pt.cells, Pt.slots] at X' l1 y1 z1 st hQ
  subst l1 y1 z1
  exact own_go _ (fun t q => st.trans q) (k v T' _ Lc X' rfl hQ)
theorem own_callP (X : Stand p l e R s m args below meth c T locs cells slots) (hx : p.tables.exec = Jvm.exec) (hZ : Z.Warmed39 s.vm) {own C0 : String} {index kk : Nat} {y : MethodName} {bytes : ByteArray} {maxL : Nat} {ret : Option FieldType} {rm : Room} {as' : Array Value} {Q : Option Value → Heap → List Loc → Prop}
    (hown : s.vm.findClass own = some m.cls) (w1 : (Jvm.Cond.methodLink own index y).before a0 Z = true) (w2 : (Jvm.Cond.instanceMethod y).before a0 Z = true) (wi : (Jvm.Cond.instantiable y.cls kk).before a0 Z = true) (w5 : (Jvm.Cond.privateMethod y).before a0 Z = true) (w3 : (Jvm.Cond.initialized y.cls).before a0 Z = true) (w4 : (Jvm.Cond.code y bytes maxL ret).before a0 Z = true)
    (hy : y.cls ≠ "java/lang/invoke/MethodHandle" ∧ y.cls ≠ "java/lang/invoke/VarHandle") (eT : T.heap = h) (a : Addr) (E : Exa Z h a C0) (hM : own_Met l Z y bytes maxL ret rm as' h Q)
    (W : Nat) (hf : rm.frames + 1 ≤ R.frames) (hl : W + (maxL + 11) + rm.locals ≤ R.locals) (hC : cells + rm.cells ≤ R.cells) (hS : slots + rm.slots ≤ R.slots)
    {g : JFrame} (hg : g.method = m) (hsize : g.locals.size = c.maxLocals) (argsL rest : List Value) (hlen : ∀ sig, parseMethodDescriptor y.desc = some sig → argsL.length = sig.parameters.length)
    (hstack : g.stack = argsL.reverse ++ .ref a :: rest) (has : (Value.ref a :: argsL).toArray = as') (hW : 2 * g.monitorRoom + (rest.map fun v => v.category).sum ≤ W) (hd : decode c.code g.pc = .ok (.invokevirtual index, 3))
    (k : ∀ v T' h' L, Stand p l e R s m args below meth c T' (locs ++ L) (cells + rm.cells) (slots + rm.slots) → T'.heap = h' → Q v h' L → own_Ends p e below s C S Qv T' { g with pc := g.pc + 3, stack := v.toList ++ rest }) : own_Ends p e below s C S Qv T g := by
  obtain ⟨cq, q1, q2⟩ := E.cell
  have hp := Cond.privateMethod_at (mvP hZ w5 (args := #[]))
  obtain ⟨c2, k2, i1, i2, i3, i4, -⟩ := Cond.instantiable_spec (mvT (args := args) hZ wi)
  have hni : k2.isInterface = false := (Bool.or_eq_false_iff.mp i4).1
  have w6 := selects_self_of_private i1 i2 hni hp (mvT (args := args) hZ w2) hy
  obtain ⟨v, _, ⟨T', L', k', n'⟩, -, X', ⟨Lc, hQ, l1, y1, z1⟩, st⟩ := X.privateBack hx (y := y) hown (mvT hZ w1) (mvT hZ w2) w6 hp (mvT hZ w4) hy (backOf (W := W) hM hZ w4 w3 hf hl) (g := g) hg hsize (Steps.refl _) (a := a) (by rw [eT]; exact q1) q2 (argsL := argsL) (rest := rest) hlen hstack hW hd (fun _ _ => ⟨has, eT, hC, hS⟩)
  dsimp only [Pt.U, Pt.locs, Pt.cells, Pt.slots] at X' l1 y1 z1 st hQ
  subst l1 y1 z1
  exact own_go _ (fun t q => st.trans q) (k v T' _ Lc X' rfl hQ)
abbrev own_rel (cd : ClassFile.Cond) (a b : Int) : Prop := match cd with | .eq => a = b | .ne => ¬ a = b | .lt => a < b | .ge => b ≤ a | .gt => b < a | .le => a ≤ b
theorem own_icT {cd : ClassFile.Cond} {x y : Int32} (h : own_rel cd x.toInt y.toInt) : if_icmp.holds cd x y = true := by
  cases cd <;> simp [own_rel] at h <;> simp [if_icmp.holds, Int32.lt_iff_toInt_lt, Int32.le_iff_toInt_le, ← Int32.toInt_inj, h]
theorem own_icF {cd : ClassFile.Cond} {x y : Int32} (h : ¬ own_rel cd x.toInt y.toInt) : if_icmp.holds cd x y = false := by
  cases cd <;> simp [own_rel] at h <;> simp [if_icmp.holds, Int32.lt_iff_toInt_lt, Int32.le_iff_toInt_le, ← Int32.toInt_inj, h]
theorem own_zT {cd : ClassFile.Cond} {x : Int32} (h : own_rel cd x.toInt 0) : ifCond.holds cd x = true := (if0 cd x).trans (own_icT h)
theorem own_zF {cd : ClassFile.Cond} {x : Int32} (h : ¬ own_rel cd x.toInt 0) : ifCond.holds cd x = false := (if0 cd x).trans (own_icF h)
theorem own_cmp (cd : ClassFile.Cond) (x y : Int64) : own_rel cd (lcmpW x y).toInt 0 ↔ own_rel cd x.toInt y.toInt := by
  have h := c_lcmp x y
  cases cd <;> simp only [own_rel] <;> omega
theorem own_lcT {cd : ClassFile.Cond} {x y : Int64} (h : own_rel cd x.toInt y.toInt) : ifCond.holds cd (lcmpW x y) = true := own_zT ((own_cmp cd x y).mpr h)
theorem own_lcF {cd : ClassFile.Cond} {x y : Int64} (h : ¬ own_rel cd x.toInt y.toInt) : ifCond.holds cd (lcmpW x y) = false := own_zF (fun q => h ((own_cmp cd x y).mp q))
theorem own_xorm1 (x : Int64) : (x ^^^ (-1 : Int64)).toInt = -x.toInt - 1 := by
  have h : x ^^^ (-1 : Int64) = ~~~x := by
    apply Int64.toBitVec_inj.mp
    show x.toBitVec ^^^ BitVec.ofInt 64 (-1) = ~~~x.toBitVec
    have : BitVec.ofInt 64 (-1) = BitVec.allOnes 64 := by decide
    rw [this, BitVec.xor_allOnes]
  rw [h, Int64.toInt_not]
  have := rng64 x
  have e : (-x.toInt - 1).bmod (2 ^ 64) = -x.toInt - 1 := by
    rw [Int.bmod_eq_of_le] <;> omega
  first | exact e | omega
theorem own_nz32 {y : Int32} (h : ¬ y.toInt = 0) : y ≠ 0 := fun q => h (by rw [q]; rfl)
theorem own_nz64 {y : Int64} (h : ¬ y.toInt = 0) : y ≠ 0 := fun q => h (by rw [q]; rfl)
theorem own_lremV (x y : Int64) : 0 ≤ x.toInt → 0 < y.toInt → 0 ≤ (x - (x / y) * y).toInt ∧ (x - (x / y) * y).toInt < y.toInt ∧ (x - (x / y) * y).toInt ≤ x.toInt := by
  intro h0 h1
  rw [(c_lrem x y y.toInt rfl).1 h0]
  refine ⟨Int.emod_nonneg _ (by omega), Int.emod_lt_of_pos _ h1, ?_⟩
  have := Int.emod_add_mul_ediv x.toInt y.toInt
  have h2 : 0 ≤ x.toInt / y.toInt := Int.ediv_nonneg h0 (by omega)
  have h3 : 0 ≤ y.toInt * (x.toInt / y.toInt) := Int.mul_nonneg (by omega) h2
  omega
theorem own_iremV (x y : Int32) : 0 ≤ x.toInt → 0 < y.toInt → 0 ≤ (x % y).toInt ∧ (x % y).toInt < y.toInt ∧ (x % y).toInt ≤ x.toInt := fun h0 h1 =>
  have h := (c_iremV x y).1 h0 h1
  ⟨h.1, h.2.1, h.2.2.1⟩
end Own
theorem dR_0 : decode jdk_30_method_1_code 0 = .ok (.aload_n 0, 1) := by decide +kernel
theorem dR_1 : decode jdk_30_method_1_code 1 = .ok (.invokespecial 1, 3) := by decide +kernel
theorem dR_4 : decode jdk_30_method_1_code 4 = .ok (.return_, 1) := by decide +kernel
theorem pfR : plainFor (⟨"java/lang/Record", "<init>", "()V"⟩ : MethodName) = true := by decide +kernel
theorem efR (m : MethodId) (a : Addr) : entryFrame m #[(.ref a)] 1 = (mkF m 0 #[.val (.ref a)] []) := by first | rfl | (simp [entryFrame, mkF, argsToLocals, Value.category, maxLocals]; done)
def QR (Z : State) (a : Addr) (h0 : Heap) (n0 : Nat) (v : Option Value) (h : Heap) (L : List Loc) : Prop := v = none ∧ Fr n0 L ∧ h = h0
set_option maxRecDepth 65536 in
set_option maxHeartbeats 40000000 in
theorem rmR (l : Launch) (Z : State) (a0 : Array Value) (hw : ∀ d ∈ tables_1, d.before a0 Z = true) (ws : List Jvm.Cond) (a : Addr) (h0 : Heap) (n0 : Nat) (Z0 : n0 ≤ h0.size) :
    MetFree l (⟨"java/lang/Record", "<init>", "()V"⟩ : MethodName) (head1 (Jvm.Cond.code (⟨"java/lang/Record", "<init>", "()V"⟩ : MethodName) jdk_30_method_1_code 1 none :: ws) ({ frames := 1, cells := 0, slots := 0, locals := 12 } : Room)) (fun aa U => aa = #[(.ref a)] ∧ Z.Warmed39 U.vm ∧ U.heap = h0) (fun _ _ _ _ _ => True) (fun _ U o U' => ∃ v L, o = .returned v ∧ QR Z a h0 n0 v U'.heap L ∧ FrameEnd U o U' L ({ frames := 1, cells := 0, slots := 0, locals := 12 } : Room).cells ({ frames := 1, cells := 0, slots := 0, locals := 12 } : Room).slots) := by
  refine own_met pfR ?_
  intro p e s m below meth c T0 hx hby hml hown hret hlk hnm hZ X0 e0
  have N0 := Fr.nil n0
  rw [efR]
  refine own_go (mkF m 1 #[.val (.ref a)] [(.ref a)]) (fun t k => XS.aloadN X0.here hx rfl (hb hby dR_0) rfl rfl k) ?_
  obtain ⟨T1, X1, e1, st1⟩ := initO X0 hx hZ hown (hw _ (List.mem_of_getElem? (i := 12) rfl)) (hw _ (List.mem_of_getElem? (i := 13) rfl)) (hw _ (List.mem_of_getElem? (i := 14) rfl)) e0 (g := (mkF m 1 #[.val (.ref a)] [(.ref a)])) rfl (by rw [hml]; rfl) rfl (hb hby dR_1) (by decide) (W := 0) (by show 2 * 0 + _ ≤ _; exact Nat.le_of_eq rfl) (by decide)
  refine own_go (T' := T1) (mkF m 4 #[.val (.ref a)] []) st1 ?_
  refine own_ret0 X1 hx hlk hret (hb hby dR_4) (by decide) (by decide) ?_
  rw [e1]
  exact ⟨rfl, N0, rfl⟩
theorem d1_0 : decode prog_56_method_1_code 0 = .ok (.aload_n 0, 1) := by decide +kernel
theorem d1_1 : decode prog_56_method_1_code 1 = .ok (.invokespecial 1, 3) := by decide +kernel
theorem d1_4 : decode prog_56_method_1_code 4 = .ok (.aload_n 0, 1) := by decide +kernel
theorem d1_5 : decode prog_56_method_1_code 5 = .ok (.lload_n 1, 1) := by decide +kernel
theorem d1_6 : decode prog_56_method_1_code 6 = .ok (.putfield 7, 3) := by decide +kernel
theorem d1_9 : decode prog_56_method_1_code 9 = .ok (.aload_n 0, 1) := by decide +kernel
theorem d1_10 : decode prog_56_method_1_code 10 = .ok (.lload_n 3, 1) := by decide +kernel
theorem d1_11 : decode prog_56_method_1_code 11 = .ok (.putfield 13, 3) := by decide +kernel
theorem d1_14 : decode prog_56_method_1_code 14 = .ok (.aload_n 0, 1) := by decide +kernel
theorem d1_15 : decode prog_56_method_1_code 15 = .ok (.lload 5, 2) := by decide +kernel
theorem d1_17 : decode prog_56_method_1_code 17 = .ok (.putfield 16, 3) := by decide +kernel
theorem d1_20 : decode prog_56_method_1_code 20 = .ok (.aload_n 0, 1) := by decide +kernel
theorem d1_21 : decode prog_56_method_1_code 21 = .ok (.lload 7, 2) := by decide +kernel
theorem d1_23 : decode prog_56_method_1_code 23 = .ok (.putfield 19, 3) := by decide +kernel
theorem d1_26 : decode prog_56_method_1_code 26 = .ok (.return_, 1) := by decide +kernel
theorem pd1_0 : parseMethodDescriptor "()V" = some ⟨[], none⟩ := by decide +kernel
theorem pf1 : plainFor (⟨"com/example/wander_for_faults/wanderforfaults/engine/ExplorationLimits", "<init>", "(JJJJ)V"⟩ : MethodName) = true := by decide +kernel
theorem ef1 (m : MethodId) (a : Addr) (q1 : Int64) (q2 : Int64) (q3 : Int64) (q4 : Int64) : entryFrame m #[(.ref a), (.long q1), (.long q2), (.long q3), (.long q4)] 9 = (mkF m 0 #[.val (.ref a), .val (.long q1), .second, .val (.long q2), .second, .val (.long q3), .second, .val (.long q4), .second] []) := by first | rfl | (simp [entryFrame, mkF, argsToLocals, Value.category, maxLocals]; done)
def Q1 (Z : State) (a : Addr) (q1 : Int64) (q2 : Int64) (q3 : Int64) (q4 : Int64) (h0 : Heap) (n0 : Nat) (v : Option Value) (h : Heap) (L : List Loc) : Prop := v = none ∧ Fr n0 L ∧ Keep h0 h [a] ∧ Exa Z h a "com/example/wander_for_faults/wanderforfaults/engine/ExplorationLimits" ∧ Fld Z h a "com/example/wander_for_faults/wanderforfaults/engine/ExplorationLimits" "states" "J" (.long q1) ∧ Fld Z h a "com/example/wander_for_faults/wanderforfaults/engine/ExplorationLimits" "transitions" "J" (.long q2) ∧ Fld Z h a "com/example/wander_for_faults/wanderforfaults/engine/ExplorationLimits" "path" "J" (.long q3) ∧ Fld Z h a "com/example/wander_for_faults/wanderforfaults/engine/ExplorationLimits" "failures" "J" (.long q4)
set_option maxRecDepth 65536 in
set_option maxHeartbeats 40000000 in
theorem rm1 (l : Launch) (Z : State) (a0 : Array Value) (hw : ∀ d ∈ tables_1, d.before a0 Z = true) (ws : List Jvm.Cond) (a : Addr) (q1 : Int64) (q2 : Int64) (q3 : Int64) (q4 : Int64) (h0 : Heap) (n0 : Nat) (Z0 : n0 ≤ h0.size) (E_a : Exa Z h0 a "com/example/wander_for_faults/wanderforfaults/engine/ExplorationLimits") (F_states_a : Fld Z h0 a "com/example/wander_for_faults/wanderforfaults/engine/ExplorationLimits" "states" "J" (.long (0 : Int64))) (F_transitions_a : Fld Z h0 a "com/example/wander_for_faults/wanderforfaults/engine/ExplorationLimits" "transitions" "J" (.long (0 : Int64))) (F_path_a : Fld Z h0 a "com/example/wander_for_faults/wanderforfaults/engine/ExplorationLimits" "path" "J" (.long (0 : Int64))) (F_failures_a : Fld Z h0 a "com/example/wander_for_faults/wanderforfaults/engine/ExplorationLimits" "failures" "J" (.long (0 : Int64))) (g_a : n0 ≤ a) :
    MetFree l (⟨"com/example/wander_for_faults/wanderforfaults/engine/ExplorationLimits", "<init>", "(JJJJ)V"⟩ : MethodName) (head1 (Jvm.Cond.code (⟨"com/example/wander_for_faults/wanderforfaults/engine/ExplorationLimits", "<init>", "(JJJJ)V"⟩ : MethodName) prog_56_method_1_code 9 none :: ws) ({ frames := 2, cells := 0, slots := 0, locals := 24 } : Room)) (fun aa U => aa = #[(.ref a), (.long q1), (.long q2), (.long q3), (.long q4)] ∧ Z.Warmed39 U.vm ∧ U.heap = h0) (fun _ _ _ _ _ => True) (fun _ U o U' => ∃ v L, o = .returned v ∧ Q1 Z a q1 q2 q3 q4 h0 n0 v U'.heap L ∧ FrameEnd U o U' L ({ frames := 2, cells := 0, slots := 0, locals := 24 } : Room).cells ({ frames := 2, cells := 0, slots := 0, locals := 24 } : Room).slots) := by
  refine own_met pf1 ?_
  intro p e s m below meth c T0 hx hby hml hown hret hlk hnm hZ X0 e0
  have N0 := Fr.nil n0
  have K0 := Keep.refl h0 [a]
  have r_q1 := rng64 q1
  have r_q2 := rng64 q2
  have r_q3 := rng64 q3
  have r_q4 := rng64 q4
  rw [ef1]
  refine own_go (mkF m 1 #[.val (.ref a), .val (.long q1), .second, .val (.long q2), .second, .val (.long q3), .second, .val (.long q4), .second] [(.ref a)]) (fun t k => XS.aloadN X0.here hx rfl (hb hby d1_0) rfl rfl k) ?_
  refine own_callI X0 hx hZ (y := (⟨"java/lang/Record", "<init>", "()V"⟩ : MethodName)) hown rfl (hw _ (List.mem_of_getElem? (i := 7) rfl)) (hw _ (List.mem_of_getElem? (i := 8) rfl)) (hw _ (List.mem_of_getElem? (i := 10) rfl)) (hw _ (List.mem_of_getElem? (i := 11) rfl)) (by decide) e0 (rmR l Z a0 hw [] a h0 n0 Z0) 0 (by decide) (by decide) (by decide) (by decide) (g := (mkF m 1 #[.val (.ref a), .val (.long q1), .second, .val (.long q2), .second, .val (.long q3), .second, .val (.long q4), .second] [(.ref a)])) rfl (by rw [hml]; rfl) a [] [] (lenOf pd1_0 rfl) rfl rfl (by show 2 * 0 + _ ≤ _; exact Nat.le_of_eq rfl) (hb hby d1_1) ?_
  intro rv1 T1 h1 L1 X1 e1 hQ1
  obtain ⟨rfl, NQ1, eq1⟩ := hQ1
  rw [eq1] at e1
  have N1 := Fr.app N0 NQ1
  show own_Ends p e below s ({ frames := 2, cells := 0, slots := 0, locals := 24 } : Room).cells ({ frames := 2, cells := 0, slots := 0, locals := 24 } : Room).slots (Q1 Z a q1 q2 q3 q4 h0 n0) T1 (mkF m 4 #[.val (.ref a), .val (.long q1), .second, .val (.long q2), .second, .val (.long q3), .second, .val (.long q4), .second] [])
  refine own_go (mkF m 5 #[.val (.ref a), .val (.long q1), .second, .val (.long q2), .second, .val (.long q3), .second, .val (.long q4), .second] [(.ref a)]) (fun t k => XS.aloadN X1.here hx rfl (hb hby d1_4) rfl rfl k) ?_
  refine own_go (mkF m 6 #[.val (.ref a), .val (.long q1), .second, .val (.long q2), .second, .val (.long q3), .second, .val (.long q4), .second] [(.long q1), (.ref a)]) (fun t k => XS.lloadN X1.here hx rfl (hb hby d1_5) rfl k) ?_
  obtain ⟨T6, h6, X6, e6, W6, st6⟩ := putF X1 hx hZ hown (host := "") (Or.inl (hw _ (List.mem_of_getElem? (i := 15) rfl))) Via.refl e1 F_states_a E_a (Or.inr ⟨(hw _ (List.mem_of_getElem? (i := 16) rfl)), rfl, hnm⟩) (hw _ (List.mem_of_getElem? (i := 1) rfl)) (ty := .long) (by decide) rfl rfl (g := (mkF m 6 #[.val (.ref a), .val (.long q1), .second, .val (.long q2), .second, .val (.long q3), .second, .val (.long q4), .second] [(.long q1), (.ref a)])) rfl rfl (hb hby d1_6)
  have N6 := Fr.snoc X6 N1 g_a
  have E_a_6 := E_a.wr W6
  have K0_6 := K0.wr W6 (Or.inl (List.mem_cons_self ..))
  have F_states_a_6 := F_states_a.same W6
  have F_transitions_a_6 := F_transitions_a.other W6 (Or.inr (slot_ne (Or.inr (hw _ (List.mem_of_getElem? (i := 18) rfl))) (Or.inr (hw _ (List.mem_of_getElem? (i := 16) rfl))) (by decide) (t := .long) (t' := .long) (by decide) (by decide)))
  have F_path_a_6 := F_path_a.other W6 (Or.inr (slot_ne (Or.inr (hw _ (List.mem_of_getElem? (i := 20) rfl))) (Or.inr (hw _ (List.mem_of_getElem? (i := 16) rfl))) (by decide) (t := .long) (t' := .long) (by decide) (by decide)))
  have F_failures_a_6 := F_failures_a.other W6 (Or.inr (slot_ne (Or.inr (hw _ (List.mem_of_getElem? (i := 22) rfl))) (Or.inr (hw _ (List.mem_of_getElem? (i := 16) rfl))) (by decide) (t := .long) (t' := .long) (by decide) (by decide)))
  have Z0_6 : n0 ≤ h6.size := by rw [W6.size]; exact Z0
  refine own_go (T' := T6) (mkF m 9 #[.val (.ref a), .val (.long q1), .second, .val (.long q2), .second, .val (.long q3), .second, .val (.long q4), .second] []) st6 ?_
  refine own_go (mkF m 10 #[.val (.ref a), .val (.long q1), .second, .val (.long q2), .second, .val (.long q3), .second, .val (.long q4), .second] [(.ref a)]) (fun t k => XS.aloadN X6.here hx rfl (hb hby d1_9) rfl rfl k) ?_
  refine own_go (mkF m 11 #[.val (.ref a), .val (.long q1), .second, .val (.long q2), .second, .val (.long q3), .second, .val (.long q4), .second] [(.long q2), (.ref a)]) (fun t k => XS.lloadN X6.here hx rfl (hb hby d1_10) rfl k) ?_
  obtain ⟨T11, h11, X11, e11, W11, st11⟩ := putF X6 hx hZ hown (host := "") (Or.inl (hw _ (List.mem_of_getElem? (i := 17) rfl))) Via.refl e6 F_transitions_a_6 E_a_6 (Or.inr ⟨(hw _ (List.mem_of_getElem? (i := 18) rfl)), rfl, hnm⟩) (hw _ (List.mem_of_getElem? (i := 1) rfl)) (ty := .long) (by decide) rfl rfl (g := (mkF m 11 #[.val (.ref a), .val (.long q1), .second, .val (.long q2), .second, .val (.long q3), .second, .val (.long q4), .second] [(.long q2), (.ref a)])) rfl rfl (hb hby d1_11)
  have N11 := Fr.snoc X11 N6 g_a
  have E_a_11 := E_a_6.wr W11
  have K0_11 := K0_6.wr W11 (Or.inl (List.mem_cons_self ..))
  have F_states_a_11 := F_states_a_6.other W11 (Or.inr (slot_ne (Or.inr (hw _ (List.mem_of_getElem? (i := 16) rfl))) (Or.inr (hw _ (List.mem_of_getElem? (i := 18) rfl))) (by decide) (t := .long) (t' := .long) (by decide) (by decide)))
  have F_transitions_a_11 := F_transitions_a_6.same W11
  have F_path_a_11 := F_path_a_6.other W11 (Or.inr (slot_ne (Or.inr (hw _ (List.mem_of_getElem? (i := 20) rfl))) (Or.inr (hw _ (List.mem_of_getElem? (i := 18) rfl))) (by decide) (t := .long) (t' := .long) (by decide) (by decide)))
  have F_failures_a_11 := F_failures_a_6.other W11 (Or.inr (slot_ne (Or.inr (hw _ (List.mem_of_getElem? (i := 22) rfl))) (Or.inr (hw _ (List.mem_of_getElem? (i := 18) rfl))) (by decide) (t := .long) (t' := .long) (by decide) (by decide)))
  have Z0_11 : n0 ≤ h11.size := by rw [W11.size]; exact Z0_6
  refine own_go (T' := T11) (mkF m 14 #[.val (.ref a), .val (.long q1), .second, .val (.long q2), .second, .val (.long q3), .second, .val (.long q4), .second] []) st11 ?_
  refine own_go (mkF m 15 #[.val (.ref a), .val (.long q1), .second, .val (.long q2), .second, .val (.long q3), .second, .val (.long q4), .second] [(.ref a)]) (fun t k => XS.aloadN X11.here hx rfl (hb hby d1_14) rfl rfl k) ?_
  refine own_go (mkF m 17 #[.val (.ref a), .val (.long q1), .second, .val (.long q2), .second, .val (.long q3), .second, .val (.long q4), .second] [(.long q3), (.ref a)]) (fun t k => XS.lload X11.here hx rfl (hb hby d1_15) rfl k) ?_
  obtain ⟨T17, h17, X17, e17, W17, st17⟩ := putF X11 hx hZ hown (host := "") (Or.inl (hw _ (List.mem_of_getElem? (i := 19) rfl))) Via.refl e11 F_path_a_11 E_a_11 (Or.inr ⟨(hw _ (List.mem_of_getElem? (i := 20) rfl)), rfl, hnm⟩) (hw _ (List.mem_of_getElem? (i := 1) rfl)) (ty := .long) (by decide) rfl rfl (g := (mkF m 17 #[.val (.ref a), .val (.long q1), .second, .val (.long q2), .second, .val (.long q3), .second, .val (.long q4), .second] [(.long q3), (.ref a)])) rfl rfl (hb hby d1_17)
  have N17 := Fr.snoc X17 N11 g_a
  have E_a_17 := E_a_11.wr W17
  have K0_17 := K0_11.wr W17 (Or.inl (List.mem_cons_self ..))
  have F_states_a_17 := F_states_a_11.other W17 (Or.inr (slot_ne (Or.inr (hw _ (List.mem_of_getElem? (i := 16) rfl))) (Or.inr (hw _ (List.mem_of_getElem? (i := 20) rfl))) (by decide) (t := .long) (t' := .long) (by decide) (by decide)))
  have F_transitions_a_17 := F_transitions_a_11.other W17 (Or.inr (slot_ne (Or.inr (hw _ (List.mem_of_getElem? (i := 18) rfl))) (Or.inr (hw _ (List.mem_of_getElem? (i := 20) rfl))) (by decide) (t := .long) (t' := .long) (by decide) (by decide)))
  have F_path_a_17 := F_path_a_11.same W17
  have F_failures_a_17 := F_failures_a_11.other W17 (Or.inr (slot_ne (Or.inr (hw _ (List.mem_of_getElem? (i := 22) rfl))) (Or.inr (hw _ (List.mem_of_getElem? (i := 20) rfl))) (by decide) (t := .long) (t' := .long) (by decide) (by decide)))
  have Z0_17 : n0 ≤ h17.size := by rw [W17.size]; exact Z0_11
  refine own_go (T' := T17) (mkF m 20 #[.val (.ref a), .val (.long q1), .second, .val (.long q2), .second, .val (.long q3), .second, .val (.long q4), .second] []) st17 ?_
  refine own_go (mkF m 21 #[.val (.ref a), .val (.long q1), .second, .val (.long q2), .second, .val (.long q3), .second, .val (.long q4), .second] [(.ref a)]) (fun t k => XS.aloadN X17.here hx rfl (hb hby d1_20) rfl rfl k) ?_
  refine own_go (mkF m 23 #[.val (.ref a), .val (.long q1), .second, .val (.long q2), .second, .val (.long q3), .second, .val (.long q4), .second] [(.long q4), (.ref a)]) (fun t k => XS.lload X17.here hx rfl (hb hby d1_21) rfl k) ?_
  obtain ⟨T23, h23, X23, e23, W23, st23⟩ := putF X17 hx hZ hown (host := "") (Or.inl (hw _ (List.mem_of_getElem? (i := 21) rfl))) Via.refl e17 F_failures_a_17 E_a_17 (Or.inr ⟨(hw _ (List.mem_of_getElem? (i := 22) rfl)), rfl, hnm⟩) (hw _ (List.mem_of_getElem? (i := 1) rfl)) (ty := .long) (by decide) rfl rfl (g := (mkF m 23 #[.val (.ref a), .val (.long q1), .second, .val (.long q2), .second, .val (.long q3), .second, .val (.long q4), .second] [(.long q4), (.ref a)])) rfl rfl (hb hby d1_23)
  have N23 := Fr.snoc X23 N17 g_a
  have E_a_23 := E_a_17.wr W23
  have K0_23 := K0_17.wr W23 (Or.inl (List.mem_cons_self ..))
  have F_states_a_23 := F_states_a_17.other W23 (Or.inr (slot_ne (Or.inr (hw _ (List.mem_of_getElem? (i := 16) rfl))) (Or.inr (hw _ (List.mem_of_getElem? (i := 22) rfl))) (by decide) (t := .long) (t' := .long) (by decide) (by decide)))
  have F_transitions_a_23 := F_transitions_a_17.other W23 (Or.inr (slot_ne (Or.inr (hw _ (List.mem_of_getElem? (i := 18) rfl))) (Or.inr (hw _ (List.mem_of_getElem? (i := 22) rfl))) (by decide) (t := .long) (t' := .long) (by decide) (by decide)))
  have F_path_a_23 := F_path_a_17.other W23 (Or.inr (slot_ne (Or.inr (hw _ (List.mem_of_getElem? (i := 20) rfl))) (Or.inr (hw _ (List.mem_of_getElem? (i := 22) rfl))) (by decide) (t := .long) (t' := .long) (by decide) (by decide)))
  have F_failures_a_23 := F_failures_a_17.same W23
  have Z0_23 : n0 ≤ h23.size := by rw [W23.size]; exact Z0_17
  refine own_go (T' := T23) (mkF m 26 #[.val (.ref a), .val (.long q1), .second, .val (.long q2), .second, .val (.long q3), .second, .val (.long q4), .second] []) st23 ?_
  refine own_ret0 X23 hx hlk hret (hb hby d1_26) (by decide) (by decide) ?_
  rw [e23]
  exact ⟨rfl, N23, K0_23, E_a_23, F_states_a_23, F_transitions_a_23, F_path_a_23, F_failures_a_23⟩
theorem d2_0 : decode prog_56_method_5_code 0 = .ok (.aload_n 0, 1) := by decide +kernel
theorem d2_1 : decode prog_56_method_5_code 1 = .ok (.getfield 16, 3) := by decide +kernel
theorem d2_4 : decode prog_56_method_5_code 4 = .ok (.lconst 0, 1) := by decide +kernel
theorem d2_5 : decode prog_56_method_5_code 5 = .ok (.lcmp, 1) := by decide +kernel
theorem d2_6 : decode prog_56_method_5_code 6 = .ok (.ifCond .lt 16, 3) := by decide +kernel
theorem d2_9 : decode prog_56_method_5_code 9 = .ok (.iload_n 1, 1) := by decide +kernel
theorem d2_10 : decode prog_56_method_5_code 10 = .ok (.i2l, 1) := by decide +kernel
theorem d2_11 : decode prog_56_method_5_code 11 = .ok (.iload_n 2, 1) := by decide +kernel
theorem d2_12 : decode prog_56_method_5_code 12 = .ok (.i2l, 1) := by decide +kernel
theorem d2_13 : decode prog_56_method_5_code 13 = .ok (.ladd, 1) := by decide +kernel
theorem d2_14 : decode prog_56_method_5_code 14 = .ok (.aload_n 0, 1) := by decide +kernel
theorem d2_15 : decode prog_56_method_5_code 15 = .ok (.getfield 16, 3) := by decide +kernel
theorem d2_18 : decode prog_56_method_5_code 18 = .ok (.lcmp, 1) := by decide +kernel
theorem d2_19 : decode prog_56_method_5_code 19 = .ok (.ifCond .gt 7, 3) := by decide +kernel
theorem d2_22 : decode prog_56_method_5_code 22 = .ok (.iconst 1, 1) := by decide +kernel
theorem d2_23 : decode prog_56_method_5_code 23 = .ok (.goto 4, 3) := by decide +kernel
theorem d2_26 : decode prog_56_method_5_code 26 = .ok (.iconst 0, 1) := by decide +kernel
theorem d2_27 : decode prog_56_method_5_code 27 = .ok (.ireturn, 1) := by decide +kernel
theorem pf2 : plainFor (⟨"com/example/wander_for_faults/wanderforfaults/engine/ExplorationLimits", "allowsCalls", "(II)Z"⟩ : MethodName) = true := by decide +kernel
theorem ef2 (m : MethodId) (a : Addr) (q1 : Int32) (q2 : Int32) : entryFrame m #[(.ref a), (.int q1), (.int q2)] 3 = (mkF m 0 #[.val (.ref a), .val (.int q1), .val (.int q2)] []) := by first | rfl | (simp [entryFrame, mkF, argsToLocals, Value.category, maxLocals]; done)
def Q2 (Z : State) (a : Addr) (q1 : Int32) (q2 : Int32) (w1 : Int64) (h0 : Heap) (n0 : Nat) (v : Option Value) (h : Heap) (L : List Loc) : Prop := (∃ r : Int32, v = some (.int r) ∧ (r.toInt = 1 ∧ (w1.toInt < 0 ∨ q1.toInt + q2.toInt ≤ w1.toInt) ∨ r.toInt = 0 ∧ ¬ (w1.toInt < 0 ∨ q1.toInt + q2.toInt ≤ w1.toInt))) ∧ Fr n0 L ∧ h = h0
set_option maxRecDepth 65536 in
set_option maxHeartbeats 40000000 in
theorem rm2 (l : Launch) (Z : State) (a0 : Array Value) (hw : ∀ d ∈ tables_1, d.before a0 Z = true) (ws : List Jvm.Cond) (a : Addr) (q1 : Int32) (q2 : Int32) (w1 : Int64) (h0 : Heap) (n0 : Nat) (Z0 : n0 ≤ h0.size) (F_path_a : Fld Z h0 a "com/example/wander_for_faults/wanderforfaults/engine/ExplorationLimits" "path" "J" (.long w1)) :
    MetFree l (⟨"com/example/wander_for_faults/wanderforfaults/engine/ExplorationLimits", "allowsCalls", "(II)Z"⟩ : MethodName) (head1 (Jvm.Cond.code (⟨"com/example/wander_for_faults/wanderforfaults/engine/ExplorationLimits", "allowsCalls", "(II)Z"⟩ : MethodName) prog_56_method_5_code 3 (some Jvm.ClassFile.FieldType.boolean) :: ws) ({ frames := 0, cells := 0, slots := 0, locals := 0 } : Room)) (fun aa U => aa = #[(.ref a), (.int q1), (.int q2)] ∧ Z.Warmed39 U.vm ∧ U.heap = h0) (fun _ _ _ _ _ => True) (fun _ U o U' => ∃ v L, o = .returned v ∧ Q2 Z a q1 q2 w1 h0 n0 v U'.heap L ∧ FrameEnd U o U' L ({ frames := 0, cells := 0, slots := 0, locals := 0 } : Room).cells ({ frames := 0, cells := 0, slots := 0, locals := 0 } : Room).slots) := by
  refine own_met pf2 ?_
  intro p e s m below meth c T0 hx hby hml hown hret hlk hnm hZ X0 e0
  have N0 := Fr.nil n0
  have r_w1 := rng64 w1
  have r_q1 := rng32 q1
  have r_q2 := rng32 q2
  rw [ef2]
  refine own_go (mkF m 1 #[.val (.ref a), .val (.int q1), .val (.int q2)] [(.ref a)]) (fun t k => XS.aloadN X0.here hx rfl (hb hby d2_0) rfl rfl k) ?_
  obtain ⟨T1, X1, e1, st1⟩ := getF X0 hx hZ hown (host := "") (Or.inl (hw _ (List.mem_of_getElem? (i := 19) rfl))) Via.refl e0 F_path_a (g := (mkF m 1 #[.val (.ref a), .val (.int q1), .val (.int q2)] [(.ref a)])) rfl rfl (hb hby d2_1)
  refine own_go (T' := T1) (mkF m 4 #[.val (.ref a), .val (.int q1), .val (.int q2)] [(.long w1)]) st1 ?_
  refine own_go (mkF m 5 #[.val (.ref a), .val (.int q1), .val (.int q2)] [(.long (0 : Int64)), (.long w1)]) (fun t k => XS.lconst X1.here hx rfl (hb hby d2_4) k) ?_
  refine own_go (mkF m 6 #[.val (.ref a), .val (.int q1), .val (.int q2)] [(.int (lcmpW w1 (0 : Int64)))]) (fun t k => XS.lcmp X1.here hx rfl (hb hby d2_5) rfl k) ?_
  by_cases c6 : w1.toInt < 0
  · skip
    refine own_go (mkF m 22 #[.val (.ref a), .val (.int q1), .val (.int q2)] []) (fun t k => XS.ifYes X1.here hx rfl (pc0 := 6) (pc' := 22) rfl (hb hby d2_6) rfl (own_lcT (cd := .lt) c6) (by decide) (by decide) k) ?_
    refine own_go (mkF m 23 #[.val (.ref a), .val (.int q1), .val (.int q2)] [(.int (1 : Int32))]) (fun t k => XS.iconst X1.here hx rfl (hb hby d2_22) k) ?_
    refine own_go (mkF m 27 #[.val (.ref a), .val (.int q1), .val (.int q2)] [(.int (1 : Int32))]) (fun t k => XS.goto X1.here hx rfl (pc0 := 23) (pc' := 27) rfl (hb hby d2_23) (by decide) (by decide) k) ?_
    refine own_retI X1 hx hlk hret (by simp) rfl (hb hby d2_27) (by decide) (by decide) ?_
    rw [e1]
    exact ⟨⟨_, rfl, Or.inl ⟨rfl, by omega⟩⟩, N0, rfl⟩
  · skip
    refine own_go (mkF m 9 #[.val (.ref a), .val (.int q1), .val (.int q2)] []) (fun t k => XS.ifNo X1.here hx rfl (hb hby d2_6) rfl (own_lcF (cd := .lt) c6) k) ?_
    refine own_go (mkF m 10 #[.val (.ref a), .val (.int q1), .val (.int q2)] [(.int q1)]) (fun t k => XS.iloadN X1.here hx rfl (hb hby d2_9) rfl k) ?_
    refine own_go (mkF m 11 #[.val (.ref a), .val (.int q1), .val (.int q2)] [(.long (q1.toInt64))]) (fun t k => XS.i2l X1.here hx rfl (hb hby d2_10) rfl k) ?_
    generalize hv10 : (q1.toInt64) = v10
    have f10 : v10.toInt = q1.toInt := by rw [← hv10]; exact c_i2l q1
    have r10 := rng64 v10
    refine own_go (mkF m 12 #[.val (.ref a), .val (.int q1), .val (.int q2)] [(.int q2), (.long v10)]) (fun t k => XS.iloadN X1.here hx rfl (hb hby d2_11) rfl k) ?_
    refine own_go (mkF m 13 #[.val (.ref a), .val (.int q1), .val (.int q2)] [(.long (q2.toInt64)), (.long v10)]) (fun t k => XS.i2l X1.here hx rfl (hb hby d2_12) rfl k) ?_
    generalize hv12 : (q2.toInt64) = v12
    have f12 : v12.toInt = q2.toInt := by rw [← hv12]; exact c_i2l q2
    have r12 := rng64 v12
    refine own_go (mkF m 14 #[.val (.ref a), .val (.int q1), .val (.int q2)] [(.long (v10 + v12))]) (fun t k => XS.ladd X1.here hx rfl (hb hby d2_13) rfl k) ?_
    generalize hv13 : (v10 + v12) = v13
    have f13 : (v13.toInt - (v10.toInt + v12.toInt)) % 18446744073709551616 = 0 := by rw [← hv13]; exact c_ladd v10 v12
    have r13 := rng64 v13
    refine own_go (mkF m 15 #[.val (.ref a), .val (.int q1), .val (.int q2)] [(.ref a), (.long v13)]) (fun t k => XS.aloadN X1.here hx rfl (hb hby d2_14) rfl rfl k) ?_
    obtain ⟨T15, X15, e15, st15⟩ := getF X1 hx hZ hown (host := "") (Or.inl (hw _ (List.mem_of_getElem? (i := 19) rfl))) Via.refl e1 F_path_a (g := (mkF m 15 #[.val (.ref a), .val (.int q1), .val (.int q2)] [(.ref a), (.long v13)])) rfl rfl (hb hby d2_15)
    refine own_go (T' := T15) (mkF m 18 #[.val (.ref a), .val (.int q1), .val (.int q2)] [(.long w1), (.long v13)]) st15 ?_
    refine own_go (mkF m 19 #[.val (.ref a), .val (.int q1), .val (.int q2)] [(.int (lcmpW v13 w1))]) (fun t k => XS.lcmp X15.here hx rfl (hb hby d2_18) rfl k) ?_
    by_cases c19 : w1.toInt < v13.toInt
    · skip
      refine own_go (mkF m 26 #[.val (.ref a), .val (.int q1), .val (.int q2)] []) (fun t k => XS.ifYes X15.here hx rfl (pc0 := 19) (pc' := 26) rfl (hb hby d2_19) rfl (own_lcT (cd := .gt) c19) (by decide) (by decide) k) ?_
      refine own_go (mkF m 27 #[.val (.ref a), .val (.int q1), .val (.int q2)] [(.int (0 : Int32))]) (fun t k => XS.iconst X15.here hx rfl (hb hby d2_26) k) ?_
      refine own_retI X15 hx hlk hret (by simp) rfl (hb hby d2_27) (by decide) (by decide) ?_
      rw [e15]
      exact ⟨⟨_, rfl, Or.inr ⟨rfl, by omega⟩⟩, N0, rfl⟩
    · skip
      refine own_go (mkF m 22 #[.val (.ref a), .val (.int q1), .val (.int q2)] []) (fun t k => XS.ifNo X15.here hx rfl (hb hby d2_19) rfl (own_lcF (cd := .gt) c19) k) ?_
      refine own_go (mkF m 23 #[.val (.ref a), .val (.int q1), .val (.int q2)] [(.int (1 : Int32))]) (fun t k => XS.iconst X15.here hx rfl (hb hby d2_22) k) ?_
      refine own_go (mkF m 27 #[.val (.ref a), .val (.int q1), .val (.int q2)] [(.int (1 : Int32))]) (fun t k => XS.goto X15.here hx rfl (pc0 := 23) (pc' := 27) rfl (hb hby d2_23) (by decide) (by decide) k) ?_
      refine own_retI X15 hx hlk hret (by simp) rfl (hb hby d2_27) (by decide) (by decide) ?_
      rw [e15]
      exact ⟨⟨_, rfl, Or.inl ⟨rfl, by omega⟩⟩, N0, rfl⟩
theorem d3_0 : decode method_3_code 0 = .ok (.lload_n 2, 1) := by decide +kernel
theorem d3_1 : decode method_3_code 1 = .ok (.lconst 0, 1) := by decide +kernel
theorem d3_2 : decode method_3_code 2 = .ok (.lcmp, 1) := by decide +kernel
theorem d3_3 : decode method_3_code 3 = .ok (.ifCond .ge 5, 3) := by decide +kernel
theorem d3_6 : decode method_3_code 6 = .ok (.iconst 1, 1) := by decide +kernel
theorem d3_7 : decode method_3_code 7 = .ok (.ireturn, 1) := by decide +kernel
theorem d3_8 : decode method_3_code 8 = .ok (.iload_n 1, 1) := by decide +kernel
theorem d3_9 : decode method_3_code 9 = .ok (.ifCond .ge 16, 3) := by decide +kernel
theorem d3_12 : decode method_3_code 12 = .ok (.lload_n 2, 1) := by decide +kernel
theorem d3_13 : decode method_3_code 13 = .ok (.ldc2_w 26, 3) := by decide +kernel
theorem d3_16 : decode method_3_code 16 = .ok (.lsub, 1) := by decide +kernel
theorem d3_17 : decode method_3_code 17 = .ok (.iload_n 1, 1) := by decide +kernel
theorem d3_18 : decode method_3_code 18 = .ok (.i2l, 1) := by decide +kernel
theorem d3_19 : decode method_3_code 19 = .ok (.lcmp, 1) := by decide +kernel
theorem d3_20 : decode method_3_code 20 = .ok (.ifCond .le 5, 3) := by decide +kernel
theorem d3_23 : decode method_3_code 23 = .ok (.iconst 1, 1) := by decide +kernel
theorem d3_24 : decode method_3_code 24 = .ok (.ireturn, 1) := by decide +kernel
theorem d3_25 : decode method_3_code 25 = .ok (.iload_n 0, 1) := by decide +kernel
theorem d3_26 : decode method_3_code 26 = .ok (.i2l, 1) := by decide +kernel
theorem d3_27 : decode method_3_code 27 = .ok (.lload_n 2, 1) := by decide +kernel
theorem d3_28 : decode method_3_code 28 = .ok (.iload_n 1, 1) := by decide +kernel
theorem d3_29 : decode method_3_code 29 = .ok (.i2l, 1) := by decide +kernel
theorem d3_30 : decode method_3_code 30 = .ok (.lsub, 1) := by decide +kernel
theorem d3_31 : decode method_3_code 31 = .ok (.lcmp, 1) := by decide +kernel
theorem d3_32 : decode method_3_code 32 = .ok (.ifCond .gt 7, 3) := by decide +kernel
theorem d3_35 : decode method_3_code 35 = .ok (.iconst 1, 1) := by decide +kernel
theorem d3_36 : decode method_3_code 36 = .ok (.goto 4, 3) := by decide +kernel
theorem d3_39 : decode method_3_code 39 = .ok (.iconst 0, 1) := by decide +kernel
theorem d3_40 : decode method_3_code 40 = .ok (.ireturn, 1) := by decide +kernel
theorem pf3 : plainFor (⟨"com/example/wander_for_faults/wanderforfaults/engine/ExplorationLimitsAllowsCallsPinLaw", "expected", "(IIJ)Z"⟩ : MethodName) = true := by decide +kernel
theorem ef3 (m : MethodId) (q1 : Int32) (q2 : Int32) (q3 : Int64) : entryFrame m #[(.int q1), (.int q2), (.long q3)] 4 = (mkF m 0 #[.val (.int q1), .val (.int q2), .val (.long q3), .second] []) := by first | rfl | (simp [entryFrame, mkF, argsToLocals, Value.category, maxLocals]; done)
def Q3 (Z : State) (q1 : Int32) (q2 : Int32) (q3 : Int64) (h0 : Heap) (n0 : Nat) (v : Option Value) (h : Heap) (L : List Loc) : Prop := (∃ r : Int32, v = some (.int r) ∧ (r.toInt = 1 ∧ (q3.toInt < 0 ∨ q1.toInt + q2.toInt ≤ q3.toInt) ∨ r.toInt = 0 ∧ ¬ (q3.toInt < 0 ∨ q1.toInt + q2.toInt ≤ q3.toInt))) ∧ Fr n0 L ∧ h = h0
set_option maxRecDepth 65536 in
set_option maxHeartbeats 40000000 in
theorem rm3 (l : Launch) (Z : State) (a0 : Array Value) (hw : ∀ d ∈ tables_1, d.before a0 Z = true) (ws : List Jvm.Cond) (q1 : Int32) (q2 : Int32) (q3 : Int64) (h0 : Heap) (n0 : Nat) (Z0 : n0 ≤ h0.size) :
    MetFree l (⟨"com/example/wander_for_faults/wanderforfaults/engine/ExplorationLimitsAllowsCallsPinLaw", "expected", "(IIJ)Z"⟩ : MethodName) (head1 (Jvm.Cond.code (⟨"com/example/wander_for_faults/wanderforfaults/engine/ExplorationLimitsAllowsCallsPinLaw", "expected", "(IIJ)Z"⟩ : MethodName) method_3_code 4 (some Jvm.ClassFile.FieldType.boolean) :: ws) ({ frames := 0, cells := 0, slots := 0, locals := 0 } : Room)) (fun aa U => aa = #[(.int q1), (.int q2), (.long q3)] ∧ Z.Warmed39 U.vm ∧ U.heap = h0) (fun _ _ _ _ _ => True) (fun _ U o U' => ∃ v L, o = .returned v ∧ Q3 Z q1 q2 q3 h0 n0 v U'.heap L ∧ FrameEnd U o U' L ({ frames := 0, cells := 0, slots := 0, locals := 0 } : Room).cells ({ frames := 0, cells := 0, slots := 0, locals := 0 } : Room).slots) := by
  refine own_met pf3 ?_
  intro p e s m below meth c T0 hx hby hml hown hret hlk hnm hZ X0 e0
  have N0 := Fr.nil n0
  have r_q1 := rng32 q1
  have r_q2 := rng32 q2
  have r_q3 := rng64 q3
  rw [ef3]
  refine own_go (mkF m 1 #[.val (.int q1), .val (.int q2), .val (.long q3), .second] [(.long q3)]) (fun t k => XS.lloadN X0.here hx rfl (hb hby d3_0) rfl k) ?_
  refine own_go (mkF m 2 #[.val (.int q1), .val (.int q2), .val (.long q3), .second] [(.long (0 : Int64)), (.long q3)]) (fun t k => XS.lconst X0.here hx rfl (hb hby d3_1) k) ?_
  refine own_go (mkF m 3 #[.val (.int q1), .val (.int q2), .val (.long q3), .second] [(.int (lcmpW q3 (0 : Int64)))]) (fun t k => XS.lcmp X0.here hx rfl (hb hby d3_2) rfl k) ?_
  by_cases c3 : 0 ≤ q3.toInt
  · skip
    refine own_go (mkF m 8 #[.val (.int q1), .val (.int q2), .val (.long q3), .second] []) (fun t k => XS.ifYes X0.here hx rfl (pc0 := 3) (pc' := 8) rfl (hb hby d3_3) rfl (own_lcT (cd := .ge) c3) (by decide) (by decide) k) ?_
    refine own_go (mkF m 9 #[.val (.int q1), .val (.int q2), .val (.long q3), .second] [(.int q2)]) (fun t k => XS.iloadN X0.here hx rfl (hb hby d3_8) rfl k) ?_
    by_cases c9 : 0 ≤ q2.toInt
    · skip
      refine own_go (mkF m 25 #[.val (.int q1), .val (.int q2), .val (.long q3), .second] []) (fun t k => XS.ifYes X0.here hx rfl (pc0 := 9) (pc' := 25) rfl (hb hby d3_9) rfl (own_zT (cd := .ge) c9) (by decide) (by decide) k) ?_
      refine own_go (mkF m 26 #[.val (.int q1), .val (.int q2), .val (.long q3), .second] [(.int q1)]) (fun t k => XS.iloadN X0.here hx rfl (hb hby d3_25) rfl k) ?_
      refine own_go (mkF m 27 #[.val (.int q1), .val (.int q2), .val (.long q3), .second] [(.long (q1.toInt64))]) (fun t k => XS.i2l X0.here hx rfl (hb hby d3_26) rfl k) ?_
      generalize hv26 : (q1.toInt64) = v26
      have f26 : v26.toInt = q1.toInt := by rw [← hv26]; exact c_i2l q1
      have r26 := rng64 v26
      refine own_go (mkF m 28 #[.val (.int q1), .val (.int q2), .val (.long q3), .second] [(.long q3), (.long v26)]) (fun t k => XS.lloadN X0.here hx rfl (hb hby d3_27) rfl k) ?_
      refine own_go (mkF m 29 #[.val (.int q1), .val (.int q2), .val (.long q3), .second] [(.int q2), (.long q3), (.long v26)]) (fun t k => XS.iloadN X0.here hx rfl (hb hby d3_28) rfl k) ?_
      refine own_go (mkF m 30 #[.val (.int q1), .val (.int q2), .val (.long q3), .second] [(.long (q2.toInt64)), (.long q3), (.long v26)]) (fun t k => XS.i2l X0.here hx rfl (hb hby d3_29) rfl k) ?_
      generalize hv29 : (q2.toInt64) = v29
      have f29 : v29.toInt = q2.toInt := by rw [← hv29]; exact c_i2l q2
      have r29 := rng64 v29
      refine own_go (mkF m 31 #[.val (.int q1), .val (.int q2), .val (.long q3), .second] [(.long (q3 - v29)), (.long v26)]) (fun t k => XS.lsub X0.here hx rfl (hb hby d3_30) rfl k) ?_
      generalize hv30 : (q3 - v29) = v30
      have f30 : (v30.toInt - (q3.toInt - v29.toInt)) % 18446744073709551616 = 0 := by rw [← hv30]; exact c_lsub q3 v29
      have r30 := rng64 v30
      refine own_go (mkF m 32 #[.val (.int q1), .val (.int q2), .val (.long q3), .second] [(.int (lcmpW v26 v30))]) (fun t k => XS.lcmp X0.here hx rfl (hb hby d3_31) rfl k) ?_
      by_cases c32 : v30.toInt < v26.toInt
      · skip
        refine own_go (mkF m 39 #[.val (.int q1), .val (.int q2), .val (.long q3), .second] []) (fun t k => XS.ifYes X0.here hx rfl (pc0 := 32) (pc' := 39) rfl (hb hby d3_32) rfl (own_lcT (cd := .gt) c32) (by decide) (by decide) k) ?_
        refine own_go (mkF m 40 #[.val (.int q1), .val (.int q2), .val (.long q3), .second] [(.int (0 : Int32))]) (fun t k => XS.iconst X0.here hx rfl (hb hby d3_39) k) ?_
        refine own_retI X0 hx hlk hret (by simp) rfl (hb hby d3_40) (by decide) (by decide) ?_
        rw [e0]
        exact ⟨⟨_, rfl, Or.inr ⟨rfl, by omega⟩⟩, N0, rfl⟩
      · skip
        refine own_go (mkF m 35 #[.val (.int q1), .val (.int q2), .val (.long q3), .second] []) (fun t k => XS.ifNo X0.here hx rfl (hb hby d3_32) rfl (own_lcF (cd := .gt) c32) k) ?_
        refine own_go (mkF m 36 #[.val (.int q1), .val (.int q2), .val (.long q3), .second] [(.int (1 : Int32))]) (fun t k => XS.iconst X0.here hx rfl (hb hby d3_35) k) ?_
        refine own_go (mkF m 40 #[.val (.int q1), .val (.int q2), .val (.long q3), .second] [(.int (1 : Int32))]) (fun t k => XS.goto X0.here hx rfl (pc0 := 36) (pc' := 40) rfl (hb hby d3_36) (by decide) (by decide) k) ?_
        refine own_retI X0 hx hlk hret (by simp) rfl (hb hby d3_40) (by decide) (by decide) ?_
        rw [e0]
        exact ⟨⟨_, rfl, Or.inl ⟨rfl, by omega⟩⟩, N0, rfl⟩
    · skip
      refine own_go (mkF m 12 #[.val (.int q1), .val (.int q2), .val (.long q3), .second] []) (fun t k => XS.ifNo X0.here hx rfl (hb hby d3_9) rfl (own_zF (cd := .ge) c9) k) ?_
      refine own_go (mkF m 13 #[.val (.int q1), .val (.int q2), .val (.long q3), .second] [(.long q3)]) (fun t k => XS.lloadN X0.here hx rfl (hb hby d3_12) rfl k) ?_
      refine own_go (mkF m 16 #[.val (.int q1), .val (.int q2), .val (.long q3), .second] [(.long (9223372036854775807 : Int64)), (.long q3)]) (fun t k => X0.ldc2Long hx hown (mvT hZ (hw _ (List.mem_of_getElem? (i := 32) rfl))) (g := (mkF m 13 #[.val (.int q1), .val (.int q2), .val (.long q3), .second] [(.long q3)])) rfl (hb hby d3_13) _ k) ?_
      refine own_go (mkF m 17 #[.val (.int q1), .val (.int q2), .val (.long q3), .second] [(.long (q3 - (9223372036854775807 : Int64)))]) (fun t k => XS.lsub X0.here hx rfl (hb hby d3_16) rfl k) ?_
      generalize hv16 : (q3 - (9223372036854775807 : Int64)) = v16
      have f16 : (v16.toInt - (q3.toInt - 9223372036854775807)) % 18446744073709551616 = 0 := by rw [← hv16]; exact c_lsub q3 (9223372036854775807 : Int64)
      have r16 := rng64 v16
      refine own_go (mkF m 18 #[.val (.int q1), .val (.int q2), .val (.long q3), .second] [(.int q2), (.long v16)]) (fun t k => XS.iloadN X0.here hx rfl (hb hby d3_17) rfl k) ?_
      refine own_go (mkF m 19 #[.val (.int q1), .val (.int q2), .val (.long q3), .second] [(.long (q2.toInt64)), (.long v16)]) (fun t k => XS.i2l X0.here hx rfl (hb hby d3_18) rfl k) ?_
      generalize hv18 : (q2.toInt64) = v18
      have f18 : v18.toInt = q2.toInt := by rw [← hv18]; exact c_i2l q2
      have r18 := rng64 v18
      refine own_go (mkF m 20 #[.val (.int q1), .val (.int q2), .val (.long q3), .second] [(.int (lcmpW v16 v18))]) (fun t k => XS.lcmp X0.here hx rfl (hb hby d3_19) rfl k) ?_
      by_cases c20 : v16.toInt ≤ v18.toInt
      · skip
        refine own_go (mkF m 25 #[.val (.int q1), .val (.int q2), .val (.long q3), .second] []) (fun t k => XS.ifYes X0.here hx rfl (pc0 := 20) (pc' := 25) rfl (hb hby d3_20) rfl (own_lcT (cd := .le) c20) (by decide) (by decide) k) ?_
        refine own_go (mkF m 26 #[.val (.int q1), .val (.int q2), .val (.long q3), .second] [(.int q1)]) (fun t k => XS.iloadN X0.here hx rfl (hb hby d3_25) rfl k) ?_
        refine own_go (mkF m 27 #[.val (.int q1), .val (.int q2), .val (.long q3), .second] [(.long (q1.toInt64))]) (fun t k => XS.i2l X0.here hx rfl (hb hby d3_26) rfl k) ?_
        generalize hv26 : (q1.toInt64) = v26
        have f26 : v26.toInt = q1.toInt := by rw [← hv26]; exact c_i2l q1
        have r26 := rng64 v26
        refine own_go (mkF m 28 #[.val (.int q1), .val (.int q2), .val (.long q3), .second] [(.long q3), (.long v26)]) (fun t k => XS.lloadN X0.here hx rfl (hb hby d3_27) rfl k) ?_
        refine own_go (mkF m 29 #[.val (.int q1), .val (.int q2), .val (.long q3), .second] [(.int q2), (.long q3), (.long v26)]) (fun t k => XS.iloadN X0.here hx rfl (hb hby d3_28) rfl k) ?_
        refine own_go (mkF m 30 #[.val (.int q1), .val (.int q2), .val (.long q3), .second] [(.long (q2.toInt64)), (.long q3), (.long v26)]) (fun t k => XS.i2l X0.here hx rfl (hb hby d3_29) rfl k) ?_
        generalize hv29 : (q2.toInt64) = v29
        have f29 : v29.toInt = q2.toInt := by rw [← hv29]; exact c_i2l q2
        have r29 := rng64 v29
        refine own_go (mkF m 31 #[.val (.int q1), .val (.int q2), .val (.long q3), .second] [(.long (q3 - v29)), (.long v26)]) (fun t k => XS.lsub X0.here hx rfl (hb hby d3_30) rfl k) ?_
        generalize hv30 : (q3 - v29) = v30
        have f30 : (v30.toInt - (q3.toInt - v29.toInt)) % 18446744073709551616 = 0 := by rw [← hv30]; exact c_lsub q3 v29
        have r30 := rng64 v30
        refine own_go (mkF m 32 #[.val (.int q1), .val (.int q2), .val (.long q3), .second] [(.int (lcmpW v26 v30))]) (fun t k => XS.lcmp X0.here hx rfl (hb hby d3_31) rfl k) ?_
        by_cases c32 : v30.toInt < v26.toInt
        · skip
          refine own_go (mkF m 39 #[.val (.int q1), .val (.int q2), .val (.long q3), .second] []) (fun t k => XS.ifYes X0.here hx rfl (pc0 := 32) (pc' := 39) rfl (hb hby d3_32) rfl (own_lcT (cd := .gt) c32) (by decide) (by decide) k) ?_
          refine own_go (mkF m 40 #[.val (.int q1), .val (.int q2), .val (.long q3), .second] [(.int (0 : Int32))]) (fun t k => XS.iconst X0.here hx rfl (hb hby d3_39) k) ?_
          refine own_retI X0 hx hlk hret (by simp) rfl (hb hby d3_40) (by decide) (by decide) ?_
          rw [e0]
          exact ⟨⟨_, rfl, Or.inr ⟨rfl, by omega⟩⟩, N0, rfl⟩
        · skip
          refine own_go (mkF m 35 #[.val (.int q1), .val (.int q2), .val (.long q3), .second] []) (fun t k => XS.ifNo X0.here hx rfl (hb hby d3_32) rfl (own_lcF (cd := .gt) c32) k) ?_
          refine own_go (mkF m 36 #[.val (.int q1), .val (.int q2), .val (.long q3), .second] [(.int (1 : Int32))]) (fun t k => XS.iconst X0.here hx rfl (hb hby d3_35) k) ?_
          refine own_go (mkF m 40 #[.val (.int q1), .val (.int q2), .val (.long q3), .second] [(.int (1 : Int32))]) (fun t k => XS.goto X0.here hx rfl (pc0 := 36) (pc' := 40) rfl (hb hby d3_36) (by decide) (by decide) k) ?_
          refine own_retI X0 hx hlk hret (by simp) rfl (hb hby d3_40) (by decide) (by decide) ?_
          rw [e0]
          exact ⟨⟨_, rfl, Or.inl ⟨rfl, by omega⟩⟩, N0, rfl⟩
      · skip
        refine own_go (mkF m 23 #[.val (.int q1), .val (.int q2), .val (.long q3), .second] []) (fun t k => XS.ifNo X0.here hx rfl (hb hby d3_20) rfl (own_lcF (cd := .le) c20) k) ?_
        refine own_go (mkF m 24 #[.val (.int q1), .val (.int q2), .val (.long q3), .second] [(.int (1 : Int32))]) (fun t k => XS.iconst X0.here hx rfl (hb hby d3_23) k) ?_
        refine own_retI X0 hx hlk hret (by simp) rfl (hb hby d3_24) (by decide) (by decide) ?_
        rw [e0]
        exact ⟨⟨_, rfl, Or.inl ⟨rfl, by omega⟩⟩, N0, rfl⟩
  · skip
    refine own_go (mkF m 6 #[.val (.int q1), .val (.int q2), .val (.long q3), .second] []) (fun t k => XS.ifNo X0.here hx rfl (hb hby d3_3) rfl (own_lcF (cd := .ge) c3) k) ?_
    refine own_go (mkF m 7 #[.val (.int q1), .val (.int q2), .val (.long q3), .second] [(.int (1 : Int32))]) (fun t k => XS.iconst X0.here hx rfl (hb hby d3_6) k) ?_
    refine own_retI X0 hx hlk hret (by simp) rfl (hb hby d3_7) (by decide) (by decide) ?_
    rw [e0]
    exact ⟨⟨_, rfl, Or.inl ⟨rfl, by omega⟩⟩, N0, rfl⟩
theorem pd0_0 : parseMethodDescriptor "(JJJJ)V" = some ⟨[.long, .long, .long, .long], none⟩ := by decide +kernel
theorem pd0_1 : parseMethodDescriptor "(II)Z" = some ⟨[.int, .int], some .boolean⟩ := by decide +kernel
theorem pd0_2 : parseMethodDescriptor "(IIJ)Z" = some ⟨[.int, .int, .long], some .boolean⟩ := by decide +kernel
theorem pf0 : plainFor (⟨"com/example/wander_for_faults/wanderforfaults/engine/ExplorationLimitsAllowsCallsPinLaw", "law", "(IIJIJ)Z"⟩ : MethodName) = true := by decide +kernel
theorem ef0 (m : MethodId) (q1 : Int32) (q2 : Int32) (q3 : Int64) (q4 : Int32) (q5 : Int64) : entryFrame m #[(.int q1), (.int q2), (.long q3), (.int q4), (.long q5)] maxLocals = (mkF m 0 #[.val (.int q1), .val (.int q2), .val (.long q3), .second, .val (.int q4), .val (.long q5), .second, .unset, .unset, .unset, .unset] []) := by first | rfl | (simp [entryFrame, mkF, argsToLocals, Value.category, maxLocals]; done)
def Q0 (Z : State) (q1 : Int32) (q2 : Int32) (q3 : Int64) (q4 : Int32) (q5 : Int64) (h0 : Heap) (n0 : Nat) (v : Option Value) (h : Heap) (L : List Loc) : Prop := v = some (.int 1) ∧ Fr n0 L
set_option maxRecDepth 65536 in
set_option maxHeartbeats 40000000 in
theorem rm0 (l : Launch) (Z : State) (a0 : Array Value) (hw : ∀ d ∈ tables_1, d.before a0 Z = true) (ws : List Jvm.Cond) (q1 : Int32) (q2 : Int32) (q3 : Int64) (q4 : Int32) (q5 : Int64) (h0 : Heap) (n0 : Nat) (Z0 : n0 ≤ h0.size) :
    MetFree l x (head1 (Jvm.Cond.code x code maxLocals ret :: ws) room_1) (fun aa U => aa = #[(.int q1), (.int q2), (.long q3), (.int q4), (.long q5)] ∧ Z.Warmed39 U.vm ∧ U.heap = h0) (fun _ _ _ _ _ => True) (fun _ U o U' => ∃ v L, o = .returned v ∧ Q0 Z q1 q2 q3 q4 q5 h0 n0 v U'.heap L ∧ FrameEnd U o U' L room_1.cells room_1.slots) := by
  refine own_met pf0 ?_
  intro p e s m below meth c T0 hx hby hml hown hret hlk hnm hZ X0 e0
  have N0 := Fr.nil n0
  have r_q1 := rng32 q1
  have r_q2 := rng32 q2
  have r_q3 := rng64 q3
  have r_q4 := rng32 q4
  have r_q5 := rng64 q5
  rw [ef0]
  refine own_go (mkF m 1 #[.val (.int q1), .val (.int q2), .val (.long q3), .second, .val (.int q4), .val (.long q5), .second, .unset, .unset, .unset, .unset] [(.long q3)]) (fun t k => XS.lloadN X0.here hx rfl (hb hby at_0) rfl k) ?_
  refine own_go (mkF m 3 #[.val (.int q1), .val (.int q2), .val (.long q3), .second, .val (.int q4), .val (.long q5), .second, .val (.long q3), .second, .unset, .unset] []) (fun t k => XS.lstore X0.here hx rfl (hb hby at_1) rfl (l' := #[.val (.int q1), .val (.int q2), .val (.long q3), .second, .val (.int q4), .val (.long q5), .second, .val (.long q3), .second, .unset, .unset]) rfl k) ?_
  refine own_go (mkF m 5 #[.val (.int q1), .val (.int q2), .val (.long q3), .second, .val (.int q4), .val (.long q5), .second, .val (.long q3), .second, .unset, .unset] [(.int q4)]) (fun t k => XS.iload X0.here hx rfl (hb hby at_3) rfl k) ?_
  refine own_go (mkF m 6 #[.val (.int q1), .val (.int q2), .val (.long q3), .second, .val (.int q4), .val (.long q5), .second, .val (.long q3), .second, .unset, .unset] [(.int (1 : Int32)), (.int q4)]) (fun t k => XS.iconst X0.here hx rfl (hb hby at_5) k) ?_
  refine own_go (mkF m 7 #[.val (.int q1), .val (.int q2), .val (.long q3), .second, .val (.int q4), .val (.long q5), .second, .val (.long q3), .second, .unset, .unset] [(.int (q4 &&& (1 : Int32)))]) (fun t k => XS.iand X0.here hx rfl (hb hby at_6) rfl k) ?_
  generalize hv6 : (q4 &&& (1 : Int32)) = v6
  have f6 : v6.toInt = q4.toInt % 2 := by rw [← hv6]; exact c_mask q4 (1 : Int32) 1 (by decide) (by decide)
  have r6 := rng32 v6
  by_cases c7 : v6.toInt = 0
  · skip
    refine own_go (mkF m 25 #[.val (.int q1), .val (.int q2), .val (.long q3), .second, .val (.int q4), .val (.long q5), .second, .val (.long q3), .second, .unset, .unset] []) (fun t k => XS.ifYes X0.here hx rfl (pc0 := 7) (pc' := 25) rfl (hb hby at_7) rfl (own_zT (cd := .eq) c7) (by decide) (by decide) k) ?_
    obtain ⟨T25, h25, X25, e25, E25, A25, D25, -, st25⟩ := newO X0 hx hZ hown (hw _ (List.mem_of_getElem? (i := 0) rfl)) (hw _ (List.mem_of_getElem? (i := 1) rfl)) (hw _ (List.mem_of_getElem? (i := 2) rfl)) e0 (g := (mkF m 25 #[.val (.int q1), .val (.int q2), .val (.long q3), .second, .val (.int q4), .val (.long q5), .second, .val (.long q3), .second, .unset, .unset] [])) rfl (hb hby at_25) (by decide) (by decide)
    obtain ⟨b25, g25⟩ : ∃ z, z = h0.size := ⟨_, rfl⟩
    rw [← g25] at A25 D25 st25
    have gb25 : n0 ≤ b25 := Nat.le_trans Z0 (Nat.le_of_eq g25.symm)
    have Z0_25 : n0 ≤ h25.size := Nat.le_trans Z0 E25.1
    have F_states_b25 : Fld Z h25 b25 "com/example/wander_for_faults/wanderforfaults/engine/ExplorationLimits" "states" "J" (.long (0 : Int64)) := D25 (Or.inr (hw _ (List.mem_of_getElem? (i := 16) rfl))) (ty := .long) (by decide)
    have F_transitions_b25 : Fld Z h25 b25 "com/example/wander_for_faults/wanderforfaults/engine/ExplorationLimits" "transitions" "J" (.long (0 : Int64)) := D25 (Or.inr (hw _ (List.mem_of_getElem? (i := 18) rfl))) (ty := .long) (by decide)
    have F_path_b25 : Fld Z h25 b25 "com/example/wander_for_faults/wanderforfaults/engine/ExplorationLimits" "path" "J" (.long (0 : Int64)) := D25 (Or.inr (hw _ (List.mem_of_getElem? (i := 20) rfl))) (ty := .long) (by decide)
    have F_failures_b25 : Fld Z h25 b25 "com/example/wander_for_faults/wanderforfaults/engine/ExplorationLimits" "failures" "J" (.long (0 : Int64)) := D25 (Or.inr (hw _ (List.mem_of_getElem? (i := 22) rfl))) (ty := .long) (by decide)
    refine own_go (T' := T25) (mkF m 28 #[.val (.int q1), .val (.int q2), .val (.long q3), .second, .val (.int q4), .val (.long q5), .second, .val (.long q3), .second, .unset, .unset] [(.ref b25)]) st25 ?_
    refine own_go (mkF m 29 #[.val (.int q1), .val (.int q2), .val (.long q3), .second, .val (.int q4), .val (.long q5), .second, .val (.long q3), .second, .unset, .unset] [(.ref b25), (.ref b25)]) (fun t k => XS.dup X25.here hx rfl (hb hby at_28) rfl rfl k) ?_
    refine own_go (mkF m 31 #[.val (.int q1), .val (.int q2), .val (.long q3), .second, .val (.int q4), .val (.long q5), .second, .val (.long q3), .second, .unset, .unset] [(.long q5), (.ref b25), (.ref b25)]) (fun t k => XS.lload X25.here hx rfl (hb hby at_29) rfl k) ?_
    refine own_go (mkF m 33 #[.val (.int q1), .val (.int q2), .val (.long q3), .second, .val (.int q4), .val (.long q5), .second, .val (.long q3), .second, .unset, .unset] [(.long q5), (.long q5), (.ref b25), (.ref b25)]) (fun t k => XS.lload X25.here hx rfl (hb hby at_31) rfl k) ?_
    refine own_go (mkF m 36 #[.val (.int q1), .val (.int q2), .val (.long q3), .second, .val (.int q4), .val (.long q5), .second, .val (.long q3), .second, .unset, .unset] [(.long (-1 : Int64)), (.long q5), (.long q5), (.ref b25), (.ref b25)]) (fun t k => X25.ldc2Long hx hown (mvT hZ (hw _ (List.mem_of_getElem? (i := 3) rfl))) (g := (mkF m 33 #[.val (.int q1), .val (.int q2), .val (.long q3), .second, .val (.int q4), .val (.long q5), .second, .val (.long q3), .second, .unset, .unset] [(.long q5), (.long q5), (.ref b25), (.ref b25)])) rfl (hb hby at_33) _ k) ?_
    refine own_go (mkF m 37 #[.val (.int q1), .val (.int q2), .val (.long q3), .second, .val (.int q4), .val (.long q5), .second, .val (.long q3), .second, .unset, .unset] [(.long (q5 ^^^ (-1 : Int64))), (.long q5), (.ref b25), (.ref b25)]) (fun t k => XS.lxor X25.here hx rfl (hb hby at_36) rfl k) ?_
    generalize hv36 : (q5 ^^^ (-1 : Int64)) = v36
    have f36 : v36.toInt = -q5.toInt - 1 := by rw [← hv36]; exact own_xorm1 q5
    have r36 := rng64 v36
    refine own_go (mkF m 39 #[.val (.int q1), .val (.int q2), .val (.long q3), .second, .val (.int q4), .val (.long q5), .second, .val (.long q3), .second, .unset, .unset] [(.long q3), (.long v36), (.long q5), (.ref b25), (.ref b25)]) (fun t k => XS.lload X25.here hx rfl (hb hby at_37) rfl k) ?_
    refine own_go (mkF m 41 #[.val (.int q1), .val (.int q2), .val (.long q3), .second, .val (.int q4), .val (.long q5), .second, .val (.long q3), .second, .unset, .unset] [(.long q5), (.long q3), (.long v36), (.long q5), (.ref b25), (.ref b25)]) (fun t k => XS.lload X25.here hx rfl (hb hby at_39) rfl k) ?_
    refine own_go (mkF m 42 #[.val (.int q1), .val (.int q2), .val (.long q3), .second, .val (.int q4), .val (.long q5), .second, .val (.long q3), .second, .unset, .unset] [(.int (1 : Int32)), (.long q5), (.long q3), (.long v36), (.long q5), (.ref b25), (.ref b25)]) (fun t k => XS.iconst X25.here hx rfl (hb hby at_41) k) ?_
    refine own_go (mkF m 43 #[.val (.int q1), .val (.int q2), .val (.long q3), .second, .val (.int q4), .val (.long q5), .second, .val (.long q3), .second, .unset, .unset] [(.long (q5 >>> ((1 : Int32) &&& 0x3f).toInt64)), (.long q3), (.long v36), (.long q5), (.ref b25), (.ref b25)]) (fun t k => XS.lshr X25.here hx rfl (hb hby at_42) rfl k) ?_
    generalize hv42 : (q5 >>> ((1 : Int32) &&& 0x3f).toInt64) = v42
    have f42 : v42.toInt = q5.toInt / 2 := by rw [← hv42]; exact c_lshr q5 (1 : Int32) 1 (by decide)
    have r42 := rng64 v42
    refine own_callI X25 hx hZ (y := (⟨"com/example/wander_for_faults/wanderforfaults/engine/ExplorationLimits", "<init>", "(JJJJ)V"⟩ : MethodName)) hown rfl (hw _ (List.mem_of_getElem? (i := 4) rfl)) (hw _ (List.mem_of_getElem? (i := 5) rfl)) (hw _ (List.mem_of_getElem? (i := 2) rfl)) (hw _ (List.mem_of_getElem? (i := 6) rfl)) (by decide) e25 (rm1 l Z a0 hw [] b25 q5 v36 q3 v42 h25 n0 Z0_25 A25 F_states_b25 F_transitions_b25 F_path_b25 F_failures_b25 gb25 ) 1 (by decide) (by decide) (by decide) (by decide) (g := (mkF m 43 #[.val (.int q1), .val (.int q2), .val (.long q3), .second, .val (.int q4), .val (.long q5), .second, .val (.long q3), .second, .unset, .unset] [(.long v42), (.long q3), (.long v36), (.long q5), (.ref b25), (.ref b25)])) rfl (by rw [hml]; rfl) b25 [(.long q5), (.long v36), (.long q3), (.long v42)] [(.ref b25)] (lenOf pd0_0 rfl) rfl rfl (by show 2 * 0 + _ ≤ _; exact Nat.le_of_eq rfl) (hb hby at_43) ?_
    intro rv43 T43 h43 L43 X43 e43 hQ43
    obtain ⟨rfl, NQ43, KQ43, EQ43, F_states_b25_43, F_transitions_b25_43, F_path_b25_43, F_failures_b25_43⟩ := hQ43
    have Z0_43 : n0 ≤ h43.size := Nat.le_trans Z0_25 KQ43.1
    have A25_43 := A25.keep KQ43
    have N43 := Fr.app N0 NQ43
    show own_Ends p e below s room_1.cells room_1.slots (Q0 Z q1 q2 q3 q4 q5 h0 n0) T43 (mkF m 46 #[.val (.int q1), .val (.int q2), .val (.long q3), .second, .val (.int q4), .val (.long q5), .second, .val (.long q3), .second, .unset, .unset] [(.ref b25)])
    refine own_go (mkF m 48 #[.val (.int q1), .val (.int q2), .val (.long q3), .second, .val (.int q4), .val (.long q5), .second, .val (.long q3), .second, .val (.ref b25), .unset] []) (fun t k => XS.astore X43.here hx rfl (hb hby at_46) rfl rfl (l' := #[.val (.int q1), .val (.int q2), .val (.long q3), .second, .val (.int q4), .val (.long q5), .second, .val (.long q3), .second, .val (.ref b25), .unset]) rfl k) ?_
    refine own_go (mkF m 50 #[.val (.int q1), .val (.int q2), .val (.long q3), .second, .val (.int q4), .val (.long q5), .second, .val (.long q3), .second, .val (.ref b25), .unset] [(.ref b25)]) (fun t k => XS.aload X43.here hx rfl (hb hby at_48) rfl rfl k) ?_
    refine own_go (mkF m 51 #[.val (.int q1), .val (.int q2), .val (.long q3), .second, .val (.int q4), .val (.long q5), .second, .val (.long q3), .second, .val (.ref b25), .unset] [(.int q1), (.ref b25)]) (fun t k => XS.iloadN X43.here hx rfl (hb hby at_50) rfl k) ?_
    refine own_go (mkF m 52 #[.val (.int q1), .val (.int q2), .val (.long q3), .second, .val (.int q4), .val (.long q5), .second, .val (.long q3), .second, .val (.ref b25), .unset] [(.int q2), (.int q1), (.ref b25)]) (fun t k => XS.iloadN X43.here hx rfl (hb hby at_51) rfl k) ?_
    refine own_callV X43 hx hZ (y := (⟨"com/example/wander_for_faults/wanderforfaults/engine/ExplorationLimits", "allowsCalls", "(II)Z"⟩ : MethodName)) hown (hw _ (List.mem_of_getElem? (i := 23) rfl)) (hw _ (List.mem_of_getElem? (i := 24) rfl)) (hw _ (List.mem_of_getElem? (i := 26) rfl)) (hw _ (List.mem_of_getElem? (i := 25) rfl)) (hw _ (List.mem_of_getElem? (i := 2) rfl)) (hw _ (List.mem_of_getElem? (i := 27) rfl)) (by decide) e43 b25 A25_43 (rm2 l Z a0 hw [] b25 q1 q2 q3 h43 n0 Z0_43 F_path_b25_43) 0 (by decide) (by decide) (by decide) (by decide) (g := (mkF m 52 #[.val (.int q1), .val (.int q2), .val (.long q3), .second, .val (.int q4), .val (.long q5), .second, .val (.long q3), .second, .val (.ref b25), .unset] [(.int q2), (.int q1), (.ref b25)])) rfl (by rw [hml]; rfl) [(.int q1), (.int q2)] [] (lenOf pd0_1 rfl) rfl rfl (by show 2 * 0 + _ ≤ _; exact Nat.le_of_eq rfl) (hb hby at_52) ?_
    intro rv52 T52 h52 L52 X52 e52 hQ52
    obtain ⟨⟨r52_, rfl, hr52⟩, NQ52, eq52⟩ := hQ52
    rw [eq52] at e52
    have rr52 := rng32 r52_
    have N52 := Fr.app N43 NQ52
    show own_Ends p e below s room_1.cells room_1.slots (Q0 Z q1 q2 q3 q4 q5 h0 n0) T52 (mkF m 55 #[.val (.int q1), .val (.int q2), .val (.long q3), .second, .val (.int q4), .val (.long q5), .second, .val (.long q3), .second, .val (.ref b25), .unset] [(.int r52_)])
    refine own_go (mkF m 57 #[.val (.int q1), .val (.int q2), .val (.long q3), .second, .val (.int q4), .val (.long q5), .second, .val (.long q3), .second, .val (.ref b25), .val (.int r52_)] []) (fun t k => XS.istore X52.here hx rfl (hb hby at_55) rfl (l' := #[.val (.int q1), .val (.int q2), .val (.long q3), .second, .val (.int q4), .val (.long q5), .second, .val (.long q3), .second, .val (.ref b25), .val (.int r52_)]) rfl k) ?_
    refine own_go (mkF m 59 #[.val (.int q1), .val (.int q2), .val (.long q3), .second, .val (.int q4), .val (.long q5), .second, .val (.long q3), .second, .val (.ref b25), .val (.int r52_)] [(.int r52_)]) (fun t k => XS.iload X52.here hx rfl (hb hby at_57) rfl k) ?_
    refine own_go (mkF m 60 #[.val (.int q1), .val (.int q2), .val (.long q3), .second, .val (.int q4), .val (.long q5), .second, .val (.long q3), .second, .val (.ref b25), .val (.int r52_)] [(.int q1), (.int r52_)]) (fun t k => XS.iloadN X52.here hx rfl (hb hby at_59) rfl k) ?_
    refine own_go (mkF m 61 #[.val (.int q1), .val (.int q2), .val (.long q3), .second, .val (.int q4), .val (.long q5), .second, .val (.long q3), .second, .val (.ref b25), .val (.int r52_)] [(.int q2), (.int q1), (.int r52_)]) (fun t k => XS.iloadN X52.here hx rfl (hb hby at_60) rfl k) ?_
    refine own_go (mkF m 63 #[.val (.int q1), .val (.int q2), .val (.long q3), .second, .val (.int q4), .val (.long q5), .second, .val (.long q3), .second, .val (.ref b25), .val (.int r52_)] [(.long q3), (.int q2), (.int q1), (.int r52_)]) (fun t k => XS.lload X52.here hx rfl (hb hby at_61) rfl k) ?_
    refine own_callS X52 hx hZ (y := (⟨"com/example/wander_for_faults/wanderforfaults/engine/ExplorationLimitsAllowsCallsPinLaw", "expected", "(IIJ)Z"⟩ : MethodName)) hown (hw _ (List.mem_of_getElem? (i := 28) rfl)) (hw _ (List.mem_of_getElem? (i := 29) rfl)) (hw _ (List.mem_of_getElem? (i := 30) rfl)) (hw _ (List.mem_of_getElem? (i := 31) rfl)) (by decide) e52 (rm3 l Z a0 hw [] q1 q2 q3 h43 n0 Z0_43) 1 (by decide) (by decide) (by decide) (by decide) (g := (mkF m 63 #[.val (.int q1), .val (.int q2), .val (.long q3), .second, .val (.int q4), .val (.long q5), .second, .val (.long q3), .second, .val (.ref b25), .val (.int r52_)] [(.long q3), (.int q2), (.int q1), (.int r52_)])) rfl (by rw [hml]; rfl) [(.int q1), (.int q2), (.long q3)] [(.int r52_)] (lenOf pd0_2 rfl) rfl rfl (by show 2 * 0 + _ ≤ _; exact Nat.le_of_eq rfl) (hb hby at_63) ?_
    intro rv63 T63 h63 L63 X63 e63 hQ63
    obtain ⟨⟨r63, rfl, hr63⟩, NQ63, eq63⟩ := hQ63
    rw [eq63] at e63
    have rr63 := rng32 r63
    have N63 := Fr.app N52 NQ63
    show own_Ends p e below s room_1.cells room_1.slots (Q0 Z q1 q2 q3 q4 q5 h0 n0) T63 (mkF m 66 #[.val (.int q1), .val (.int q2), .val (.long q3), .second, .val (.int q4), .val (.long q5), .second, .val (.long q3), .second, .val (.ref b25), .val (.int r52_)] [(.int r63), (.int r52_)])
    by_cases c66 : r52_.toInt = r63.toInt
    · skip
      refine own_go (mkF m 69 #[.val (.int q1), .val (.int q2), .val (.long q3), .second, .val (.int q4), .val (.long q5), .second, .val (.long q3), .second, .val (.ref b25), .val (.int r52_)] []) (fun t k => XS.icmpNo X63.here hx rfl (hb hby at_66) rfl (own_icF (cd := .ne) (fun q => q c66)) k) ?_
      refine own_go (mkF m 70 #[.val (.int q1), .val (.int q2), .val (.long q3), .second, .val (.int q4), .val (.long q5), .second, .val (.long q3), .second, .val (.ref b25), .val (.int r52_)] [(.int (1 : Int32))]) (fun t k => XS.iconst X63.here hx rfl (hb hby at_69) k) ?_
      refine own_go (mkF m 74 #[.val (.int q1), .val (.int q2), .val (.long q3), .second, .val (.int q4), .val (.long q5), .second, .val (.long q3), .second, .val (.ref b25), .val (.int r52_)] [(.int (1 : Int32))]) (fun t k => XS.goto X63.here hx rfl (pc0 := 70) (pc' := 74) rfl (hb hby at_70) (by decide) (by decide) k) ?_
      refine own_retI X63 hx hlk hret (by simp) rfl (hb hby at_74) (by decide) (by decide) ?_
      rw [e63]
      exact ⟨rfl, N63⟩
    · skip
      refine own_go (mkF m 73 #[.val (.int q1), .val (.int q2), .val (.long q3), .second, .val (.int q4), .val (.long q5), .second, .val (.long q3), .second, .val (.ref b25), .val (.int r52_)] []) (fun t k => XS.icmpYes X63.here hx rfl (pc0 := 66) (pc' := 73) rfl (hb hby at_66) rfl (own_icT (cd := .ne) c66) (by decide) (by decide) k) ?_
      refine own_go (mkF m 74 #[.val (.int q1), .val (.int q2), .val (.long q3), .second, .val (.int q4), .val (.long q5), .second, .val (.long q3), .second, .val (.ref b25), .val (.int r52_)] [(.int (0 : Int32))]) (fun t k => XS.iconst X63.here hx rfl (hb hby at_73) k) ?_
      refine own_retI X63 hx hlk hret (by simp) rfl (hb hby at_74) (by decide) (by decide) ?_
      rw [e63]
      exfalso
      omega
  · skip
    refine own_go (mkF m 10 #[.val (.int q1), .val (.int q2), .val (.long q3), .second, .val (.int q4), .val (.long q5), .second, .val (.long q3), .second, .unset, .unset] []) (fun t k => XS.ifNo X0.here hx rfl (hb hby at_7) rfl (own_zF (cd := .eq) c7) k) ?_
    refine own_go (mkF m 11 #[.val (.int q1), .val (.int q2), .val (.long q3), .second, .val (.int q4), .val (.long q5), .second, .val (.long q3), .second, .unset, .unset] [(.int q1)]) (fun t k => XS.iloadN X0.here hx rfl (hb hby at_10) rfl k) ?_
    refine own_go (mkF m 12 #[.val (.int q1), .val (.int q2), .val (.long q3), .second, .val (.int q4), .val (.long q5), .second, .val (.long q3), .second, .unset, .unset] [(.long (q1.toInt64))]) (fun t k => XS.i2l X0.here hx rfl (hb hby at_11) rfl k) ?_
    generalize hv11 : (q1.toInt64) = v11
    have f11 : v11.toInt = q1.toInt := by rw [← hv11]; exact c_i2l q1
    have r11 := rng64 v11
    refine own_go (mkF m 13 #[.val (.int q1), .val (.int q2), .val (.long q3), .second, .val (.int q4), .val (.long q5), .second, .val (.long q3), .second, .unset, .unset] [(.int q2), (.long v11)]) (fun t k => XS.iloadN X0.here hx rfl (hb hby at_12) rfl k) ?_
    refine own_go (mkF m 14 #[.val (.int q1), .val (.int q2), .val (.long q3), .second, .val (.int q4), .val (.long q5), .second, .val (.long q3), .second, .unset, .unset] [(.long (q2.toInt64)), (.long v11)]) (fun t k => XS.i2l X0.here hx rfl (hb hby at_13) rfl k) ?_
    generalize hv13 : (q2.toInt64) = v13
    have f13 : v13.toInt = q2.toInt := by rw [← hv13]; exact c_i2l q2
    have r13 := rng64 v13
    refine own_go (mkF m 15 #[.val (.int q1), .val (.int q2), .val (.long q3), .second, .val (.int q4), .val (.long q5), .second, .val (.long q3), .second, .unset, .unset] [(.long (v11 + v13))]) (fun t k => XS.ladd X0.here hx rfl (hb hby at_14) rfl k) ?_
    generalize hv14 : (v11 + v13) = v14
    have f14 : (v14.toInt - (v11.toInt + v13.toInt)) % 18446744073709551616 = 0 := by rw [← hv14]; exact c_ladd v11 v13
    have r14 := rng64 v14
    refine own_go (mkF m 17 #[.val (.int q1), .val (.int q2), .val (.long q3), .second, .val (.int q4), .val (.long q5), .second, .val (.long q3), .second, .unset, .unset] [(.int q4), (.long v14)]) (fun t k => XS.iload X0.here hx rfl (hb hby at_15) rfl k) ?_
    refine own_go (mkF m 18 #[.val (.int q1), .val (.int q2), .val (.long q3), .second, .val (.int q4), .val (.long q5), .second, .val (.long q3), .second, .unset, .unset] [(.int (1 : Int32)), (.int q4), (.long v14)]) (fun t k => XS.iconst X0.here hx rfl (hb hby at_17) k) ?_
    refine own_go (mkF m 19 #[.val (.int q1), .val (.int q2), .val (.long q3), .second, .val (.int q4), .val (.long q5), .second, .val (.long q3), .second, .unset, .unset] [(.int (q4 >>> ((1 : Int32) &&& 31))), (.long v14)]) (fun t k => XS.ishr X0.here hx rfl (hb hby at_18) rfl k) ?_
    generalize hv18 : (q4 >>> ((1 : Int32) &&& 31)) = v18
    have f18 : v18.toInt = q4.toInt / 2 := by rw [← hv18]; exact c_ishr q4 (1 : Int32) 1 (by decide)
    have r18 := rng32 v18
    refine own_go (mkF m 20 #[.val (.int q1), .val (.int q2), .val (.long q3), .second, .val (.int q4), .val (.long q5), .second, .val (.long q3), .second, .unset, .unset] [(.int (3 : Int32)), (.int v18), (.long v14)]) (fun t k => XS.iconst X0.here hx rfl (hb hby at_19) k) ?_
    refine own_go (mkF m 21 #[.val (.int q1), .val (.int q2), .val (.long q3), .second, .val (.int q4), .val (.long q5), .second, .val (.long q3), .second, .unset, .unset] [(.int (v18 % (3 : Int32))), (.long v14)]) (fun t k => Jvm.RoadKit.iremM X0 hx rfl (hb hby at_20) rfl (by decide) k) ?_
    generalize hv20 : (v18 % (3 : Int32)) = v20
    have f20 : (0 ≤ v18.toInt → v20.toInt = v18.toInt % 3) ∧ (v18.toInt < 0 → v20.toInt = -((-v18.toInt) % 3)) := by rw [← hv20]; exact c_irem v18 (3 : Int32) 3 (by decide)
    have r20 := rng32 v20
    refine own_go (mkF m 22 #[.val (.int q1), .val (.int q2), .val (.long q3), .second, .val (.int q4), .val (.long q5), .second, .val (.long q3), .second, .unset, .unset] [(.long (v20.toInt64)), (.long v14)]) (fun t k => XS.i2l X0.here hx rfl (hb hby at_21) rfl k) ?_
    generalize hv21 : (v20.toInt64) = v21
    have f21 : v21.toInt = v20.toInt := by rw [← hv21]; exact c_i2l v20
    have r21 := rng64 v21
    refine own_go (mkF m 23 #[.val (.int q1), .val (.int q2), .val (.long q3), .second, .val (.int q4), .val (.long q5), .second, .val (.long q3), .second, .unset, .unset] [(.long (v14 + v21))]) (fun t k => XS.ladd X0.here hx rfl (hb hby at_22) rfl k) ?_
    generalize hv22 : (v14 + v21) = v22
    have f22 : (v22.toInt - (v14.toInt + v21.toInt)) % 18446744073709551616 = 0 := by rw [← hv22]; exact c_ladd v14 v21
    have r22 := rng64 v22
    refine own_go (mkF m 25 #[.val (.int q1), .val (.int q2), .val (.long q3), .second, .val (.int q4), .val (.long q5), .second, .val (.long v22), .second, .unset, .unset] []) (fun t k => XS.lstore X0.here hx rfl (hb hby at_23) rfl (l' := #[.val (.int q1), .val (.int q2), .val (.long q3), .second, .val (.int q4), .val (.long q5), .second, .val (.long v22), .second, .unset, .unset]) rfl k) ?_
    obtain ⟨T25, h25, X25, e25, E25, A25, D25, -, st25⟩ := newO X0 hx hZ hown (hw _ (List.mem_of_getElem? (i := 0) rfl)) (hw _ (List.mem_of_getElem? (i := 1) rfl)) (hw _ (List.mem_of_getElem? (i := 2) rfl)) e0 (g := (mkF m 25 #[.val (.int q1), .val (.int q2), .val (.long q3), .second, .val (.int q4), .val (.long q5), .second, .val (.long v22), .second, .unset, .unset] [])) rfl (hb hby at_25) (by decide) (by decide)
    obtain ⟨b25, g25⟩ : ∃ z, z = h0.size := ⟨_, rfl⟩
    rw [← g25] at A25 D25 st25
    have gb25 : n0 ≤ b25 := Nat.le_trans Z0 (Nat.le_of_eq g25.symm)
    have Z0_25 : n0 ≤ h25.size := Nat.le_trans Z0 E25.1
    have F_states_b25 : Fld Z h25 b25 "com/example/wander_for_faults/wanderforfaults/engine/ExplorationLimits" "states" "J" (.long (0 : Int64)) := D25 (Or.inr (hw _ (List.mem_of_getElem? (i := 16) rfl))) (ty := .long) (by decide)
    have F_transitions_b25 : Fld Z h25 b25 "com/example/wander_for_faults/wanderforfaults/engine/ExplorationLimits" "transitions" "J" (.long (0 : Int64)) := D25 (Or.inr (hw _ (List.mem_of_getElem? (i := 18) rfl))) (ty := .long) (by decide)
    have F_path_b25 : Fld Z h25 b25 "com/example/wander_for_faults/wanderforfaults/engine/ExplorationLimits" "path" "J" (.long (0 : Int64)) := D25 (Or.inr (hw _ (List.mem_of_getElem? (i := 20) rfl))) (ty := .long) (by decide)
    have F_failures_b25 : Fld Z h25 b25 "com/example/wander_for_faults/wanderforfaults/engine/ExplorationLimits" "failures" "J" (.long (0 : Int64)) := D25 (Or.inr (hw _ (List.mem_of_getElem? (i := 22) rfl))) (ty := .long) (by decide)
    refine own_go (T' := T25) (mkF m 28 #[.val (.int q1), .val (.int q2), .val (.long q3), .second, .val (.int q4), .val (.long q5), .second, .val (.long v22), .second, .unset, .unset] [(.ref b25)]) st25 ?_
    refine own_go (mkF m 29 #[.val (.int q1), .val (.int q2), .val (.long q3), .second, .val (.int q4), .val (.long q5), .second, .val (.long v22), .second, .unset, .unset] [(.ref b25), (.ref b25)]) (fun t k => XS.dup X25.here hx rfl (hb hby at_28) rfl rfl k) ?_
    refine own_go (mkF m 31 #[.val (.int q1), .val (.int q2), .val (.long q3), .second, .val (.int q4), .val (.long q5), .second, .val (.long v22), .second, .unset, .unset] [(.long q5), (.ref b25), (.ref b25)]) (fun t k => XS.lload X25.here hx rfl (hb hby at_29) rfl k) ?_
    refine own_go (mkF m 33 #[.val (.int q1), .val (.int q2), .val (.long q3), .second, .val (.int q4), .val (.long q5), .second, .val (.long v22), .second, .unset, .unset] [(.long q5), (.long q5), (.ref b25), (.ref b25)]) (fun t k => XS.lload X25.here hx rfl (hb hby at_31) rfl k) ?_
    refine own_go (mkF m 36 #[.val (.int q1), .val (.int q2), .val (.long q3), .second, .val (.int q4), .val (.long q5), .second, .val (.long v22), .second, .unset, .unset] [(.long (-1 : Int64)), (.long q5), (.long q5), (.ref b25), (.ref b25)]) (fun t k => X25.ldc2Long hx hown (mvT hZ (hw _ (List.mem_of_getElem? (i := 3) rfl))) (g := (mkF m 33 #[.val (.int q1), .val (.int q2), .val (.long q3), .second, .val (.int q4), .val (.long q5), .second, .val (.long v22), .second, .unset, .unset] [(.long q5), (.long q5), (.ref b25), (.ref b25)])) rfl (hb hby at_33) _ k) ?_
    refine own_go (mkF m 37 #[.val (.int q1), .val (.int q2), .val (.long q3), .second, .val (.int q4), .val (.long q5), .second, .val (.long v22), .second, .unset, .unset] [(.long (q5 ^^^ (-1 : Int64))), (.long q5), (.ref b25), (.ref b25)]) (fun t k => XS.lxor X25.here hx rfl (hb hby at_36) rfl k) ?_
    generalize hv36 : (q5 ^^^ (-1 : Int64)) = v36
    have f36 : v36.toInt = -q5.toInt - 1 := by rw [← hv36]; exact own_xorm1 q5
    have r36 := rng64 v36
    refine own_go (mkF m 39 #[.val (.int q1), .val (.int q2), .val (.long q3), .second, .val (.int q4), .val (.long q5), .second, .val (.long v22), .second, .unset, .unset] [(.long v22), (.long v36), (.long q5), (.ref b25), (.ref b25)]) (fun t k => XS.lload X25.here hx rfl (hb hby at_37) rfl k) ?_
    refine own_go (mkF m 41 #[.val (.int q1), .val (.int q2), .val (.long q3), .second, .val (.int q4), .val (.long q5), .second, .val (.long v22), .second, .unset, .unset] [(.long q5), (.long v22), (.long v36), (.long q5), (.ref b25), (.ref b25)]) (fun t k => XS.lload X25.here hx rfl (hb hby at_39) rfl k) ?_
    refine own_go (mkF m 42 #[.val (.int q1), .val (.int q2), .val (.long q3), .second, .val (.int q4), .val (.long q5), .second, .val (.long v22), .second, .unset, .unset] [(.int (1 : Int32)), (.long q5), (.long v22), (.long v36), (.long q5), (.ref b25), (.ref b25)]) (fun t k => XS.iconst X25.here hx rfl (hb hby at_41) k) ?_
    refine own_go (mkF m 43 #[.val (.int q1), .val (.int q2), .val (.long q3), .second, .val (.int q4), .val (.long q5), .second, .val (.long v22), .second, .unset, .unset] [(.long (q5 >>> ((1 : Int32) &&& 0x3f).toInt64)), (.long v22), (.long v36), (.long q5), (.ref b25), (.ref b25)]) (fun t k => XS.lshr X25.here hx rfl (hb hby at_42) rfl k) ?_
    generalize hv42 : (q5 >>> ((1 : Int32) &&& 0x3f).toInt64) = v42
    have f42 : v42.toInt = q5.toInt / 2 := by rw [← hv42]; exact c_lshr q5 (1 : Int32) 1 (by decide)
    have r42 := rng64 v42
    refine own_callI X25 hx hZ (y := (⟨"com/example/wander_for_faults/wanderforfaults/engine/ExplorationLimits", "<init>", "(JJJJ)V"⟩ : MethodName)) hown rfl (hw _ (List.mem_of_getElem? (i := 4) rfl)) (hw _ (List.mem_of_getElem? (i := 5) rfl)) (hw _ (List.mem_of_getElem? (i := 2) rfl)) (hw _ (List.mem_of_getElem? (i := 6) rfl)) (by decide) e25 (rm1 l Z a0 hw [] b25 q5 v36 v22 v42 h25 n0 Z0_25 A25 F_states_b25 F_transitions_b25 F_path_b25 F_failures_b25 gb25 ) 1 (by decide) (by decide) (by decide) (by decide) (g := (mkF m 43 #[.val (.int q1), .val (.int q2), .val (.long q3), .second, .val (.int q4), .val (.long q5), .second, .val (.long v22), .second, .unset, .unset] [(.long v42), (.long v22), (.long v36), (.long q5), (.ref b25), (.ref b25)])) rfl (by rw [hml]; rfl) b25 [(.long q5), (.long v36), (.long v22), (.long v42)] [(.ref b25)] (lenOf pd0_0 rfl) rfl rfl (by show 2 * 0 + _ ≤ _; exact Nat.le_of_eq rfl) (hb hby at_43) ?_
    intro rv43 T43 h43 L43 X43 e43 hQ43
    obtain ⟨rfl, NQ43, KQ43, EQ43, F_states_b25_43, F_transitions_b25_43, F_path_b25_43, F_failures_b25_43⟩ := hQ43
    have Z0_43 : n0 ≤ h43.size := Nat.le_trans Z0_25 KQ43.1
    have A25_43 := A25.keep KQ43
    have N43 := Fr.app N0 NQ43
    show own_Ends p e below s room_1.cells room_1.slots (Q0 Z q1 q2 q3 q4 q5 h0 n0) T43 (mkF m 46 #[.val (.int q1), .val (.int q2), .val (.long q3), .second, .val (.int q4), .val (.long q5), .second, .val (.long v22), .second, .unset, .unset] [(.ref b25)])
    refine own_go (mkF m 48 #[.val (.int q1), .val (.int q2), .val (.long q3), .second, .val (.int q4), .val (.long q5), .second, .val (.long v22), .second, .val (.ref b25), .unset] []) (fun t k => XS.astore X43.here hx rfl (hb hby at_46) rfl rfl (l' := #[.val (.int q1), .val (.int q2), .val (.long q3), .second, .val (.int q4), .val (.long q5), .second, .val (.long v22), .second, .val (.ref b25), .unset]) rfl k) ?_
    refine own_go (mkF m 50 #[.val (.int q1), .val (.int q2), .val (.long q3), .second, .val (.int q4), .val (.long q5), .second, .val (.long v22), .second, .val (.ref b25), .unset] [(.ref b25)]) (fun t k => XS.aload X43.here hx rfl (hb hby at_48) rfl rfl k) ?_
    refine own_go (mkF m 51 #[.val (.int q1), .val (.int q2), .val (.long q3), .second, .val (.int q4), .val (.long q5), .second, .val (.long v22), .second, .val (.ref b25), .unset] [(.int q1), (.ref b25)]) (fun t k => XS.iloadN X43.here hx rfl (hb hby at_50) rfl k) ?_
    refine own_go (mkF m 52 #[.val (.int q1), .val (.int q2), .val (.long q3), .second, .val (.int q4), .val (.long q5), .second, .val (.long v22), .second, .val (.ref b25), .unset] [(.int q2), (.int q1), (.ref b25)]) (fun t k => XS.iloadN X43.here hx rfl (hb hby at_51) rfl k) ?_
    refine own_callV X43 hx hZ (y := (⟨"com/example/wander_for_faults/wanderforfaults/engine/ExplorationLimits", "allowsCalls", "(II)Z"⟩ : MethodName)) hown (hw _ (List.mem_of_getElem? (i := 23) rfl)) (hw _ (List.mem_of_getElem? (i := 24) rfl)) (hw _ (List.mem_of_getElem? (i := 26) rfl)) (hw _ (List.mem_of_getElem? (i := 25) rfl)) (hw _ (List.mem_of_getElem? (i := 2) rfl)) (hw _ (List.mem_of_getElem? (i := 27) rfl)) (by decide) e43 b25 A25_43 (rm2 l Z a0 hw [] b25 q1 q2 v22 h43 n0 Z0_43 F_path_b25_43) 0 (by decide) (by decide) (by decide) (by decide) (g := (mkF m 52 #[.val (.int q1), .val (.int q2), .val (.long q3), .second, .val (.int q4), .val (.long q5), .second, .val (.long v22), .second, .val (.ref b25), .unset] [(.int q2), (.int q1), (.ref b25)])) rfl (by rw [hml]; rfl) [(.int q1), (.int q2)] [] (lenOf pd0_1 rfl) rfl rfl (by show 2 * 0 + _ ≤ _; exact Nat.le_of_eq rfl) (hb hby at_52) ?_
    intro rv52 T52 h52 L52 X52 e52 hQ52
    obtain ⟨⟨r52_, rfl, hr52⟩, NQ52, eq52⟩ := hQ52
    rw [eq52] at e52
    have rr52 := rng32 r52_
    have N52 := Fr.app N43 NQ52
    show own_Ends p e below s room_1.cells room_1.slots (Q0 Z q1 q2 q3 q4 q5 h0 n0) T52 (mkF m 55 #[.val (.int q1), .val (.int q2), .val (.long q3), .second, .val (.int q4), .val (.long q5), .second, .val (.long v22), .second, .val (.ref b25), .unset] [(.int r52_)])
    refine own_go (mkF m 57 #[.val (.int q1), .val (.int q2), .val (.long q3), .second, .val (.int q4), .val (.long q5), .second, .val (.long v22), .second, .val (.ref b25), .val (.int r52_)] []) (fun t k => XS.istore X52.here hx rfl (hb hby at_55) rfl (l' := #[.val (.int q1), .val (.int q2), .val (.long q3), .second, .val (.int q4), .val (.long q5), .second, .val (.long v22), .second, .val (.ref b25), .val (.int r52_)]) rfl k) ?_
    refine own_go (mkF m 59 #[.val (.int q1), .val (.int q2), .val (.long q3), .second, .val (.int q4), .val (.long q5), .second, .val (.long v22), .second, .val (.ref b25), .val (.int r52_)] [(.int r52_)]) (fun t k => XS.iload X52.here hx rfl (hb hby at_57) rfl k) ?_
    refine own_go (mkF m 60 #[.val (.int q1), .val (.int q2), .val (.long q3), .second, .val (.int q4), .val (.long q5), .second, .val (.long v22), .second, .val (.ref b25), .val (.int r52_)] [(.int q1), (.int r52_)]) (fun t k => XS.iloadN X52.here hx rfl (hb hby at_59) rfl k) ?_
    refine own_go (mkF m 61 #[.val (.int q1), .val (.int q2), .val (.long q3), .second, .val (.int q4), .val (.long q5), .second, .val (.long v22), .second, .val (.ref b25), .val (.int r52_)] [(.int q2), (.int q1), (.int r52_)]) (fun t k => XS.iloadN X52.here hx rfl (hb hby at_60) rfl k) ?_
    refine own_go (mkF m 63 #[.val (.int q1), .val (.int q2), .val (.long q3), .second, .val (.int q4), .val (.long q5), .second, .val (.long v22), .second, .val (.ref b25), .val (.int r52_)] [(.long v22), (.int q2), (.int q1), (.int r52_)]) (fun t k => XS.lload X52.here hx rfl (hb hby at_61) rfl k) ?_
    refine own_callS X52 hx hZ (y := (⟨"com/example/wander_for_faults/wanderforfaults/engine/ExplorationLimitsAllowsCallsPinLaw", "expected", "(IIJ)Z"⟩ : MethodName)) hown (hw _ (List.mem_of_getElem? (i := 28) rfl)) (hw _ (List.mem_of_getElem? (i := 29) rfl)) (hw _ (List.mem_of_getElem? (i := 30) rfl)) (hw _ (List.mem_of_getElem? (i := 31) rfl)) (by decide) e52 (rm3 l Z a0 hw [] q1 q2 v22 h43 n0 Z0_43) 1 (by decide) (by decide) (by decide) (by decide) (g := (mkF m 63 #[.val (.int q1), .val (.int q2), .val (.long q3), .second, .val (.int q4), .val (.long q5), .second, .val (.long v22), .second, .val (.ref b25), .val (.int r52_)] [(.long v22), (.int q2), (.int q1), (.int r52_)])) rfl (by rw [hml]; rfl) [(.int q1), (.int q2), (.long v22)] [(.int r52_)] (lenOf pd0_2 rfl) rfl rfl (by show 2 * 0 + _ ≤ _; exact Nat.le_of_eq rfl) (hb hby at_63) ?_
    intro rv63 T63 h63 L63 X63 e63 hQ63
    obtain ⟨⟨r63, rfl, hr63⟩, NQ63, eq63⟩ := hQ63
    rw [eq63] at e63
    have rr63 := rng32 r63
    have N63 := Fr.app N52 NQ63
    show own_Ends p e below s room_1.cells room_1.slots (Q0 Z q1 q2 q3 q4 q5 h0 n0) T63 (mkF m 66 #[.val (.int q1), .val (.int q2), .val (.long q3), .second, .val (.int q4), .val (.long q5), .second, .val (.long v22), .second, .val (.ref b25), .val (.int r52_)] [(.int r63), (.int r52_)])
    by_cases c66 : r52_.toInt = r63.toInt
    · skip
      refine own_go (mkF m 69 #[.val (.int q1), .val (.int q2), .val (.long q3), .second, .val (.int q4), .val (.long q5), .second, .val (.long v22), .second, .val (.ref b25), .val (.int r52_)] []) (fun t k => XS.icmpNo X63.here hx rfl (hb hby at_66) rfl (own_icF (cd := .ne) (fun q => q c66)) k) ?_
      refine own_go (mkF m 70 #[.val (.int q1), .val (.int q2), .val (.long q3), .second, .val (.int q4), .val (.long q5), .second, .val (.long v22), .second, .val (.ref b25), .val (.int r52_)] [(.int (1 : Int32))]) (fun t k => XS.iconst X63.here hx rfl (hb hby at_69) k) ?_
      refine own_go (mkF m 74 #[.val (.int q1), .val (.int q2), .val (.long q3), .second, .val (.int q4), .val (.long q5), .second, .val (.long v22), .second, .val (.ref b25), .val (.int r52_)] [(.int (1 : Int32))]) (fun t k => XS.goto X63.here hx rfl (pc0 := 70) (pc' := 74) rfl (hb hby at_70) (by decide) (by decide) k) ?_
      refine own_retI X63 hx hlk hret (by simp) rfl (hb hby at_74) (by decide) (by decide) ?_
      rw [e63]
      exact ⟨rfl, N63⟩
    · skip
      refine own_go (mkF m 73 #[.val (.int q1), .val (.int q2), .val (.long q3), .second, .val (.int q4), .val (.long q5), .second, .val (.long v22), .second, .val (.ref b25), .val (.int r52_)] []) (fun t k => XS.icmpYes X63.here hx rfl (pc0 := 66) (pc' := 73) rfl (hb hby at_66) rfl (own_icT (cd := .ne) c66) (by decide) (by decide) k) ?_
      refine own_go (mkF m 74 #[.val (.int q1), .val (.int q2), .val (.long q3), .second, .val (.int q4), .val (.long q5), .second, .val (.long v22), .second, .val (.ref b25), .val (.int r52_)] [(.int (0 : Int32))]) (fun t k => XS.iconst X63.here hx rfl (hb hby at_73) k) ?_
      refine own_retI X63 hx hlk hret (by simp) rfl (hb hby at_74) (by decide) (by decide) ?_
      rw [e63]
      exfalso
      omega
set_option maxRecDepth 65536 in
set_option maxHeartbeats 40000000 in
theorem comes_1 {Post : Tables → Env → Array Value → State → Outcome → State → Prop} (hpost : ∀ tb e args s v u, (limb_1_1.after args s (.returned v) u = true ∧ limb_1_2.after args s (.returned v) u = true ∧ True) → FrameEnd s (.returned v) u (Jvm.fieldLocs frame_1_writes args s ++ Jvm.arrayLocs frame_1_arrays args s ++ Jvm.staticLocs frame_1_statics s) 16 128 → Post tb e args s (.returned v) u) :
    ArmFor flags0 classFile x code maxLocals ret World_1 tables_1 room_1 Calls_1 rest_1 Pre_1 Post := by
  intro l hfl _ _ p e ha hc hk s m args below hf hA hF happ hP
  obtain ⟨hcalls, hrest, hpre⟩ := hP
  obtain ⟨-, -, -, hnamed, -, -, -, hat⟩ := (Spec.applies_iff hf).mp happ
  obtain ⟨hg, hn⟩ := and_e (Cond.before_iff.mp (show (Jvm.Cond.and given_1 narrow_1).before args s = true from hpre))
  obtain ⟨q0, u0⟩ := and_e hg
  obtain ⟨k0, u1⟩ := and_e u0
  obtain ⟨k1, u2⟩ := and_e u1
  obtain ⟨k2, u3⟩ := and_e u2
  obtain ⟨k3, u4⟩ := and_e u3
  obtain ⟨w0, w1, w2, w3, w4, rfl⟩ : ∃ w0 w1 w2 w3 w4 : Value, args = #[w0, w1, w2, w3, w4] := by
    have hs : args.size = 5 := by simpa [Cond.value, given_1] using q0
    obtain ⟨L⟩ := args
    match L, hs with
    | [w0, w1, w2, w3, w4], _ => exact ⟨w0, w1, w2, w3, w4, rfl⟩
  have hw := fun d (hd : d ∈ tables_1) => atoms_spec (ws := Jvm.Cond.code x code maxLocals ret :: tables_1) hat d (List.mem_cons_of_mem _ hd)
  obtain ⟨i0, g0⟩ := is_v k0
  obtain rfl : w0 = (.int i0) := Option.some.inj g0
  obtain ⟨i1, g1⟩ := is_v k1
  obtain rfl : w1 = (.int i1) := Option.some.inj g1
  obtain ⟨i2, g2⟩ := isL_v k2
  obtain rfl : w2 = (.long i2) := Option.some.inj g2
  obtain ⟨i3, g3⟩ := is_v k3
  obtain rfl : w3 = (.int i3) := Option.some.inj g3
  obtain ⟨i4, g4⟩ := isL_v u4
  obtain rfl : w4 = (.long i4) := Option.some.inj g4
  obtain ⟨n, o, h1, h2, h3, _, L, rfl, ⟨rfl, N⟩, hq⟩ := rm0 l s _ hw tables_1 i0 i1 i2 i3 i4 s.heap s.heap.size (Nat.le_refl _)  p e ha hc hk s m _ below hf ((Spec.applies_iff_loose hf).mp happ).1 ⟨rfl, State.Warmed39.refl s, rfl⟩ trivial
  refine ⟨n, _, h1, h2, h3, hpost _ _ _ _ _ _ ⟨Cond.after_iff.mpr rfl, Cond.after_iff.mpr (eq_i res_at (Term.int_eval (1)) rfl), trivial⟩ ⟨hq.1, hq.2.1, (hq.2.2.sift fun y hy => Or.inr (N y hy)).mono (by decide) (by decide)⟩⟩
theorem main_1_1 : Claimed_1_1 := comes_1 fun _ _ _ _ _ _ h hF => ⟨h.1, hF⟩
theorem main_1_2 : Claimed_1_2 := comes_1 fun _ _ _ _ _ _ h hF => ⟨h.2.1, hF⟩
end Jvm.Pilot.@@N@@
namespace Jvm.Pilot.@@N@@
open Jvm Jvm.ClassFile Sem Op Lib Jvm.Free Jvm.Stand Jvm.Pilot.@@N@@.Jvm.D
/-! MADE BY PROGRAM (witnessworld.py) out of the Statement's table words and the real class files: 10 classes; the members and pool entries that the words name. The judged class is class 1, her method 1. -/
namespace start1
open Jvm.ClassFile
def u (s : String) : CpInfo := .utf8 (stringToUtf16 s)
/-- a pool by its gaps: so many unusable entries, then the entry; so many at the end -/
def gap : Nat → List CpInfo → List CpInfo
  | 0, r => r
  | n + 1, r => .unusable :: gap n r
def poolList (es : List (Nat × CpInfo)) (last : Nat) : List CpInfo := es.foldr (fun e r => gap e.1 (e.2 :: r)) (gap last [])
def pool (es : List (Nat × CpInfo)) (last : Nat) : Array CpInfo := ⟨poolList es last⟩
def fileOf (pool : Array CpInfo) (this : Nat) (attrs : Array Attribute := #[]) (ms : Array MethodInfo := #[]) (fl : Nat := 33) (sup : Nat := 0) (ifs : Array Nat := #[]) (fds : Array FieldInfo := #[]) : ClassFile where
  minorVersion := 0
  majorVersion := 65
  constantPool := pool
  accessFlags := fl
  thisClass := this
  superClass := sup
  interfaces := ifs
  fields := fds
  methods := ms
  attributes := attrs
def plain (name : String) (sup : Option ClassId) : Class where
  name := name
  kind := .ordinary
  loader := none
  accessFlags := 33
  super := sup
  interfaces := #[]
  cf := none
  fields := #[]
  methods := #[]
  instanceTypes := #[]
  staticTypes := #[]
  resolved := #[]
  callSites := []
  init := .initialized
  statics := none
  mirror := none

def pool0 : Array CpInfo := pool [(5, u "<init>"), (0, u "()V"), (1, .class_ 10), (1, u "java/lang/Object")] 113

def k0c0 : Code := { maxStack := 0, maxLocals := 1, code := object_method_1_code, exceptionTable := #[], attributes := #[] }
def k0m0 : Method := { name := "<init>", desc := "()V", sig := { parameters := [], returnType := none }, accessFlags := 1, code := some k0c0 }
/-- java/lang/Object -/
def k0 : Class := { plain "java/lang/Object" none with
  accessFlags := 33
  interfaces := #[]
  cf := some (fileOf pool0 8 #[] #[{ accessFlags := 1, nameIndex := 5, descriptorIndex := 6, attributes := #[] }] 33 0 #[] #[])
  fields := #[]
  methods := #[k0m0]
  instanceTypes := #[]
  staticTypes := #[]
  resolved := Array.replicate 124 none
  statics := none }

def pool1 : Array CpInfo := pool [(2, .class_ 4), (1, u "java/lang/Object"), (0, u "<init>"), (0, u "()V"), (0, .class_ 8), (0, u "com/example/wander_for_faults/wanderforfaults/engine/ExplorationLimits"), (0, .long 18446744073709551615), (1, .methodref 7 12), (0, .nameAndType 5 13), (0, u "(JJJJ)V"), (0, .methodref 7 15), (0, .nameAndType 16 17), (0, u "allowsCalls"), (0, u "(II)Z"), (0, .methodref 19 20), (0, .class_ 21), (0, .nameAndType 22 23), (0, u "com/example/wander_for_faults/wanderforfaults/engine/ExplorationLimitsAllowsCallsPinLaw"), (0, u "expected"), (0, u "(IIJ)Z"), (2, .long 9223372036854775807), (3, u "law"), (0, u "(IIJIJ)Z")] 3

def k1m0 : Method := { name := "<init>", desc := "()V", sig := { parameters := [], returnType := none }, accessFlags := 1, code := none }
def k1c1 : Code := { maxStack := 11, maxLocals := 11, code := code, exceptionTable := #[], attributes := #[] }
def k1m1 : Method := { name := "law", desc := "(IIJIJ)Z", sig := { parameters := [.int, .int, .long, .int, .long], returnType := some .boolean }, accessFlags := 9, code := some k1c1 }
def k1c2 : Code := { maxStack := 6, maxLocals := 4, code := method_3_code, exceptionTable := #[], attributes := #[] }
def k1m2 : Method := { name := "expected", desc := "(IIJ)Z", sig := { parameters := [.int, .int, .long], returnType := some .boolean }, accessFlags := 10, code := some k1c2 }
/-- com/example/wander_for_faults/wanderforfaults/engine/ExplorationLimitsAllowsCallsPinLaw -/
def k1 : Class := { plain "com/example/wander_for_faults/wanderforfaults/engine/ExplorationLimitsAllowsCallsPinLaw" (some 0) with
  accessFlags := 49
  interfaces := #[]
  cf := some (fileOf pool1 19 #[] #[{ accessFlags := 1, nameIndex := 5, descriptorIndex := 6, attributes := #[] }, { accessFlags := 9, nameIndex := 30, descriptorIndex := 31, attributes := #[] }, { accessFlags := 10, nameIndex := 22, descriptorIndex := 23, attributes := #[] }] 49 2 #[] #[])
  fields := #[]
  methods := #[k1m0, k1m1, k1m2]
  instanceTypes := #[]
  staticTypes := #[]
  resolved := Array.replicate 35 none
  statics := none }

def pool2 : Array CpInfo := pool [(1, .methodref 2 3), (0, .class_ 4), (0, .nameAndType 5 6), (0, u "java/lang/Object"), (0, u "<init>"), (0, u "()V"), (0, .class_ 8), (0, u "java/lang/Record")] 13

def k2c0 : Code := { maxStack := 1, maxLocals := 1, code := jdk_30_method_1_code, exceptionTable := #[], attributes := #[] }
def k2m0 : Method := { name := "<init>", desc := "()V", sig := { parameters := [], returnType := none }, accessFlags := 4, code := some k2c0 }
/-- java/lang/Record -/
def k2 : Class := { plain "java/lang/Record" (some 0) with
  accessFlags := 1057
  interfaces := #[]
  cf := some (fileOf pool2 7 #[] #[{ accessFlags := 4, nameIndex := 5, descriptorIndex := 6, attributes := #[] }] 1057 2 #[] #[])
  fields := #[]
  methods := #[k2m0]
  instanceTypes := #[]
  staticTypes := #[]
  resolved := Array.replicate 22 none
  statics := none }

def pool3 : Array CpInfo := pool [(1, .methodref 2 3), (0, .class_ 4), (0, .nameAndType 5 6), (0, u "java/lang/Record"), (0, u "<init>"), (0, u "()V"), (0, .fieldref 8 9), (0, .class_ 10), (0, .nameAndType 11 12), (0, u "com/example/wander_for_faults/wanderforfaults/engine/ExplorationLimits"), (0, u "states"), (0, u "J"), (0, .fieldref 8 14), (0, .nameAndType 15 12), (0, u "transitions"), (0, .fieldref 8 17), (0, .nameAndType 18 12), (0, u "path"), (0, .fieldref 8 20), (0, .nameAndType 21 12), (0, u "failures"), (6, u "allowsCalls"), (0, u "(II)Z"), (22, u "(JJJJ)V"), (2, u "DEFAULTS"), (0, u "Lcom/example/wander_for_faults/wanderforfaults/engine/ExplorationLimits;")] 37

def k3c0 : Code := { maxStack := 3, maxLocals := 9, code := prog_56_method_1_code, exceptionTable := #[], attributes := #[] }
def k3m0 : Method := { name := "<init>", desc := "(JJJJ)V", sig := { parameters := [.long, .long, .long, .long], returnType := none }, accessFlags := 1, code := some k3c0 }
def k3c1 : Code := { maxStack := 4, maxLocals := 3, code := prog_56_method_5_code, exceptionTable := #[], attributes := #[] }
def k3m1 : Method := { name := "allowsCalls", desc := "(II)Z", sig := { parameters := [.int, .int], returnType := some .boolean }, accessFlags := 0, code := some k3c1 }
/-- com/example/wander_for_faults/wanderforfaults/engine/ExplorationLimits -/
def k3 : Class := { plain "com/example/wander_for_faults/wanderforfaults/engine/ExplorationLimits" (some 2) with
  accessFlags := 49
  interfaces := #[]
  cf := some (fileOf pool3 8 #[] #[{ accessFlags := 1, nameIndex := 5, descriptorIndex := 52, attributes := #[] }, { accessFlags := 0, nameIndex := 28, descriptorIndex := 29, attributes := #[] }] 49 2 #[] #[{ accessFlags := 18, nameIndex := 11, descriptorIndex := 12, attributes := #[] }, { accessFlags := 18, nameIndex := 15, descriptorIndex := 12, attributes := #[] }, { accessFlags := 18, nameIndex := 18, descriptorIndex := 12, attributes := #[] }, { accessFlags := 18, nameIndex := 21, descriptorIndex := 12, attributes := #[] }, { accessFlags := 25, nameIndex := 55, descriptorIndex := 56, attributes := #[] }])
  fields := #[{ name := "states", type := .long, accessFlags := 18, slot := 0, constantValue := 0 }, { name := "transitions", type := .long, accessFlags := 18, slot := 1, constantValue := 0 }, { name := "path", type := .long, accessFlags := 18, slot := 2, constantValue := 0 }, { name := "failures", type := .long, accessFlags := 18, slot := 3, constantValue := 0 }, { name := "DEFAULTS", type := (.object "com/example/wander_for_faults/wanderforfaults/engine/ExplorationLimits"), accessFlags := 25, slot := 0, constantValue := 0 }]
  methods := #[k3m0, k3m1]
  instanceTypes := #[.long, .long, .long, .long]
  staticTypes := #[(.object "com/example/wander_for_faults/wanderforfaults/engine/ExplorationLimits")]
  resolved := Array.replicate 94 none
  statics := none }

def pool4 : Array CpInfo := pool [(1, u "java/lang/Cloneable"), (0, .class_ 1), (0, u "java/lang/Object"), (0, .class_ 3)] 3

/-- java/lang/Cloneable -/
def k4 : Class := { plain "java/lang/Cloneable" (some 0) with
  accessFlags := 1537
  interfaces := #[]
  cf := some (fileOf pool4 2 #[] #[] 1537 4 #[] #[])
  fields := #[]
  methods := #[]
  instanceTypes := #[]
  staticTypes := #[]
  resolved := Array.replicate 8 none
  statics := none }

def pool5 : Array CpInfo := pool [(1, u "java/io/Serializable"), (0, .class_ 1), (0, u "java/lang/Object"), (0, .class_ 3)] 3

/-- java/io/Serializable -/
def k5 : Class := { plain "java/io/Serializable" (some 0) with
  accessFlags := 1537
  interfaces := #[]
  cf := some (fileOf pool5 2 #[] #[] 1537 4 #[] #[])
  fields := #[]
  methods := #[]
  instanceTypes := #[]
  staticTypes := #[]
  resolved := Array.replicate 8 none
  statics := none }

/-- the primitive byte -/
def k6 : Class := { plain "byte" none with kind := .primitive 'B', accessFlags := 0x411 }
/-- [B -/
def k7 : Class := { plain "[B" (some 0) with kind := .array 6 .byte, interfaces := #[4, 5], accessFlags := 1041 }

/-- the primitive int -/
def k8 : Class := { plain "int" none with kind := .primitive 'I', accessFlags := 0x411 }
/-- [I -/
def k9 : Class := { plain "[I" (some 0) with kind := .array 8 .int, interfaces := #[4, 5], accessFlags := 1041 }

def heap : Heap := #[]
def classes : Array Class := #[k0, k1, k2, k3, k4, k5, k6, k7, k8, k9]
def interned : List (Array UInt16 × Addr) := []
def slotsUsed : Nat := 0
def theMethod : MethodId := ⟨1, 1⟩
def args0 : Array Value := #[.int 5, .int 7, .long 2, .int 3, .long 4]
def aboutOver (below : List Frame) : State where
  vm := { classes := classes, interned := interned.toArray }
  heap := heap
  slotsUsed := slotsUsed
  threads := #[{ frames := .invoking theMethod args0 :: below }]
def below0 : List Frame := [.native { method := ⟨0, 0⟩, args := #[] }]
def about1 : State := aboutOver below0
def p0 : Program := .bare "" "" ""
def e0 : Env := launch0.env 0 0 0
theorem w_frames : about1.frames = Frame.invoking theMethod args0 :: below0 := rfl
set_option maxRecDepth 65536 in
theorem w_args : argsFit about1.vm theMethod args0 = true := by decide +kernel
set_option maxRecDepth 65536 in
theorem w_heap : heapFits about1 = true := by decide +kernel
set_option maxRecDepth 65536 in
theorem w_runnable : about1.curStatus? = some .runnable := by decide +kernel
set_option maxRecDepth 65536 in
theorem w_alone : about1.alone = true := by decide +kernel
set_option maxRecDepth 65536 in
theorem w_named : about1.methodNamed? x = some theMethod := by decide +kernel
set_option maxRecDepth 65536 in
theorem w_hears : about1.hears theMethod below0 = true := by decide +kernel
set_option maxRecDepth 65536 in
theorem w_ripe : about1.ripe theMethod args0 below0 = true := by decide +kernel
theorem w_running : about1.status = .running := rfl
set_option maxRecDepth 65536 in
theorem w_room : about1.hasRoom e0.platform room_1 = true :=
  launch0.hasRoom_least _ room_1 (by decide +kernel) (by decide +kernel) (by decide +kernel) (by decide +kernel) (by decide +kernel) (by decide +kernel)
theorem allAtoms_all (ts : List Jvm.Cond) (a : Array Jvm.Value) (st : Jvm.State) : (allAtoms ts).before a st = ts.all (fun c => c.before a st) := by
  induction ts with
  | nil => rfl
  | cons c t ih =>
    show (Jvm.Cond.and c (allAtoms t)).before a st = _
    rw [Jvm.Cond.before_and, ih, List.all_cons]
def words1 : List Jvm.Cond := Jvm.Cond.code x code maxLocals ret :: tables_1
/-- a 'code' word, met by the world's own term for the bytes: nothing is compared byte by byte -/
theorem code_word {y : MethodName} {bytes : ByteArray} {mx : Nat} {rt : Option FieldType} {a : Array Value} {s : State} {m : MethodId} {meth : Method} {c : Code} (h1 : s.methodNamed? y = some m) (h2 : s.vm.method? m = some meth) (h3 : meth.code = some c) (h4 : c.code = bytes)
    (h5 : (c.maxLocals == mx && c.exceptionTable.isEmpty && decide (c.maxStack ≤ mostOperands) && decide (meth.sig.returnType = rt) && !meth.locks && decide (parseMethodDescriptor y.desc = some meth.sig)) = true) : (Jvm.Cond.code y bytes mx rt).before a s = true := by
  simp only [Bool.and_eq_true, beq_iff_eq, Bool.not_eq_true', decide_eq_true_eq] at h5
  obtain ⟨⟨⟨⟨⟨g1, g2⟩, g3⟩, g4⟩, g5⟩, g6⟩ := h5
  simp [Cond.before, Cond.holds, Cond.value, h1, h2, h3, h4, g1, g2, g3, g4, g5, g6]
def isCode : Jvm.Cond → Bool
  | .code _ _ _ _ => true
  | _ => false
theorem all_split {L : List Jvm.Cond} {P : Jvm.Cond → Bool} (h1 : L.all (fun c => isCode c || P c) = true) (h2 : ∀ c ∈ L.filter isCode, P c = true) : L.all P = true := by
  refine List.all_eq_true.mpr fun c hc => ?_
  have h := List.all_eq_true.mp h1 c hc
  rcases Bool.eq_false_or_eq_true (isCode c) with hi | hi
  · exact h2 c (List.mem_filter.mpr ⟨hc, hi⟩)
  · simpa [hi] using h
set_option maxRecDepth 65536 in
theorem w_c0 : (Jvm.Cond.code x code maxLocals ret).before args0 about1 = true := code_word (m := ⟨1, 1⟩) (meth := k1m1) (c := k1c1) (by decide +kernel) rfl rfl rfl (by decide +kernel)
set_option maxRecDepth 65536 in
theorem w_c1 : (Jvm.Cond.code ({ cls := "com/example/wander_for_faults/wanderforfaults/engine/ExplorationLimits", name := "<init>", desc := "(JJJJ)V" } : Jvm.MethodName) prog_56_method_1_code (9 : Nat) (Option.none : Option Jvm.ClassFile.FieldType)).before args0 about1 = true := code_word (m := ⟨3, 0⟩) (meth := k3m0) (c := k3c0) (by decide +kernel) rfl rfl rfl (by decide +kernel)
set_option maxRecDepth 65536 in
theorem w_c2 : (Jvm.Cond.code ({ cls := "java/lang/Record", name := "<init>", desc := "()V" } : Jvm.MethodName) jdk_30_method_1_code (1 : Nat) (Option.none : Option Jvm.ClassFile.FieldType)).before args0 about1 = true := code_word (m := ⟨2, 0⟩) (meth := k2m0) (c := k2c0) (by decide +kernel) rfl rfl rfl (by decide +kernel)
set_option maxRecDepth 65536 in
theorem w_c3 : (Jvm.Cond.code ({ cls := "java/lang/Object", name := "<init>", desc := "()V" } : Jvm.MethodName) object_method_1_code (1 : Nat) (Option.none : Option Jvm.ClassFile.FieldType)).before args0 about1 = true := code_word (m := ⟨0, 0⟩) (meth := k0m0) (c := k0c0) (by decide +kernel) rfl rfl rfl (by decide +kernel)
set_option maxRecDepth 65536 in
theorem w_c4 : (Jvm.Cond.code ({ cls := "com/example/wander_for_faults/wanderforfaults/engine/ExplorationLimits", name := "allowsCalls", desc := "(II)Z" } : Jvm.MethodName) prog_56_method_5_code (3 : Nat) (Option.some Jvm.ClassFile.FieldType.boolean)).before args0 about1 = true := code_word (m := ⟨3, 1⟩) (meth := k3m1) (c := k3c1) (by decide +kernel) rfl rfl rfl (by decide +kernel)
set_option maxRecDepth 65536 in
theorem w_c5 : (Jvm.Cond.code ({ cls := "com/example/wander_for_faults/wanderforfaults/engine/ExplorationLimitsAllowsCallsPinLaw", name := "expected", desc := "(IIJ)Z" } : Jvm.MethodName) method_3_code (4 : Nat) (Option.some Jvm.ClassFile.FieldType.boolean)).before args0 about1 = true := code_word (m := ⟨1, 2⟩) (meth := k1m2) (c := k1c2) (by decide +kernel) rfl rfl rfl (by decide +kernel)
def codes1 : List Jvm.Cond := [Jvm.Cond.code x code maxLocals ret, Jvm.Cond.code ({ cls := "com/example/wander_for_faults/wanderforfaults/engine/ExplorationLimits", name := "<init>", desc := "(JJJJ)V" } : Jvm.MethodName) prog_56_method_1_code (9 : Nat) (Option.none : Option Jvm.ClassFile.FieldType), Jvm.Cond.code ({ cls := "java/lang/Record", name := "<init>", desc := "()V" } : Jvm.MethodName) jdk_30_method_1_code (1 : Nat) (Option.none : Option Jvm.ClassFile.FieldType), Jvm.Cond.code ({ cls := "java/lang/Object", name := "<init>", desc := "()V" } : Jvm.MethodName) object_method_1_code (1 : Nat) (Option.none : Option Jvm.ClassFile.FieldType), Jvm.Cond.code ({ cls := "com/example/wander_for_faults/wanderforfaults/engine/ExplorationLimits", name := "allowsCalls", desc := "(II)Z" } : Jvm.MethodName) prog_56_method_5_code (3 : Nat) (Option.some Jvm.ClassFile.FieldType.boolean), Jvm.Cond.code ({ cls := "com/example/wander_for_faults/wanderforfaults/engine/ExplorationLimitsAllowsCallsPinLaw", name := "expected", desc := "(IIJ)Z" } : Jvm.MethodName) method_3_code (4 : Nat) (Option.some Jvm.ClassFile.FieldType.boolean)]
set_option maxRecDepth 65536 in
theorem codes_eq : words1.filter isCode = codes1 := rfl
theorem w_codes : ∀ c ∈ words1.filter isCode, c.before args0 about1 = true := by
  rw [codes_eq]
  intro c hc
  simp only [codes1, List.mem_cons, List.not_mem_nil, or_false] at hc
  rcases hc with rfl | rfl | rfl | rfl | rfl | rfl
  · exact w_c0
  · exact w_c1
  · exact w_c2
  · exact w_c3
  · exact w_c4
  · exact w_c5
set_option maxRecDepth 65536 in
theorem w_t1 : (words1.take 24).all (fun c => isCode c || c.before args0 about1) = true := by decide +kernel
set_option maxRecDepth 65536 in
theorem w_t2 : (words1.drop 24).all (fun c => isCode c || c.before args0 about1) = true := by decide +kernel
theorem w_tables : (allAtoms (Jvm.Cond.code x code maxLocals ret :: tables_1)).before args0 about1 = true := by
  rw [allAtoms_all]
  show words1.all (fun c => c.before args0 about1) = true
  refine all_split ?_ w_codes
  rw [← List.take_append_drop 24 words1, List.all_append, w_t1, w_t2]
  rfl
set_option maxRecDepth 65536 in
theorem w_case : (Jvm.Cond.and given_1 narrow_1).before args0 about1 = true := by decide +kernel
theorem w_applies : (headSpec (Jvm.Cond.code x code maxLocals ret :: tables_1) room_1).applies x e0.platform about1 = true :=
  (Spec.applies_iff w_frames).mpr ⟨w_running, w_runnable, w_alone, w_named, w_hears, w_ripe, w_room, w_tables⟩
theorem atStart : AtStart classFile x code maxLocals ret World_1 tables_1 room_1 Calls_1 rest_1 Pre_1 launch0 p0 e0 about1 theMethod args0 below0 :=
  ⟨lists_1, trivial, launch0.admits_env _ _ _, launch0.least_env, fairChoices_fair.cas, fairChoices_fair.clock, w_frames, w_args, w_heap, w_applies, trivial, trivial, w_case⟩
end start1
theorem witness_1 : WitnessClaimed_1 := ⟨start1.p0, start1.e0, start1.about1, start1.theMethod, start1.args0, start1.below0, start1.atStart⟩
end Jvm.Pilot.@@N@@
