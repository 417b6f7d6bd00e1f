import JvmDerived
import JvmDerived.Pilot.@@N@@Statement
import JvmDerived.Pilot.@@N@@Code
set_option linter.unusedVariables false
set_option linter.unusedSimpArgs false
@@BLOCK:NumsL.lean.txt@@
namespace Jvm.OwnKit
open Sem ClassFile Op Lib Jvm.Stand Jvm.Free Jvm.LawKit Jvm.RoadKit
def Go (tb : Tables) (e : Env) (below : List Frame) (P : State → Outcome → Prop) (S : State) : Prop := ∃ U o, Steps tb e below S U ∧ U.status = .running ∧ Ended U below o ∧ P U o
theorem Go.s {tb : Tables} {e : Env} {below : List Frame} {P : State → Outcome → Prop} {S S' : State} (k : ∀ {t : State}, Steps tb e below S' t → Steps tb e below S t) (f : Go tb e below P S') : Go tb e below P S := by
  obtain ⟨U, o, h1, h2⟩ := f
  exact ⟨U, o, k h1, h2⟩
theorem Go.cast {tb : Tables} {e : Env} {below : List Frame} {P : State → Outcome → Prop} {T : State} {g g' : JFrame} (q : g = g') (f : Go tb e below P (T.setTop g')) : Go tb e below P (T.setTop g) := q ▸ f
/-- the contract of a body, at one heap and one list of arguments -/
def Con (l : Launch) (Z : State) (y : MethodName) (bytes : ByteArray) (maxL : Nat) (ret : Option FieldType) (ws : List Jvm.Cond) (rm : Room) (as' : Array Value) (h : Heap) (Q : Option Value → Heap → List Loc → Prop) : Prop :=
  MetFree l y (head1 (Cond.code y bytes maxL ret :: ws) rm) (fun a U => a = as' ∧ Z.Warmed39 U.vm ∧ U.heap = h) (fun _ _ _ _ _ => True) (fun _ U o U' => ∃ v L, o = .returned v ∧ Q v U'.heap L ∧ FrameEnd U o U' L rm.cells rm.slots)
theorem Con.intro {l : Launch} {Z : State} {y : MethodName} {bytes : ByteArray} {maxL : Nat} {ret : Option FieldType} {ws : List Jvm.Cond} {rm : Room} {as' : Array Value} {h : Heap} {Q : Option Value → Heap → List Loc → Prop} (hpn : plainFor y = true)
    (body : ∀ (p : Program) (e : Env) (s : State) (m : MethodId) (below : List Frame) (meth : Method) (c : Code) (s₁ : State) (P : State → Outcome → Prop), p.tables.exec = Jvm.exec → c.code = bytes → c.maxLocals = maxL → s.vm.findClass y.cls = some m.cls → meth.name = y.name → meth.sig.returnType = ret → meth.locks = false → Z.Warmed39 s.vm →
      Stand p l e rm s m as' below meth c s₁ [] 0 0 → s₁.heap = h → (∀ U v L, Q v U.heap L → FrameEnd s (.returned v) U L rm.cells rm.slots → P U (.returned v)) → Go p.tables e below P (s₁.setTop (entryFrame m as' maxL))) :
    Con l Z y bytes maxL ret ws rm as' h Q := by
  refine MetFree.of_bodySF hpn hisR ?_
  intro p e s m args below meth c s₁ Bd hml0 hP hK
  obtain ⟨rfl, hZ, hh⟩ := hP
  exact body p e s m below meth c s₁ _ Bd.exec Bd.bytes hml0 (findClass_of_methodNamed Bd.named) (name_of_methodNamed Bd.named Bd.method).1 Bd.returns (BodyLoose.notSynchronized Bd) hZ (Stand.of_body Bd) (by rw [← hh, Bd.state]; rfl) fun U v L q f => ⟨v, L, rfl, q, f⟩
theorem Con.mono {l : Launch} {Z : State} {y : MethodName} {bytes : ByteArray} {maxL : Nat} {ret : Option FieldType} {ws : List Jvm.Cond} {rm : Room} {as' : Array Value} {h : Heap} {Q Q' : Option Value → Heap → List Loc → Prop} (C : Con l Z y bytes maxL ret ws rm as' h Q) (q : ∀ v h L, Q v h L → Q' v h L) : Con l Z y bytes maxL ret ws rm as' h Q' := by
  intro p e ha hc hk s m args below hf happ hP hK
  obtain ⟨n, o, h1, h2, h3, v, L, h4, h5, h6⟩ := C p e ha hc hk s m args below hf happ hP hK
  exact ⟨n, o, h1, h2, h3, v, L, h4, q _ _ _ h5, h6⟩
def ConH (l : Launch) (Z : State) (y : MethodName) (bytes : ByteArray) (maxL : Nat) (ret : Option FieldType) (hs : List (Nat × Nat × Nat × Nat)) (ws : List Jvm.Cond) (rm : Room) (as' : Array Value) (h : Heap) (Q : Option Value → Heap → List Loc → Prop) : Prop :=
  MetFree l y (head1 (Cond.codeWith y bytes maxL ret hs :: ws) rm) (fun a U => a = as' ∧ Z.Warmed39 U.vm ∧ U.heap = h) (fun _ _ _ _ _ => True) (fun _ U o U' => ∃ v L, o = .returned v ∧ Q v U'.heap L ∧ FrameEnd U o U' L rm.cells rm.slots)
theorem ConH.intro {l : Launch} {Z : State} {y : MethodName} {bytes : ByteArray} {maxL : Nat} {ret : Option FieldType} {hs : List (Nat × Nat × Nat × Nat)} {ws : List Jvm.Cond} {rm : Room} {as' : Array Value} {h : Heap} {Q : Option Value → Heap → List Loc → Prop} (hpn : plainFor y = true)
    (body : ∀ (p : Program) (e : Env) (s : State) (m : MethodId) (below : List Frame) (meth : Method) (c : Code) (s₁ : State) (P : State → Outcome → Prop), p.tables.exec = Jvm.exec → c.code = bytes → c.maxLocals = maxL → s.vm.findClass y.cls = some m.cls → meth.name = y.name → meth.sig.returnType = ret → meth.locks = false → Z.Warmed39 s.vm →
      Stand p l e rm s m as' below meth c s₁ [] 0 0 → s₁.heap = h → (∀ U v L, Q v U.heap L → FrameEnd s (.returned v) U L rm.cells rm.slots → P U (.returned v)) → Go p.tables e below P (s₁.setTop (entryFrame m as' maxL))) :
    ConH l Z y bytes maxL ret hs ws rm as' h Q := by
  refine MetFree.of_bodySF hpn hisWith ?_
  intro p e s m args below meth c s₁ Bd hml0 hP hK
  obtain ⟨rfl, hZ, hh⟩ := hP
  exact body p e s m below meth c s₁ _ Bd.exec Bd.bytes hml0 (findClass_of_methodNamed Bd.named) (name_of_methodNamed Bd.named Bd.method).1 Bd.returns (BodyLoose.notSynchronized Bd) hZ (Stand.of_body Bd) (by rw [← hh, Bd.state]; rfl) fun U v L q f => ⟨v, L, rfl, q, f⟩
section Walk
variable {p : Program} {l : Launch} {e : Env} {R : Room} {s : State} {m : MethodId} {args : Array Value} {below : List Frame} {meth : Method} {c : Code} {T : State} {locs : List Loc} {cells slots : Nat} {P : State → Outcome → Prop} {Z : State} {a0 : Array Value} {h : Heap}
theorem Go.ret (X : Stand p l e R s m args below meth c T locs cells slots) (hx : p.tables.exec = Jvm.exec) (hlk : meth.locks = false) {pc : Nat} {Ls : Array Slot} {w : Value} {t : FieldType} {i : Instr} {rest : List Value} (hret : meth.sig.returnType = some t) (hn : narrow t w = w)
    (hi : (i = .ireturn ∧ (t = .int ∨ t = .boolean ∨ t = .byte ∨ t = .char ∨ t = .short) ∧ ∃ z, w = .int z) ∨ (i = .lreturn ∧ t = .long ∧ ∃ z, w = .long z) ∨ (i = .dreturn ∧ t = .double ∧ ∃ z, w = .double z) ∨ (i = .freturn ∧ t = .float ∧ ∃ z, w = .float z) ∨ (i = .areturn ∧ t.isReference = true ∧ w.isRef = true))
    (hd : decode c.code pc = .ok (i, 1)) (hP : ∀ U : State, U.heap = T.heap → FrameEnd s (.returned (some w)) U locs cells slots → P U (.returned (some w))) : Go p.tables e below P (T.setTop (mkF m pc Ls (w :: rest))) := by
  obtain ⟨fs, hr, hrun, hended, hW, hsame⟩ := X.leave (v := some w) (fun h => by rw [hret] at h; cases h) hlk
  exact ⟨_, _, retOut X hx hret hn hi hd hr, hrun, hended, hP _ rfl ⟨⟨_, rfl⟩, hW, hsame⟩⟩
theorem Go.retI (X : Stand p l e R s m args below meth c T locs cells slots) (hx : p.tables.exec = Jvm.exec) (hlk : meth.locks = false) {pc : Nat} {Ls : Array Slot} {z : Int32} {rest : List Value} (hret : meth.sig.returnType = some .int)
    (hd : decode c.code pc = .ok (.ireturn, 1)) (hP : ∀ U : State, U.heap = T.heap → FrameEnd s (.returned (some (.int z))) U locs cells slots → P U (.returned (some (.int z)))) : Go p.tables e below P (T.setTop (mkF m pc Ls (.int z :: rest))) :=
  Go.ret X hx hlk hret rfl (Or.inl ⟨rfl, Or.inl rfl, _, rfl⟩) hd hP
theorem Go.retZ (X : Stand p l e R s m args below meth c T locs cells slots) (hx : p.tables.exec = Jvm.exec) (hlk : meth.locks = false) {pc : Nat} {Ls : Array Slot} {z : Int32} {rest : List Value} (hret : meth.sig.returnType = some .boolean) (hz : z = 0 ∨ z = 1)
    (hd : decode c.code pc = .ok (.ireturn, 1)) (hP : ∀ U : State, U.heap = T.heap → FrameEnd s (.returned (some (.int z))) U locs cells slots → P U (.returned (some (.int z)))) : Go p.tables e below P (T.setTop (mkF m pc Ls (.int z :: rest))) :=
  Go.ret X hx hlk hret (by rcases hz with rfl | rfl <;> rfl) (Or.inl ⟨rfl, Or.inr (Or.inl rfl), _, rfl⟩) hd hP
theorem Go.retJ (X : Stand p l e R s m args below meth c T locs cells slots) (hx : p.tables.exec = Jvm.exec) (hlk : meth.locks = false) {pc : Nat} {Ls : Array Slot} {z : Int64} {rest : List Value} (hret : meth.sig.returnType = some .long)
    (hd : decode c.code pc = .ok (.lreturn, 1)) (hP : ∀ U : State, U.heap = T.heap → FrameEnd s (.returned (some (.long z))) U locs cells slots → P U (.returned (some (.long z)))) : Go p.tables e below P (T.setTop (mkF m pc Ls (.long z :: rest))) :=
  Go.ret X hx hlk hret rfl (Or.inr (Or.inl ⟨rfl, rfl, _, rfl⟩)) hd hP
theorem Go.retR (X : Stand p l e R s m args below meth c T locs cells slots) (hx : p.tables.exec = Jvm.exec) (hlk : meth.locks = false) {pc : Nat} {Ls : Array Slot} {w : Value} {t : FieldType} {rest : List Value} (hret : meth.sig.returnType = some t) (ht : t.isReference = true) (hw : w.isRef = true)
    (hd : decode c.code pc = .ok (.areturn, 1)) (hP : ∀ U : State, U.heap = T.heap → FrameEnd s (.returned (some w)) U locs cells slots → P U (.returned (some w))) : Go p.tables e below P (T.setTop (mkF m pc Ls (w :: rest))) :=
  Go.ret X hx hlk hret (by rcases ref_cases hw with rfl | ⟨z, rfl⟩ <;> cases t <;> first | rfl | (cases ht)) (Or.inr (Or.inr (Or.inr (Or.inr ⟨rfl, ht, hw⟩)))) hd hP
theorem Go.retV (X : Stand p l e R s m args below meth c T locs cells slots) (hx : p.tables.exec = Jvm.exec) (hlk : meth.locks = false) {pc : Nat} {Ls : Array Slot} (hret : meth.sig.returnType = none)
    (hd : decode c.code pc = .ok (.return_, 1)) (hP : ∀ U : State, U.heap = T.heap → FrameEnd s (.returned none) U locs cells slots → P U (.returned none)) : Go p.tables e below P (T.setTop (mkF m pc Ls [])) := by
  obtain ⟨fs, hr, hrun, hended, hW, hsame⟩ := X.leave (v := none) (fun _ => rfl) hlk
  exact ⟨_, _, X.returnOut hx hret hd hr, hrun, hended, hP _ rfl ⟨⟨_, rfl⟩, hW, hsame⟩⟩
theorem Con.static {y : MethodName} {bytes : ByteArray} {maxL : Nat} {ret : Option FieldType} {rm : Room} {as' : Array Value} {Q : Option Value → Heap → List Loc → Prop} (C : Con l Z y bytes maxL ret [] rm as' h Q)
    (X : Stand p l e R s m args below meth c T locs cells slots) (hx : p.tables.exec = Jvm.exec) (hZ : Z.Warmed39 s.vm) {own : String} {index W : Nat} (hown : s.vm.findClass own = some m.cls)
    (wl : (Cond.methodLink own index y).before a0 Z = true) (wst : (Cond.static y).before a0 Z = true) (wz : (Cond.initialized y.cls).before a0 Z = true) (wc : (Cond.code y bytes maxL ret).before a0 Z = true)
    (hy : y.cls ≠ "java/lang/invoke/MethodHandle" ∧ y.cls ≠ "java/lang/invoke/VarHandle") (hf : rm.frames + 1 ≤ R.frames) (hl : W + (maxL + 11) + rm.locals ≤ R.locals) (hce : cells + rm.cells ≤ R.cells) (hsl : slots + rm.slots ≤ R.slots) (eT : T.heap = h)
    {g : JFrame} (hg : g.method = m) (hsize : g.locals.size = c.maxLocals) {argsL rest : List Value} (has : argsL.toArray = as') (hlen : ∀ sig, parseMethodDescriptor y.desc = some sig → argsL.length = sig.parameters.length)
    (hstack : g.stack = argsL.reverse ++ rest) (hW : 2 * g.monitorRoom + (rest.map fun v => v.category).sum ≤ W) (hdg : decode c.code g.pc = .ok (.invokestatic index, 3)) :
    ∃ (v : Option Value) (T' : State) (L : List Loc), Stand p l e R s m args below meth c T' (locs ++ L) (cells + rm.cells) (slots + rm.slots) ∧ Q v T'.heap L ∧
      ∀ {t : State}, Steps p.tables e below (T'.setTop { g with pc := g.pc + 3, stack := v.toList ++ rest }) t → Steps p.tables e below (T.setTop g) t := by
  obtain ⟨v, vm₁, ⟨T', L', k', n'⟩, -, X', ⟨L, hQ, e1, e2, e3⟩, st⟩ := Jvm.LawKit.callS X hx hown (mvT hZ wl) (mvT hZ wst) (mvT hZ wz) (mvT hZ wc) hy (backOf (W := W) C hZ wc wz hf hl) hg hsize hlen hstack hW hdg (fun _ _ => ⟨has, eT, hce, hsl⟩)
  dsimp only [Pt.U, Pt.locs, Pt.cells, Pt.slots] at X' e1 e2 e3 st hQ
  subst e1 e2 e3
  exact ⟨v, T', L, X', hQ, fun {t} k => st t k⟩
theorem Con.special {y : MethodName} {bytes : ByteArray} {maxL : Nat} {rm : Room} {as' : Array Value} {Q : Option Value → Heap → List Loc → Prop} (C : Con l Z y bytes maxL none [] rm as' h Q) (hy1 : y.name = "<init>")
    (X : Stand p l e R s m args below meth c T locs cells slots) (hx : p.tables.exec = Jvm.exec) (hZ : Z.Warmed39 s.vm) {own : String} {index W : Nat} (hown : s.vm.findClass own = some m.cls)
    (wl : (Cond.methodLink own index y).before a0 Z = true) (wi : (Cond.instanceMethod y).before a0 Z = true) (wz : (Cond.initialized y.cls).before a0 Z = true) (wc : (Cond.code y bytes maxL none).before a0 Z = true)
    (hy : y.cls ≠ "java/lang/invoke/MethodHandle" ∧ y.cls ≠ "java/lang/invoke/VarHandle") (hf : rm.frames + 1 ≤ R.frames) (hl : W + (maxL + 11) + rm.locals ≤ R.locals) (hce : cells + rm.cells ≤ R.cells) (hsl : slots + rm.slots ≤ R.slots) (eT : T.heap = h)
    {g : JFrame} (hg : g.method = m) (hsize : g.locals.size = c.maxLocals) {a : Addr} {argsL rest : List Value} (has : (Value.ref a :: argsL).toArray = as') (hlen : ∀ sig, parseMethodDescriptor y.desc = some sig → argsL.length = sig.parameters.length)
    (hstack : g.stack = argsL.reverse ++ .ref a :: rest) (hW : 2 * g.monitorRoom + (rest.map fun v => v.category).sum ≤ W) (hdg : decode c.code g.pc = .ok (.invokespecial index, 3)) :
    ∃ (v : Option Value) (T' : State) (L : List Loc), Stand p l e R s m args below meth c T' (locs ++ L) (cells + rm.cells) (slots + rm.slots) ∧ Q v T'.heap L ∧
      ∀ {t : State}, Steps p.tables e below (T'.setTop { g with pc := g.pc + 3, stack := v.toList ++ rest }) t → Steps p.tables e below (T.setTop g) t := by
  obtain ⟨v, vm₁, ⟨T', L', k', n'⟩, -, X', ⟨L, hQ, e1, e2, e3⟩, st⟩ := X.specialBack hx hy1 hown (mvT hZ wl) (mvT hZ wi) (mvT hZ wc) hy (backOf (W := W) C hZ wc wz hf hl) hg hsize (Steps.refl _) hlen hstack hW hdg (fun _ _ => ⟨has, eT, hce, hsl⟩)
  dsimp only [Pt.U, Pt.locs, Pt.cells, Pt.slots] at X' e1 e2 e3 st hQ
  subst e1 e2 e3
  exact ⟨v, T', L, X', hQ, fun {t} k => st.trans k⟩
theorem ConH.special {y : MethodName} {bytes : ByteArray} {maxL : Nat} {rm : Room} {as' : Array Value} {Q : Option Value → Heap → List Loc → Prop} {hs : List (Nat × Nat × Nat × Nat)} (C : ConH l Z y bytes maxL none hs [] rm as' h Q) (hy1 : y.name = "<init>")
    (X : Stand p l e R s m args below meth c T locs cells slots) (hx : p.tables.exec = Jvm.exec) (hZ : Z.Warmed39 s.vm) {own : String} {index W : Nat} (hown : s.vm.findClass own = some m.cls)
    (wl : (Cond.methodLink own index y).before a0 Z = true) (wi : (Cond.instanceMethod y).before a0 Z = true) (wz : (Cond.initialized y.cls).before a0 Z = true) (wc : (Cond.codeWith y bytes maxL none hs).before a0 Z = true)
    (hy : y.cls ≠ "java/lang/invoke/MethodHandle" ∧ y.cls ≠ "java/lang/invoke/VarHandle") (hf : rm.frames + 1 ≤ R.frames) (hl : W + (maxL + 11) + rm.locals ≤ R.locals) (hce : cells + rm.cells ≤ R.cells) (hsl : slots + rm.slots ≤ R.slots) (eT : T.heap = h)
    {g : JFrame} (hg : g.method = m) (hsize : g.locals.size = c.maxLocals) {a : Addr} {argsL rest : List Value} (has : (Value.ref a :: argsL).toArray = as') (hlen : ∀ sig, parseMethodDescriptor y.desc = some sig → argsL.length = sig.parameters.length)
    (hstack : g.stack = argsL.reverse ++ .ref a :: rest) (hW : 2 * g.monitorRoom + (rest.map fun v => v.category).sum ≤ W) (hdg : decode c.code g.pc = .ok (.invokespecial index, 3)) :
    ∃ (v : Option Value) (T' : State) (L : List Loc), Stand p l e R s m args below meth c T' (locs ++ L) (cells + rm.cells) (slots + rm.slots) ∧ Q v T'.heap L ∧
      ∀ {t : State}, Steps p.tables e below (T'.setTop { g with pc := g.pc + 3, stack := v.toList ++ rest }) t → Steps p.tables e below (T.setTop g) t := by
  obtain ⟨v, vm₁, ⟨T', L', k', n'⟩, -, X', ⟨L, hQ, e1, e2, e3⟩, st⟩ := X.specialBackH hx hy1 hown (mvT hZ wl) (mvT hZ wi) (mvT hZ wc) hy (backOfWith (W := W) C hZ wc wz hf hl) hg hsize (Steps.refl _) hlen hstack hW hdg (fun _ _ => ⟨has, eT, hce, hsl⟩)
  dsimp only [Pt.U, Pt.locs, Pt.cells, Pt.slots] at X' e1 e2 e3 st hQ
  subst e1 e2 e3
  exact ⟨v, T', L, X', hQ, fun {t} k => st.trans k⟩
theorem Con.virtual {y : MethodName} {bytes : ByteArray} {maxL : Nat} {ret : Option FieldType} {rm : Room} {as' : Array Value} {Q : Option Value → Heap → List Loc → Prop} (K : Con l Z y bytes maxL ret [] rm as' h Q)
    (X : Stand p l e R s m args below meth c T locs cells slots) (hx : p.tables.exec = Jvm.exec) (hZ : Z.Warmed39 s.vm) {own C : String} {index W : Nat} (hown : s.vm.findClass own = some m.cls)
    (wl : (Cond.methodLink own index y).before a0 Z = true) (wd : (Cond.declares y).before a0 Z = true) (wsel : (Cond.selects C y y).before a0 Z = true) (wi : (Cond.instanceMethod y).before a0 Z = true) (wz : (Cond.initialized y.cls).before a0 Z = true) (wc : (Cond.code y bytes maxL ret).before a0 Z = true)
    (hy : y.cls ≠ "java/lang/invoke/MethodHandle" ∧ y.cls ≠ "java/lang/invoke/VarHandle") (hf : rm.frames + 1 ≤ R.frames) (hl : W + (maxL + 11) + rm.locals ≤ R.locals) (hce : cells + rm.cells ≤ R.cells) (hsl : slots + rm.slots ≤ R.slots) (eT : T.heap = h)
    {g : JFrame} (hg : g.method = m) (hsize : g.locals.size = c.maxLocals) {a : Addr} (E : Exa Z h a C) {argsL rest : List Value} (has : (Value.ref a :: argsL).toArray = as') (hlen : ∀ sig, parseMethodDescriptor y.desc = some sig → argsL.length = sig.parameters.length)
    (hstack : g.stack = argsL.reverse ++ .ref a :: rest) (hW : 2 * g.monitorRoom + (rest.map fun v => v.category).sum ≤ W) (hdg : decode c.code g.pc = .ok (.invokevirtual index, 3)) :
    ∃ (v : Option Value) (T' : State) (L : List Loc), Stand p l e R s m args below meth c T' (locs ++ L) (cells + rm.cells) (slots + rm.slots) ∧ Q v T'.heap L ∧
      ∀ {t : State}, Steps p.tables e below (T'.setTop { g with pc := g.pc + 3, stack := v.toList ++ rest }) t → Steps p.tables e below (T.setTop g) t := by
  obtain ⟨cq, kq, qa, qb, qc⟩ := isOf hZ eT E
  obtain ⟨v, vm₁, ⟨T', L', k', n'⟩, -, X', ⟨L, hQ, e1, e2, e3⟩, st⟩ := X.virtualBack hx hown (mvT hZ wl) (mvT hZ wd) (notFace_of_selects (args := #[]) (mvT hZ wsel)) (mvT hZ wsel) (mvT hZ wi) hy (backOf (W := W) K hZ wc wz hf hl) qa qc hg hsize (Steps.refl _) hlen hstack hW hdg (fun _ _ => ⟨has, eT, hce, hsl⟩)
  dsimp only [Pt.U, Pt.locs, Pt.cells, Pt.slots] at X' e1 e2 e3 st hQ
  subst e1 e2 e3
  exact ⟨v, T', L, X', hQ, fun {t} k => st.trans k⟩
theorem Con.priv {y : MethodName} {bytes : ByteArray} {maxL : Nat} {ret : Option FieldType} {rm : Room} {as' : Array Value} {Q : Option Value → Heap → List Loc → Prop} (K : Con l Z y bytes maxL ret [] rm as' h Q)
    (X : Stand p l e R s m args below meth c T locs cells slots) (hx : p.tables.exec = Jvm.exec) (hZ : Z.Warmed39 s.vm) {own C : String} {index W kk : Nat} (hown : s.vm.findClass own = some m.cls)
    (wl : (Cond.methodLink own index y).before a0 Z = true) (wn : (Cond.instantiable y.cls kk).before a0 Z = true) (wp : (Cond.privateMethod y).before a0 Z = true) (wi : (Cond.instanceMethod y).before a0 Z = true) (wz : (Cond.initialized y.cls).before a0 Z = true) (wc : (Cond.code y bytes maxL ret).before a0 Z = true)
    (hy : y.cls ≠ "java/lang/invoke/MethodHandle" ∧ y.cls ≠ "java/lang/invoke/VarHandle") (hf : rm.frames + 1 ≤ R.frames) (hl : W + (maxL + 11) + rm.locals ≤ R.locals) (hce : cells + rm.cells ≤ R.cells) (hsl : slots + rm.slots ≤ R.slots) (eT : T.heap = h)
    {g : JFrame} (hg : g.method = m) (hsize : g.locals.size = c.maxLocals) {a : Addr} (E : Exa Z h a C) {argsL rest : List Value} (has : (Value.ref a :: argsL).toArray = as') (hlen : ∀ sig, parseMethodDescriptor y.desc = some sig → argsL.length = sig.parameters.length)
    (hstack : g.stack = argsL.reverse ++ .ref a :: rest) (hW : 2 * g.monitorRoom + (rest.map fun v => v.category).sum ≤ W) (hdg : decode c.code g.pc = .ok (.invokevirtual index, 3)) :
    ∃ (v : Option Value) (T' : State) (L : List Loc), Stand p l e R s m args below meth c T' (locs ++ L) (cells + rm.cells) (slots + rm.slots) ∧ Q v T'.heap L ∧
      ∀ {t : State}, Steps p.tables e below (T'.setTop { g with pc := g.pc + 3, stack := v.toList ++ rest }) t → Steps p.tables e below (T.setTop g) t := by
  have hpa : s.PrivateAt y := Cond.privateMethod_at (mvP hZ wp (args := args))
  have win : (Cond.instanceMethod y).before args s = true := mvT hZ wi
  have wnn : (Cond.instantiable y.cls kk).before args s = true := mvT hZ wn
  obtain ⟨ci, ki, i1, i2, i3, i4, -⟩ := Cond.instantiable_spec wnn
  have hni : ki.isInterface = false := (Bool.or_eq_false_iff.mp i4).1
  obtain ⟨cl, hcl, hob⟩ := E.cell
  obtain ⟨v, vm₁, ⟨T', L', k', n'⟩, -, X', ⟨L, hQ, e1, e2, e3⟩, st⟩ := X.privateBack hx hown (mvT hZ wl) win (selects_self_of_private i1 i2 hni hpa win hy) hpa (mvT hZ wc) hy (backOf (W := W) K hZ wc wz hf hl) hg hsize (Steps.refl _) (by rw [eT]; exact hcl) hob hlen hstack hW hdg (fun _ _ => ⟨has, eT, hce, hsl⟩)
  dsimp only [Pt.U, Pt.locs, Pt.cells, Pt.slots] at X' e1 e2 e3 st hQ
  subst e1 e2 e3
  exact ⟨v, T', L, X', hQ, fun {t} k => st.trans k⟩
theorem Con.virtualUp {x z : MethodName} {bytes : ByteArray} {maxL : Nat} {ret : Option FieldType} {rm : Room} {as' : Array Value} {Q : Option Value → Heap → List Loc → Prop} (K : Con l Z z bytes maxL ret [] rm as' h Q)
    (X : Stand p l e R s m args below meth c T locs cells slots) (hx : p.tables.exec = Jvm.exec) (hZ : Z.Warmed39 s.vm) {own C owner : String} {index W : Nat} (hown : s.vm.findClass own = some m.cls)
    (wl : (Cond.methodLink own index x).before a0 Z = true) (wsm : (Cond.sameMethod x.cls owner x.name x.desc).before a0 Z = true) (wd : (Cond.declares ⟨owner, x.name, x.desc⟩).before a0 Z = true) (wsel : (Cond.selects C x z).before a0 Z = true) (wi : (Cond.instanceMethod z).before a0 Z = true) (wz : (Cond.initialized z.cls).before a0 Z = true) (wc : (Cond.code z bytes maxL ret).before a0 Z = true)
    (ho : owner ≠ "java/lang/invoke/MethodHandle" ∧ owner ≠ "java/lang/invoke/VarHandle") (hf : rm.frames + 1 ≤ R.frames) (hl : W + (maxL + 11) + rm.locals ≤ R.locals) (hce : cells + rm.cells ≤ R.cells) (hsl : slots + rm.slots ≤ R.slots) (eT : T.heap = h)
    {g : JFrame} (hg : g.method = m) (hsize : g.locals.size = c.maxLocals) {a : Addr} (E : Exa Z h a C) {argsL rest : List Value} (has : (Value.ref a :: argsL).toArray = as') (hlen : ∀ sig, parseMethodDescriptor x.desc = some sig → argsL.length = sig.parameters.length)
    (hstack : g.stack = argsL.reverse ++ .ref a :: rest) (hW : 2 * g.monitorRoom + (rest.map fun v => v.category).sum ≤ W) (hdg : decode c.code g.pc = .ok (.invokevirtual index, 3)) :
    ∃ (v : Option Value) (T' : State) (L : List Loc), Stand p l e R s m args below meth c T' (locs ++ L) (cells + rm.cells) (slots + rm.slots) ∧ Q v T'.heap L ∧
      ∀ {t : State}, Steps p.tables e below (T'.setTop { g with pc := g.pc + 3, stack := v.toList ++ rest }) t → Steps p.tables e below (T.setTop g) t := by
  obtain ⟨cq, kq, qa, qb, qc⟩ := isOf hZ eT E
  obtain ⟨v, vm₁, ⟨T', L', k', n'⟩, -, X', ⟨L, hQ, e1, e2, e3⟩, st⟩ := X.virtualBackUp hx hown (mvT hZ wl) (mvT hZ wsm) (mvT hZ wd) ho (mvT hZ wsel) (mvT hZ wi) (backOf (W := W) K hZ wc wz hf hl) qa qc hg hsize (Steps.refl _) hlen hstack hW hdg (fun _ _ => ⟨has, eT, hce, hsl⟩)
  dsimp only [Pt.U, Pt.locs, Pt.cells, Pt.slots] at X' e1 e2 e3 st hQ
  subst e1 e2 e3
  exact ⟨v, T', L, X', hQ, fun {t} k => st.trans k⟩
/-- the cell of an object is one that the model knows -/
def Kn (h : Heap) (a : Addr) : Prop := ∃ cell : Cell, h[a]? = some cell ∧ cell.vm ≠ .unknown
theorem Kn.of_new {h' : Heap} {a : Addr} (u : ∃ cell : Cell, h'[a]? = some cell ∧ cell.vm = .none ∧ cell.monitor = {}) : Kn h' a := by obtain ⟨c, h1, h2, -⟩ := u; exact ⟨c, h1, by rw [h2]; simp⟩
theorem Kn.ext {h h' : Heap} {a : Addr} (F : Kn h a) (E : Ext h h') : Kn h' a := by obtain ⟨c, h1, h2⟩ := F; exact ⟨c, E.2 _ _ h1, h2⟩
theorem Kn.keep {h h' : Heap} {a : Addr} {ws : List Addr} (F : Kn h a) (K : Keep h h' ws) : Kn h' a := by
  obtain ⟨c, h1, h2⟩ := F; obtain ⟨c', q, -, q2, -⟩ := K.2.2 a c h1; exact ⟨c', q, by rw [q2]; exact h2⟩
theorem Kn.wr {h h' : Heap} {a b : Addr} {sl : Nat} {v : Value} (F : Kn h a) (W : Wr h h' b sl v) : Kn h' a := F.keep (Keep.of_wr W)
theorem Kn.fld {h : Heap} {a : Addr} {O n d : String} {v : Value} {Z : State} (F : Fld Z h a O n d v) : Kn h a := by obtain ⟨c, _, _, _, _, h1, -, -, h4, -⟩ := F; exact ⟨c, h1, h4⟩
theorem lremM {g : JFrame} {target : State} (X : Stand p l e R s m args below meth c T locs cells slots) (hx : p.tables.exec = Jvm.exec) (hg : g.method = m) {x y : Int64} {rest : List Value} (hd : decode c.code g.pc = .ok (.lrem, 1)) (hs : g.stack = .long y :: .long x :: rest) (hy : y ≠ 0)
    (hr : Steps p.tables e below (T.setTop { g with pc := g.pc + 1, stack := .long (x % y) :: rest }) target) : Steps p.tables e below (T.setTop g) target := by
  exact XT.lrem X.here hx hg hd hs hy (by rw [lrem_mod]; exact hr)
theorem Sta.own_keep {Z : State} {h h' : Heap} {C n d : String} {v : Value} {ws : List Addr} (F : Sta Z h C n d v) (K : Keep h h' ws) (q : ∀ a ∈ ws, ∃ C', Exa Z h a C') : Sta Z h' C n d v := by
  obtain ⟨cf, i, k, f, st, cell, h1, h2, h3, h4, h5, h6, h7⟩ := F
  refine ⟨cf, i, k, f, st, cell, h1, h2, h3, h4, K.2.1 st cell h5 fun hm => ?_, h6, h7⟩
  obtain ⟨C', c2, _, g1, -, -, g4, -⟩ := q st hm
  cases h5.symm.trans g1
  rw [h6] at g4; cases g4
theorem own_nar {t : FieldType} {v : Value} (h : v.isRef = true) (ht : t.isReference = true) : narrow t v = v := by
  rcases ref_cases h with rfl | ⟨z, rfl⟩ <;> cases t <;> first | rfl | (cases ht)
theorem own_fit {t : FieldType} {v : Value} (h : v.isRef = true) (ht : t.isReference = true) : fits t v = true := by
  rcases ref_cases h with rfl | ⟨z, rfl⟩ <;> cases t <;> first | rfl | (cases ht)
theorem own_eq_int {t : Term} {k : Int32} {args : Array Value} {first s : State} {o : Option Outcome} {idx : List Nat} (h : (Cond.eq t (Term.int k)).value args first o s idx = some true) : t.eval args first o idx s = some (.int k) := by
  simp only [Cond.value, Term.eval] at h
  cases ht : t.eval args first o idx s with
  | none => simp [ht] at h
  | some x => cases x <;> simp [ht] at h ⊢; exact h
theorem pop2L {g : JFrame} {target : State} (X : Stand p l e R s m args below meth c T locs cells slots) (hx : p.tables.exec = Jvm.exec) (hg : g.method = m) {x : Int64} {rest : List Value} (hd : decode c.code g.pc = .ok (.pop2, 1)) (hs : g.stack = .long x :: rest)
    (hr : Steps p.tables e below (T.setTop { g with pc := g.pc + 1, stack := rest }) target) : Steps p.tables e below (T.setTop g) target := by
  subst hg
  jvm_step X.here [X.here.top, hx, hd, Op.pop2.wp_sem, hs, Value.category]
  exact hr
theorem own_tdiv (D k : Int) : (0 ≤ D ∧ D.tdiv k = D / k) ∨ (D < 0 ∧ D.tdiv k = -((-D) / k)) := by
  rcases Int.lt_or_le D 0 with h | h
  · refine Or.inr ⟨h, ?_⟩
    have e : D.tdiv k = -((-D).tdiv k) := by rw [Int.neg_tdiv]; omega
    rw [e, Int.tdiv_eq_ediv_of_nonneg (by omega)]
  · exact Or.inl ⟨h, Int.tdiv_eq_ediv_of_nonneg h⟩
theorem own_tmod (D k : Int) : (0 ≤ D ∧ D.tmod k = D % k) ∨ (D < 0 ∧ D.tmod k = -((-D) % k)) := by
  rcases Int.lt_or_le D 0 with h | h
  · refine Or.inr ⟨h, ?_⟩
    have e : D.tmod k = -((-D).tmod k) := by rw [Int.neg_tmod]; omega
    rw [e, Int.tmod_eq_emod_of_nonneg (by omega)]
  · exact Or.inl ⟨h, Int.tmod_eq_emod_of_nonneg h⟩
end Walk
end Jvm.OwnKit
namespace Jvm.Pilot.@@N@@
open Jvm Jvm.ClassFile Sem Op Lib Jvm.Free Jvm.Stand Jvm.LawKit Jvm.RoadKit Bundle Jvm.Pilot.@@N@@.Jvm.D Jvm.OwnKit
-- (<init> returns nothing)
theorem own_ef2 (m : MethodId) (a : Addr) : entryFrame m #[(.ref a)] 1 = mkF m 0 #[.val (.ref a)] [] := by
  (first | (simp [entryFrame, mkF, argsToLocals, Value.category]; done) | rfl)
theorem own_pn_0 : plainName "java/lang/Record" = true := by first | (simp [plainName, overriddenIn]; done) | decide +kernel
theorem own_d2_0 : decode jdk_30_method_1_code 0 = .ok (.aload_n 0, 1) := by decide +kernel
theorem own_d2_1 : decode jdk_30_method_1_code 1 = .ok (.invokespecial 1, 3) := by decide +kernel
theorem own_d2_4 : decode jdk_30_method_1_code 4 = .ok (.return_, 1) := by decide +kernel
set_option maxRecDepth 65536 in
set_option maxHeartbeats 40000000 in
theorem own_rm2 (l : Launch) (Z : State) (a0 : Array Value) (hw : ∀ d ∈ tables_1, d.before a0 Z = true) (ws : List Jvm.Cond) (a : Addr) (h0 : Heap) (n0 : Nat) (Z0 : n0 ≤ h0.size)   :
    Con l Z (⟨"java/lang/Record", "<init>", "()V"⟩ : MethodName) jdk_30_method_1_code 1 none ws ({ frames := 1, cells := 0, slots := 0, locals := 12 } : Room) #[(.ref a)] h0 (fun v h L => v = none ∧ Fr n0 L ∧ h = h0) := by
  refine Con.intro (plainFor_of_name own_pn_0) ?_
  intro p e s m below meth c s₁ P hx hby hml hown hnm hret hlk hZ X0 e0 hP
  have N0 := Fr.nil n0
  have hown : s.vm.findClass "java/lang/Record" = some m.cls := hown
  refine Go.cast (own_ef2 m a) ?_
  show Go p.tables e below P (s₁.setTop (mkF m 0 #[.val (.ref a)] []))
  refine Go.s (fun k => XS.aloadN X0.here hx rfl (hb hby own_d2_0) rfl rfl k) ?_
  show Go p.tables e below P (s₁.setTop (mkF m 1 #[.val (.ref a)] [(.ref a)]))
  obtain ⟨T1, X1, e1, st1⟩ := initO X0 hx hZ hown (hw _ (List.mem_of_getElem? (i := 14) rfl)) (hw _ (List.mem_of_getElem? (i := 15) rfl)) (hw _ (List.mem_of_getElem? (i := 16) rfl)) e0 (g := (mkF m 1 #[.val (.ref a)] [(.ref a)])) rfl (by rw [hml]; rfl) rfl (hb hby own_d2_1) (by decide) (W := 0) (by show 2 * 0 + _ ≤ _; exact Nat.le_of_eq rfl) (by decide)
  refine Go.s (fun {t} => st1 t) ?_
  show Go p.tables e below P (T1.setTop (mkF m 4 #[.val (.ref a)] []))
  exact Go.retV X1 hx hlk hret (hb hby own_d2_4) (fun U hU hF => hP U _ _ (by rw [hU, e1]; exact ⟨rfl, N0, rfl⟩) ⟨hF.1, hF.2.1, hF.2.2.mono (by decide) (by decide)⟩)
theorem own_ef1 (m : MethodId) (a : Addr) (le : Int64) (dr : Int32) (dl : Int32) : entryFrame m #[(.ref a), (.long le), (.int dr), (.int dl)] 5 = mkF m 0 #[.val (.ref a), .val (.long le), .second, .val (.int dr), .val (.int dl)] [] := by
  (first | (simp [entryFrame, mkF, argsToLocals, Value.category]; done) | rfl)
theorem own_pn_1 : plainName "com/example/paperwasp/paperwasp/member/Settings" = true := by first | (simp [plainName, overriddenIn]; done) | decide +kernel
theorem own_d1_0 : decode prog_33_method_1_code 0 = .ok (.aload_n 0, 1) := by decide +kernel
theorem own_pd_0 : parseMethodDescriptor "()V" = some ⟨[], none⟩ := by decide +kernel
theorem own_d1_1 : decode prog_33_method_1_code 1 = .ok (.invokespecial 1, 3) := by decide +kernel
theorem own_d1_4 : decode prog_33_method_1_code 4 = .ok (.lload_n 1, 1) := by decide +kernel
theorem own_d1_5 : decode prog_33_method_1_code 5 = .ok (.lconst 1, 1) := by decide +kernel
theorem own_d1_6 : decode prog_33_method_1_code 6 = .ok (.lcmp, 1) := by decide +kernel
theorem own_d1_7 : decode prog_33_method_1_code 7 = .ok (.ifCond .ge 17, 3) := by decide +kernel
theorem own_d1_24 : decode prog_33_method_1_code 24 = .ok (.iload_n 3, 1) := by decide +kernel
theorem own_d1_25 : decode prog_33_method_1_code 25 = .ok (.ifCond .lt 9, 3) := by decide +kernel
theorem own_d1_28 : decode prog_33_method_1_code 28 = .ok (.iload_n 3, 1) := by decide +kernel
theorem own_d1_29 : decode prog_33_method_1_code 29 = .ok (.bipush 99, 2) := by decide +kernel
theorem own_d1_31 : decode prog_33_method_1_code 31 = .ok (.if_icmp .le 17, 3) := by decide +kernel
theorem own_d1_48 : decode prog_33_method_1_code 48 = .ok (.iload 4, 2) := by decide +kernel
theorem own_d1_50 : decode prog_33_method_1_code 50 = .ok (.iconst 1, 1) := by decide +kernel
theorem own_d1_51 : decode prog_33_method_1_code 51 = .ok (.if_icmp .ge 18, 3) := by decide +kernel
theorem own_d1_69 : decode prog_33_method_1_code 69 = .ok (.aload_n 0, 1) := by decide +kernel
theorem own_d1_70 : decode prog_33_method_1_code 70 = .ok (.lload_n 1, 1) := by decide +kernel
theorem own_d1_71 : decode prog_33_method_1_code 71 = .ok (.putfield 20, 3) := by decide +kernel
theorem own_d1_74 : decode prog_33_method_1_code 74 = .ok (.aload_n 0, 1) := by decide +kernel
theorem own_d1_75 : decode prog_33_method_1_code 75 = .ok (.iload_n 3, 1) := by decide +kernel
theorem own_d1_76 : decode prog_33_method_1_code 76 = .ok (.putfield 26, 3) := by decide +kernel
theorem own_d1_79 : decode prog_33_method_1_code 79 = .ok (.aload_n 0, 1) := by decide +kernel
theorem own_d1_80 : decode prog_33_method_1_code 80 = .ok (.iload 4, 2) := by decide +kernel
theorem own_d1_82 : decode prog_33_method_1_code 82 = .ok (.putfield 30, 3) := by decide +kernel
theorem own_d1_85 : decode prog_33_method_1_code 85 = .ok (.return_, 1) := by decide +kernel
set_option maxRecDepth 65536 in
set_option maxHeartbeats 40000000 in
theorem own_rm1 (l : Launch) (Z : State) (a0 : Array Value) (hw : ∀ d ∈ tables_1, d.before a0 Z = true) (ws : List Jvm.Cond) (a : Addr) (le : Int64) (dr : Int32) (dl : Int32) (h0 : Heap) (n0 : Nat) (Z0 : n0 ≤ h0.size) (E0 : Exa Z h0 a "com/example/paperwasp/paperwasp/member/Settings") (U0 : Kn h0 a) (G0 : n0 ≤ a) (hp1 : ¬ le < 1) (hp2 : ¬ dr < 0) (hp3 : ¬ 99 < dr) (hp4 : ¬ dl < 1) :
    Con l Z (⟨"com/example/paperwasp/paperwasp/member/Settings", "<init>", "(JII)V"⟩ : MethodName) prog_33_method_1_code 5 none ws ({ frames := 2, cells := 0, slots := 0, locals := 24 } : Room) #[(.ref a), (.long le), (.int dr), (.int dl)] h0 (fun v h L => v = none ∧ Fr n0 L ∧ Keep h0 h [a] ∧ Fld Z h a "com/example/paperwasp/paperwasp/member/Settings" "driftBound" "I" (.int dr) ∧ Fld Z h a "com/example/paperwasp/paperwasp/member/Settings" "lease" "J" (.long le)) := by
  refine Con.intro (plainFor_of_name own_pn_1) ?_
  intro p e s m below meth c s₁ P hx hby hml hown hnm hret hlk hZ X0 e0 hP
  have N0 := Fr.nil n0
  have hown : s.vm.findClass "com/example/paperwasp/paperwasp/member/Settings" = some m.cls := hown
  refine Go.cast (own_ef1 m a le dr dl) ?_
  show Go p.tables e below P (s₁.setTop (mkF m 0 #[.val (.ref a), .val (.long le), .second, .val (.int dr), .val (.int dl)] []))
  refine Go.s (fun k => XS.aloadN X0.here hx rfl (hb hby own_d1_0) rfl rfl k) ?_
  show Go p.tables e below P (s₁.setTop (mkF m 1 #[.val (.ref a), .val (.long le), .second, .val (.int dr), .val (.int dl)] [(.ref a)]))
  obtain ⟨v1, T1, L1, X1, Q1, st1⟩ := Con.special (own_rm2 l Z a0 hw [] a h0 n0 Z0  ) rfl X0 hx hZ (W := 0) hown (hw _ (List.mem_of_getElem? (i := 9) rfl)) (hw _ (List.mem_of_getElem? (i := 10) rfl)) (hw _ (List.mem_of_getElem? (i := 12) rfl)) (hw _ (List.mem_of_getElem? (i := 13) rfl)) (by decide) (by decide) (by decide) (by decide) (by decide) e0 (g := (mkF m 1 #[.val (.ref a), .val (.long le), .second, .val (.int dr), .val (.int dl)] [(.ref a)])) rfl (by rw [hml]; rfl) (argsL := []) (rest := []) rfl (lenOf own_pd_0 rfl) rfl (by show 2 * 0 + _ ≤ _; exact Nat.le_of_eq rfl) (hb hby own_d1_1)
  obtain ⟨rfl, Nq1, e1⟩ := Q1
  have N1 := Fr.app N0 Nq1
  refine Go.s (fun {t} => st1) ?_
  show Go p.tables e below P (T1.setTop (mkF m 4 #[.val (.ref a), .val (.long le), .second, .val (.int dr), .val (.int dl)] []))
  refine Go.s (fun k => XT.lloadN X1.here hx rfl (hb hby own_d1_4) rfl k) ?_
  show Go p.tables e below P (T1.setTop (mkF m 5 #[.val (.ref a), .val (.long le), .second, .val (.int dr), .val (.int dl)] [(.long le)]))
  refine Go.s (fun k => XT.lconst X1.here hx rfl (hb hby own_d1_5) k) ?_
  show Go p.tables e below P (T1.setTop (mkF m 6 #[.val (.ref a), .val (.long le), .second, .val (.int dr), .val (.int dl)] [(.long (1 : Int64)), (.long le)]))
  refine Go.s (fun k => XT.lcmp X1.here hx rfl (hb hby own_d1_6) rfl k) ?_
  show Go p.tables e below P (T1.setTop (mkF m 7 #[.val (.ref a), .val (.long le), .second, .val (.int dr), .val (.int dl)] [(.int (XT.cmpL le (1 : Int64)))]))
  refine Go.s (fun k => XS.ifYes X1.here hx rfl (pc0 := 7) (pc' := 24) rfl (hb hby own_d1_7) rfl (XT.ll_ge_t hp1) (by decide) (by decide) k) ?_
  show Go p.tables e below P (T1.setTop (mkF m 24 #[.val (.ref a), .val (.long le), .second, .val (.int dr), .val (.int dl)] []))
  refine Go.s (fun k => XS.iloadN X1.here hx rfl (hb hby own_d1_24) rfl k) ?_
  show Go p.tables e below P (T1.setTop (mkF m 25 #[.val (.ref a), .val (.long le), .second, .val (.int dr), .val (.int dl)] [(.int dr)]))
  refine Go.s (fun k => XS.ifNo X1.here hx rfl (hb hby own_d1_25) rfl (XT.i0_lt_f hp2) k) ?_
  show Go p.tables e below P (T1.setTop (mkF m 28 #[.val (.ref a), .val (.long le), .second, .val (.int dr), .val (.int dl)] []))
  refine Go.s (fun k => XS.iloadN X1.here hx rfl (hb hby own_d1_28) rfl k) ?_
  show Go p.tables e below P (T1.setTop (mkF m 29 #[.val (.ref a), .val (.long le), .second, .val (.int dr), .val (.int dl)] [(.int dr)]))
  refine Go.s (fun k => XS.bipush X1.here hx rfl (hb hby own_d1_29) k) ?_
  show Go p.tables e below P (T1.setTop (mkF m 31 #[.val (.ref a), .val (.long le), .second, .val (.int dr), .val (.int dl)] [(.int (99 : Int32)), (.int dr)]))
  refine Go.s (fun k => XS.icmpYes X1.here hx rfl (pc0 := 31) (pc' := 48) rfl (hb hby own_d1_31) rfl (XT.ii_le_t hp3) (by decide) (by decide) k) ?_
  show Go p.tables e below P (T1.setTop (mkF m 48 #[.val (.ref a), .val (.long le), .second, .val (.int dr), .val (.int dl)] []))
  refine Go.s (fun k => XS.iload X1.here hx rfl (hb hby own_d1_48) rfl k) ?_
  show Go p.tables e below P (T1.setTop (mkF m 50 #[.val (.ref a), .val (.long le), .second, .val (.int dr), .val (.int dl)] [(.int dl)]))
  refine Go.s (fun k => XS.iconst X1.here hx rfl (hb hby own_d1_50) k) ?_
  show Go p.tables e below P (T1.setTop (mkF m 51 #[.val (.ref a), .val (.long le), .second, .val (.int dr), .val (.int dl)] [(.int (1 : Int32)), (.int dl)]))
  refine Go.s (fun k => XS.icmpYes X1.here hx rfl (pc0 := 51) (pc' := 69) rfl (hb hby own_d1_51) rfl (XT.ii_ge_t hp4) (by decide) (by decide) k) ?_
  show Go p.tables e below P (T1.setTop (mkF m 69 #[.val (.ref a), .val (.long le), .second, .val (.int dr), .val (.int dl)] []))
  refine Go.s (fun k => XS.aloadN X1.here hx rfl (hb hby own_d1_69) rfl rfl k) ?_
  show Go p.tables e below P (T1.setTop (mkF m 70 #[.val (.ref a), .val (.long le), .second, .val (.int dr), .val (.int dl)] [(.ref a)]))
  refine Go.s (fun k => XT.lloadN X1.here hx rfl (hb hby own_d1_70) rfl k) ?_
  show Go p.tables e below P (T1.setTop (mkF m 71 #[.val (.ref a), .val (.long le), .second, .val (.int dr), .val (.int dl)] [(.long le), (.ref a)]))
  obtain ⟨u2, Fo2⟩ := fld_laid E0 U0 (hw _ (List.mem_of_getElem? (i := 4) rfl)) (Or.inr (hw _ (List.mem_of_getElem? (i := 18) rfl)))
  obtain ⟨T2, H2, X2, e2, W2, st2⟩ := putF X1 hx hZ hown (host := "") (Or.inl (hw _ (List.mem_of_getElem? (i := 17) rfl))) Via.refl e1 Fo2 E0 (Or.inr ⟨(hw _ (List.mem_of_getElem? (i := 18) rfl)), rfl, hnm⟩) (hw _ (List.mem_of_getElem? (i := 4) rfl)) (ty := .long) (by decide) rfl rfl (g := (mkF m 71 #[.val (.ref a), .val (.long le), .second, .val (.int dr), .val (.int dl)] [(.long le), (.ref a)])) rfl rfl (hb hby own_d1_71)
  refine Go.s (fun {t} => st2 t) ?_
  have Fw2 := Fld.same W2 Fo2
  have E0_3 := Exa.wr W2 E0
  have U0_4 := Kn.wr U0 W2
  have N2 := Fr.snoc X2 N1 G0
  have Zs2 := Nat.le_trans Z0 (Keep.of_wr W2).1
  have K2 : Keep h0 H2 [a] := (Keep.refl h0 [a]).wr W2 (Or.inl (List.mem_of_getElem? (i := 0) rfl))
  show Go p.tables e below P (T2.setTop (mkF m 74 #[.val (.ref a), .val (.long le), .second, .val (.int dr), .val (.int dl)] []))
  refine Go.s (fun k => XS.aloadN X2.here hx rfl (hb hby own_d1_74) rfl rfl k) ?_
  show Go p.tables e below P (T2.setTop (mkF m 75 #[.val (.ref a), .val (.long le), .second, .val (.int dr), .val (.int dl)] [(.ref a)]))
  refine Go.s (fun k => XS.iloadN X2.here hx rfl (hb hby own_d1_75) rfl k) ?_
  show Go p.tables e below P (T2.setTop (mkF m 76 #[.val (.ref a), .val (.long le), .second, .val (.int dr), .val (.int dl)] [(.int dr), (.ref a)]))
  obtain ⟨u5, Fo5⟩ := fld_laid E0_3 U0_4 (hw _ (List.mem_of_getElem? (i := 4) rfl)) (Or.inr (hw _ (List.mem_of_getElem? (i := 20) rfl)))
  obtain ⟨T5, H5, X5, e5, W5, st5⟩ := putF X2 hx hZ hown (host := "") (Or.inl (hw _ (List.mem_of_getElem? (i := 19) rfl))) Via.refl e2 Fo5 E0_3 (Or.inr ⟨(hw _ (List.mem_of_getElem? (i := 20) rfl)), rfl, hnm⟩) (hw _ (List.mem_of_getElem? (i := 4) rfl)) (ty := .int) (by decide) rfl rfl (g := (mkF m 76 #[.val (.ref a), .val (.long le), .second, .val (.int dr), .val (.int dl)] [(.int dr), (.ref a)])) rfl rfl (hb hby own_d1_76)
  refine Go.s (fun {t} => st5 t) ?_
  have Fw5 := Fld.same W5 Fo5
  have E0_6 := Exa.wr W5 E0_3
  have U0_7 := Kn.wr U0_4 W5
  have Fw2_8 := Fld.other W5 Fw2 (Or.inr (slot_ne (Or.inr (hw _ (List.mem_of_getElem? (i := 18) rfl))) (Or.inr (hw _ (List.mem_of_getElem? (i := 20) rfl))) (by decide) (t := .long) (t' := .int) (by decide) (by decide)))
  have N5 := Fr.snoc X5 N2 G0
  have Zs5 := Nat.le_trans Zs2 (Keep.of_wr W5).1
  have K5 : Keep h0 H5 [a] := K2.wr W5 (Or.inl (List.mem_of_getElem? (i := 0) rfl))
  show Go p.tables e below P (T5.setTop (mkF m 79 #[.val (.ref a), .val (.long le), .second, .val (.int dr), .val (.int dl)] []))
  refine Go.s (fun k => XS.aloadN X5.here hx rfl (hb hby own_d1_79) rfl rfl k) ?_
  show Go p.tables e below P (T5.setTop (mkF m 80 #[.val (.ref a), .val (.long le), .second, .val (.int dr), .val (.int dl)] [(.ref a)]))
  refine Go.s (fun k => XS.iload X5.here hx rfl (hb hby own_d1_80) rfl k) ?_
  show Go p.tables e below P (T5.setTop (mkF m 82 #[.val (.ref a), .val (.long le), .second, .val (.int dr), .val (.int dl)] [(.int dl), (.ref a)]))
  obtain ⟨u9, Fo9⟩ := fld_laid E0_6 U0_7 (hw _ (List.mem_of_getElem? (i := 4) rfl)) (Or.inr (hw _ (List.mem_of_getElem? (i := 22) rfl)))
  obtain ⟨T9, H9, X9, e9, W9, st9⟩ := putF X5 hx hZ hown (host := "") (Or.inl (hw _ (List.mem_of_getElem? (i := 21) rfl))) Via.refl e5 Fo9 E0_6 (Or.inr ⟨(hw _ (List.mem_of_getElem? (i := 22) rfl)), rfl, hnm⟩) (hw _ (List.mem_of_getElem? (i := 4) rfl)) (ty := .int) (by decide) rfl rfl (g := (mkF m 82 #[.val (.ref a), .val (.long le), .second, .val (.int dr), .val (.int dl)] [(.int dl), (.ref a)])) rfl rfl (hb hby own_d1_82)
  refine Go.s (fun {t} => st9 t) ?_
  have Fw9 := Fld.same W9 Fo9
  have E0_10 := Exa.wr W9 E0_6
  have U0_11 := Kn.wr U0_7 W9
  have Fw2_12 := Fld.other W9 Fw2_8 (Or.inr (slot_ne (Or.inr (hw _ (List.mem_of_getElem? (i := 18) rfl))) (Or.inr (hw _ (List.mem_of_getElem? (i := 22) rfl))) (by decide) (t := .long) (t' := .int) (by decide) (by decide)))
  have Fw5_13 := Fld.other W9 Fw5 (Or.inr (slot_ne (Or.inr (hw _ (List.mem_of_getElem? (i := 20) rfl))) (Or.inr (hw _ (List.mem_of_getElem? (i := 22) rfl))) (by decide) (t := .int) (t' := .int) (by decide) (by decide)))
  have N9 := Fr.snoc X9 N5 G0
  have Zs9 := Nat.le_trans Zs5 (Keep.of_wr W9).1
  have K9 : Keep h0 H9 [a] := K5.wr W9 (Or.inl (List.mem_of_getElem? (i := 0) rfl))
  show Go p.tables e below P (T9.setTop (mkF m 85 #[.val (.ref a), .val (.long le), .second, .val (.int dr), .val (.int dl)] []))
  exact Go.retV X9 hx hlk hret (hb hby own_d1_85) (fun U hU hF => hP U _ _ (by rw [hU, e9]; exact ⟨rfl, N9, K9, Fw5_13, Fw2_12⟩) ⟨hF.1, hF.2.1, hF.2.2.mono (by decide) (by decide)⟩)
def own_f4 (le : Int64) (dr : Int32) : Int64 := ((le * ((100 : Int32) - dr).toInt64) / ((100 : Int32) + dr).toInt64)
theorem own_ef4 (m : MethodId) (a : Addr) : entryFrame m #[(.ref a)] 1 = mkF m 0 #[.val (.ref a)] [] := by
  (first | (simp [entryFrame, mkF, argsToLocals, Value.category]; done) | rfl)
theorem own_d4_0 : decode prog_33_method_2_code 0 = .ok (.aload_n 0, 1) := by decide +kernel
theorem own_d4_1 : decode prog_33_method_2_code 1 = .ok (.getfield 20, 3) := by decide +kernel
theorem own_d4_4 : decode prog_33_method_2_code 4 = .ok (.bipush 100, 2) := by decide +kernel
theorem own_d4_6 : decode prog_33_method_2_code 6 = .ok (.aload_n 0, 1) := by decide +kernel
theorem own_d4_7 : decode prog_33_method_2_code 7 = .ok (.getfield 26, 3) := by decide +kernel
theorem own_d4_10 : decode prog_33_method_2_code 10 = .ok (.isub, 1) := by decide +kernel
theorem own_d4_11 : decode prog_33_method_2_code 11 = .ok (.i2l, 1) := by decide +kernel
theorem own_d4_12 : decode prog_33_method_2_code 12 = .ok (.lmul, 1) := by decide +kernel
theorem own_d4_13 : decode prog_33_method_2_code 13 = .ok (.bipush 100, 2) := by decide +kernel
theorem own_d4_15 : decode prog_33_method_2_code 15 = .ok (.aload_n 0, 1) := by decide +kernel
theorem own_d4_16 : decode prog_33_method_2_code 16 = .ok (.getfield 26, 3) := by decide +kernel
theorem own_d4_19 : decode prog_33_method_2_code 19 = .ok (.iadd, 1) := by decide +kernel
theorem own_d4_20 : decode prog_33_method_2_code 20 = .ok (.i2l, 1) := by decide +kernel
theorem own_d4_21 : decode prog_33_method_2_code 21 = .ok (.ldiv, 1) := by decide +kernel
theorem own_d4_22 : decode prog_33_method_2_code 22 = .ok (.lreturn, 1) := by decide +kernel
set_option maxRecDepth 65536 in
set_option maxHeartbeats 40000000 in
theorem own_rm4 (l : Launch) (Z : State) (a0 : Array Value) (hw : ∀ d ∈ tables_1, d.before a0 Z = true) (ws : List Jvm.Cond) (a : Addr) (le : Int64) (dr : Int32) (h0 : Heap) (n0 : Nat) (Z0 : n0 ≤ h0.size)  (F_lease : Fld Z h0 a "com/example/paperwasp/paperwasp/member/Settings" "lease" "J" (.long le)) (F_driftBound : Fld Z h0 a "com/example/paperwasp/paperwasp/member/Settings" "driftBound" "I" (.int dr)) (hz : ((100 : Int32) + dr).toInt64 ≠ 0) :
    Con l Z (⟨"com/example/paperwasp/paperwasp/member/Settings", "heldLease", "()J"⟩ : MethodName) prog_33_method_2_code 1 (some .long) ws ({ frames := 0, cells := 0, slots := 0, locals := 0 } : Room) #[(.ref a)] h0 (fun v h L => v = some (.long (own_f4 le dr)) ∧ Fr n0 L ∧ h = h0) := by
  refine Con.intro (plainFor_of_name own_pn_1) ?_
  intro p e s m below meth c s₁ P hx hby hml hown hnm hret hlk hZ X0 e0 hP
  have N0 := Fr.nil n0
  have hown : s.vm.findClass "com/example/paperwasp/paperwasp/member/Settings" = some m.cls := hown
  refine Go.cast (own_ef4 m a) ?_
  show Go p.tables e below P (s₁.setTop (mkF m 0 #[.val (.ref a)] []))
  refine Go.s (fun k => XS.aloadN X0.here hx rfl (hb hby own_d4_0) rfl rfl k) ?_
  show Go p.tables e below P (s₁.setTop (mkF m 1 #[.val (.ref a)] [(.ref a)]))
  obtain ⟨T1, X1, e1, st1⟩ := getF X0 hx hZ hown (host := "") (Or.inl (hw _ (List.mem_of_getElem? (i := 17) rfl))) Via.refl e0 F_lease (g := (mkF m 1 #[.val (.ref a)] [(.ref a)])) rfl rfl (hb hby own_d4_1)
  refine Go.s (fun {t} => st1 t) ?_
  show Go p.tables e below P (T1.setTop (mkF m 4 #[.val (.ref a)] [(.long le)]))
  refine Go.s (fun k => XS.bipush X1.here hx rfl (hb hby own_d4_4) k) ?_
  show Go p.tables e below P (T1.setTop (mkF m 6 #[.val (.ref a)] [(.int (100 : Int32)), (.long le)]))
  refine Go.s (fun k => XS.aloadN X1.here hx rfl (hb hby own_d4_6) rfl rfl k) ?_
  show Go p.tables e below P (T1.setTop (mkF m 7 #[.val (.ref a)] [(.ref a), (.int (100 : Int32)), (.long le)]))
  obtain ⟨T2, X2, e2, st2⟩ := getF X1 hx hZ hown (host := "") (Or.inl (hw _ (List.mem_of_getElem? (i := 19) rfl))) Via.refl e1 F_driftBound (g := (mkF m 7 #[.val (.ref a)] [(.ref a), (.int (100 : Int32)), (.long le)])) rfl rfl (hb hby own_d4_7)
  refine Go.s (fun {t} => st2 t) ?_
  show Go p.tables e below P (T2.setTop (mkF m 10 #[.val (.ref a)] [(.int dr), (.int (100 : Int32)), (.long le)]))
  refine Go.s (fun k => XS.isub X2.here hx rfl (hb hby own_d4_10) rfl k) ?_
  show Go p.tables e below P (T2.setTop (mkF m 11 #[.val (.ref a)] [(.int ((100 : Int32) - dr)), (.long le)]))
  refine Go.s (fun k => XT.i2l X2.here hx rfl (hb hby own_d4_11) rfl k) ?_
  show Go p.tables e below P (T2.setTop (mkF m 12 #[.val (.ref a)] [(.long ((100 : Int32) - dr).toInt64), (.long le)]))
  refine Go.s (fun k => XT.lmul X2.here hx rfl (hb hby own_d4_12) rfl k) ?_
  show Go p.tables e below P (T2.setTop (mkF m 13 #[.val (.ref a)] [(.long (le * ((100 : Int32) - dr).toInt64))]))
  refine Go.s (fun k => XS.bipush X2.here hx rfl (hb hby own_d4_13) k) ?_
  show Go p.tables e below P (T2.setTop (mkF m 15 #[.val (.ref a)] [(.int (100 : Int32)), (.long (le * ((100 : Int32) - dr).toInt64))]))
  refine Go.s (fun k => XS.aloadN X2.here hx rfl (hb hby own_d4_15) rfl rfl k) ?_
  show Go p.tables e below P (T2.setTop (mkF m 16 #[.val (.ref a)] [(.ref a), (.int (100 : Int32)), (.long (le * ((100 : Int32) - dr).toInt64))]))
  obtain ⟨T3, X3, e3, st3⟩ := getF X2 hx hZ hown (host := "") (Or.inl (hw _ (List.mem_of_getElem? (i := 19) rfl))) Via.refl e2 F_driftBound (g := (mkF m 16 #[.val (.ref a)] [(.ref a), (.int (100 : Int32)), (.long (le * ((100 : Int32) - dr).toInt64))])) rfl rfl (hb hby own_d4_16)
  refine Go.s (fun {t} => st3 t) ?_
  show Go p.tables e below P (T3.setTop (mkF m 19 #[.val (.ref a)] [(.int dr), (.int (100 : Int32)), (.long (le * ((100 : Int32) - dr).toInt64))]))
  refine Go.s (fun k => XS.iadd X3.here hx rfl (hb hby own_d4_19) rfl k) ?_
  show Go p.tables e below P (T3.setTop (mkF m 20 #[.val (.ref a)] [(.int ((100 : Int32) + dr)), (.long (le * ((100 : Int32) - dr).toInt64))]))
  refine Go.s (fun k => XT.i2l X3.here hx rfl (hb hby own_d4_20) rfl k) ?_
  show Go p.tables e below P (T3.setTop (mkF m 21 #[.val (.ref a)] [(.long ((100 : Int32) + dr).toInt64), (.long (le * ((100 : Int32) - dr).toInt64))]))
  refine Go.s (fun k => XT.ldiv X3.here hx rfl (hb hby own_d4_21) rfl hz k) ?_
  show Go p.tables e below P (T3.setTop (mkF m 22 #[.val (.ref a)] [(.long ((le * ((100 : Int32) - dr).toInt64) / ((100 : Int32) + dr).toInt64))]))
  exact Go.retJ X3 hx hlk hret (hb hby own_d4_22) (fun U hU hF => hP U _ _ (by rw [hU, e3]; exact ⟨congrArg some (congrArg Value.long (Eq.symm (by rw [own_f4]))), N0, rfl⟩) ⟨hF.1, hF.2.1, hF.2.2.mono (by decide) (by decide)⟩)
theorem own_le (q le : Int64) (h : le = (q &&& 36028797018963967) + 1) : 1 ≤ le.toInt ∧ le.toInt ≤ 2 ^ 55 := by
  have e := Jvm.Kit.i64_mask q 36028797018963967 (k := 55) (by decide) (by decide)
  have c1 : (1 : Int64).toInt = 1 := rfl
  rw [h, Jvm.Kit.i64_add (by omega) (by omega)]; omega
theorem own_dr (p d : Int32) (h : d = (p &&& 2147483647) % 100) : 0 ≤ d.toInt ∧ d.toInt ≤ 99 := by
  have e := Jvm.Kit.i32_mask p 2147483647 (k := 31) (by decide) (by decide)
  have c1 : (100 : Int32).toInt = 100 := rfl
  rw [h, Jvm.Kit.i32_rem_nonneg (by omega), c1]; omega
theorem own_dl (p d : Int32) (h : d = (p &&& 1073741823) + 1) : 1 ≤ d.toInt := by
  have e := Jvm.Kit.i32_mask p 1073741823 (k := 30) (by decide) (by decide)
  have c1 : (1 : Int32).toInt = 1 := rfl
  rw [h, Jvm.Kit.i32_add (by omega) (by omega)]; omega
theorem own_pre (le : Int64) (dr dl : Int32) (h1 : 1 ≤ le.toInt ∧ le.toInt ≤ 2 ^ 55) (h2 : 0 ≤ dr.toInt ∧ dr.toInt ≤ 99) (h3 : 1 ≤ dl.toInt) : ¬ le < 1 ∧ ¬ dr < 0 ∧ ¬ 99 < dr ∧ ¬ dl < 1 := by
  have a : (1 : Int64).toInt = 1 := rfl
  have b : (0 : Int32).toInt = 0 := rfl
  have c : (99 : Int32).toInt = 99 := rfl
  have d : (1 : Int32).toInt = 1 := rfl
  simp only [Int64.lt_iff_toInt_lt, Int32.lt_iff_toInt_lt]; omega
theorem own_up (dr : Int32) (h2 : 0 ≤ dr.toInt ∧ dr.toInt ≤ 99) : ((100 : Int32) + dr).toInt64.toInt = 100 + dr.toInt := by
  have c : (100 : Int32).toInt = 100 := rfl
  rw [Jvm.Kit.i64_of_i32, Jvm.Kit.i32_add (by omega) (by omega), c]
theorem own_dn (dr : Int32) (h2 : 0 ≤ dr.toInt ∧ dr.toInt ≤ 99) : ((100 : Int32) - dr).toInt64.toInt = 100 - dr.toInt := by
  have c : (100 : Int32).toInt = 100 := rfl
  rw [Jvm.Kit.i64_of_i32, Jvm.Kit.i32_sub (by omega) (by omega), c]
theorem own_z (dr : Int32) (h2 : 0 ≤ dr.toInt ∧ dr.toInt ≤ 99) : ((100 : Int32) + dr).toInt64 ≠ 0 := by
  intro q
  have e := own_up dr h2
  rw [q] at e
  have c0 : (0 : Int64).toInt = 0 := rfl
  omega
theorem own_plain (A B D : Int) (hA : 1 ≤ A) (hA' : A ≤ 2 ^ 55) (hB : 1 ≤ B) (hB' : B ≤ 100) (hD : 100 ≤ D) (hD' : D ≤ 199) :
    0 ≤ A * B ∧ A * B ≤ 2 ^ 55 * 100 ∧ 0 ≤ A * B / D ∧ A * B / D ≤ A ∧ (A * B / D) * D ≤ A * B ∧ A * B < (A * B / D + 1) * D ∧ (A * B / D + 1) * D ≤ A * B + 199 ∧ 0 ≤ (A * B / D) * D := by
  have n0 : 0 ≤ A * B := Int.mul_nonneg (by omega) (by omega)
  have n1 : A * B ≤ A * 100 := Int.mul_le_mul_of_nonneg_left hB' (by omega)
  have n2 : A * 100 ≤ A * D := Int.mul_le_mul_of_nonneg_left hD (by omega)
  have d := Int.emod_add_mul_ediv (A * B) D
  have m0 := Int.emod_nonneg (A * B) (show D ≠ 0 by omega)
  have m1 := Int.emod_lt_of_pos (A * B) (show 0 < D by omega)
  have c : D * (A * B / D) = (A * B / D) * D := Int.mul_comm _ _
  have e : (A * B / D + 1) * D = (A * B / D) * D + D := by rw [Int.add_mul, Int.one_mul]
  refine ⟨n0, by omega, Int.ediv_nonneg n0 (by omega), Int.ediv_le_of_le_mul (by omega) (by omega), by omega, by omega, by omega, Int.mul_nonneg (Int.ediv_nonneg n0 (by omega)) (by omega)⟩
theorem own_hh (le : Int64) (dr : Int32) (hh : Int64) (h : hh = own_f4 le dr) (h1 : 1 ≤ le.toInt ∧ le.toInt ≤ 2 ^ 55) (h2 : 0 ≤ dr.toInt ∧ dr.toInt ≤ 99) :
    ¬ hh < 0 ∧ ¬ le < hh ∧ ¬ le * ((100 : Int32) - dr).toInt64 < hh * ((100 : Int32) + dr).toInt64 ∧ le * ((100 : Int32) - dr).toInt64 < (hh + 1) * ((100 : Int32) + dr).toInt64 := by
  have u := own_up dr h2
  have d := own_dn dr h2
  obtain ⟨p1, p2, p3, p4, p5, p6, p7, p8⟩ := own_plain le.toInt (100 - dr.toInt) (100 + dr.toInt) h1.1 h1.2 (by omega) (by omega) (by omega) (by omega)
  have c0 : (0 : Int64).toInt = 0 := rfl
  have c1 : (1 : Int64).toInt = 1 := rfl
  have num : (le * ((100 : Int32) - dr).toInt64).toInt = le.toInt * (100 - dr.toInt) := by rw [Jvm.Kit.i64_mul (by rw [d]; omega) (by rw [d]; omega), d]
  have q : hh.toInt = le.toInt * (100 - dr.toInt) / (100 + dr.toInt) := by
    rw [h, own_f4, Jvm.Kit.i64_div (by rw [u]; omega), num, u, Int.tdiv_eq_ediv_of_nonneg p1]
  have s1 : (hh * ((100 : Int32) + dr).toInt64).toInt = hh.toInt * (100 + dr.toInt) := by rw [Jvm.Kit.i64_mul (by rw [u, q]; omega) (by rw [u, q]; omega), u]
  have s2 : (hh + 1).toInt = hh.toInt + 1 := by rw [Jvm.Kit.i64_add (by omega) (by omega), c1]
  have s3 : ((hh + 1) * ((100 : Int32) + dr).toInt64).toInt = (hh.toInt + 1) * (100 + dr.toInt) := by rw [Jvm.Kit.i64_mul (by rw [u, s2, q]; omega) (by rw [u, s2, q]; omega), u, s2]
  simp only [Int64.lt_iff_toInt_lt, num, s1, s3, c0]
  rw [q]
  omega
theorem own_ef0 (m : MethodId) (q0 : Int64) (p1 : Int32) (p2 : Int32) : entryFrame m #[(.long q0), (.int p1), (.int p2)] maxLocals = mkF m 0 #[.val (.long q0), .second, .val (.int p1), .val (.int p2), .unset, .unset, .unset, .unset, .unset, .unset, .unset, .unset, .unset, .unset, .unset] [] := by
  (first | (simp [entryFrame, mkF, argsToLocals, Value.category, maxLocals]; done) | rfl)
theorem own_pn_2 : plainName "com/example/paperwasp/paperwasp/member/SettingsHeldLeasePinLaw" = true := by first | (simp [plainName, overriddenIn]; done) | decide +kernel
theorem own_pd_1 : parseMethodDescriptor "(JII)V" = some ⟨[.long, .int, .int], none⟩ := by decide +kernel
theorem own_pd_2 : parseMethodDescriptor "()J" = some ⟨[], some .long⟩ := by decide +kernel
set_option maxRecDepth 65536 in
set_option maxHeartbeats 40000000 in
theorem own_rm0 (l : Launch) (Z : State) (a0 : Array Value) (hw : ∀ d ∈ tables_1, d.before a0 Z = true) (ws : List Jvm.Cond) (q0 : Int64) (p1 : Int32) (p2 : Int32) (h0 : Heap) (n0 : Nat) (Z0 : n0 ≤ h0.size)  :
    Con l Z x code maxLocals ret ws room_1 #[(.long q0), (.int p1), (.int p2)] h0 (fun v h L => v = some (.int 1) ∧ Fr n0 L) := by
  refine Con.intro (plainFor_of_name own_pn_2) ?_
  intro p e s m below meth c s₁ P hx hby hml hown hnm hret hlk hZ X0 e0 hP
  have N0 := Fr.nil n0
  have hml : c.maxLocals = 15 := hml
  have hown : s.vm.findClass "com/example/paperwasp/paperwasp/member/SettingsHeldLeasePinLaw" = some m.cls := hown
  have hret : meth.sig.returnType = some .boolean := hret
  refine Go.cast (own_ef0 m q0 p1 p2) ?_
  show Go p.tables e below P (s₁.setTop (mkF m 0 #[.val (.long q0), .second, .val (.int p1), .val (.int p2), .unset, .unset, .unset, .unset, .unset, .unset, .unset, .unset, .unset, .unset, .unset] []))
  refine Go.s (fun k => XT.lloadN X0.here hx rfl (hb hby at_0) rfl k) ?_
  show Go p.tables e below P (s₁.setTop (mkF m 1 #[.val (.long q0), .second, .val (.int p1), .val (.int p2), .unset, .unset, .unset, .unset, .unset, .unset, .unset, .unset, .unset, .unset, .unset] [(.long q0)]))
  refine Go.s (fun k => X0.ldc2J hx hown (mvT hZ (hw _ (List.mem_of_getElem? (i := 0) rfl))) rfl (hb hby at_1) k) ?_
  show Go p.tables e below P (s₁.setTop (mkF m 4 #[.val (.long q0), .second, .val (.int p1), .val (.int p2), .unset, .unset, .unset, .unset, .unset, .unset, .unset, .unset, .unset, .unset, .unset] [(.long (36028797018963967 : Int64)), (.long q0)]))
  refine Go.s (fun k => XT.land X0.here hx rfl (hb hby at_4) rfl k) ?_
  show Go p.tables e below P (s₁.setTop (mkF m 5 #[.val (.long q0), .second, .val (.int p1), .val (.int p2), .unset, .unset, .unset, .unset, .unset, .unset, .unset, .unset, .unset, .unset, .unset] [(.long (q0 &&& (36028797018963967 : Int64)))]))
  refine Go.s (fun k => XT.lconst X0.here hx rfl (hb hby at_5) k) ?_
  show Go p.tables e below P (s₁.setTop (mkF m 6 #[.val (.long q0), .second, .val (.int p1), .val (.int p2), .unset, .unset, .unset, .unset, .unset, .unset, .unset, .unset, .unset, .unset, .unset] [(.long (1 : Int64)), (.long (q0 &&& (36028797018963967 : Int64)))]))
  refine Go.s (fun k => XT.ladd X0.here hx rfl (hb hby at_6) rfl k) ?_
  show Go p.tables e below P (s₁.setTop (mkF m 7 #[.val (.long q0), .second, .val (.int p1), .val (.int p2), .unset, .unset, .unset, .unset, .unset, .unset, .unset, .unset, .unset, .unset, .unset] [(.long ((q0 &&& (36028797018963967 : Int64)) + (1 : Int64)))]))
  refine Go.s (fun k => XT.lstore X0.here hx rfl (hb hby at_7) rfl (l' := #[.val (.long q0), .second, .val (.int p1), .val (.int p2), .val (.long ((q0 &&& (36028797018963967 : Int64)) + (1 : Int64))), .second, .unset, .unset, .unset, .unset, .unset, .unset, .unset, .unset, .unset]) rfl k) ?_
  show Go p.tables e below P (s₁.setTop (mkF m 9 #[.val (.long q0), .second, .val (.int p1), .val (.int p2), .val (.long ((q0 &&& (36028797018963967 : Int64)) + (1 : Int64))), .second, .unset, .unset, .unset, .unset, .unset, .unset, .unset, .unset, .unset] []))
  refine (?_ : ∀ le : Int64, le = ((q0 &&& (36028797018963967 : Int64)) + (1 : Int64)) → Go p.tables e below P (s₁.setTop (mkF m 9 #[.val (.long q0), .second, .val (.int p1), .val (.int p2), .val (.long le), .second, .unset, .unset, .unset, .unset, .unset, .unset, .unset, .unset, .unset] []))) _ rfl
  intro le hle
  have h1 := own_le q0 le hle
  refine Go.s (fun k => XS.iloadN X0.here hx rfl (hb hby at_9) rfl k) ?_
  show Go p.tables e below P (s₁.setTop (mkF m 10 #[.val (.long q0), .second, .val (.int p1), .val (.int p2), .val (.long le), .second, .unset, .unset, .unset, .unset, .unset, .unset, .unset, .unset, .unset] [(.int p1)]))
  refine Go.s (fun k => X0.ldcI hx hown (mvT hZ (hw _ (List.mem_of_getElem? (i := 1) rfl))) rfl (hb hby at_10) k) ?_
  show Go p.tables e below P (s₁.setTop (mkF m 12 #[.val (.long q0), .second, .val (.int p1), .val (.int p2), .val (.long le), .second, .unset, .unset, .unset, .unset, .unset, .unset, .unset, .unset, .unset] [(.int (2147483647 : Int32)), (.int p1)]))
  refine Go.s (fun k => XS.iand X0.here hx rfl (hb hby at_12) rfl k) ?_
  show Go p.tables e below P (s₁.setTop (mkF m 13 #[.val (.long q0), .second, .val (.int p1), .val (.int p2), .val (.long le), .second, .unset, .unset, .unset, .unset, .unset, .unset, .unset, .unset, .unset] [(.int (p1 &&& (2147483647 : Int32)))]))
  refine Go.s (fun k => XS.bipush X0.here hx rfl (hb hby at_13) k) ?_
  show Go p.tables e below P (s₁.setTop (mkF m 15 #[.val (.long q0), .second, .val (.int p1), .val (.int p2), .val (.long le), .second, .unset, .unset, .unset, .unset, .unset, .unset, .unset, .unset, .unset] [(.int (100 : Int32)), (.int (p1 &&& (2147483647 : Int32)))]))
  refine Go.s (fun k => iremM X0 hx rfl (hb hby at_15) rfl (by decide) k) ?_
  show Go p.tables e below P (s₁.setTop (mkF m 16 #[.val (.long q0), .second, .val (.int p1), .val (.int p2), .val (.long le), .second, .unset, .unset, .unset, .unset, .unset, .unset, .unset, .unset, .unset] [(.int ((p1 &&& (2147483647 : Int32)) % (100 : Int32)))]))
  refine Go.s (fun k => XS.istore X0.here hx rfl (hb hby at_16) rfl (l' := #[.val (.long q0), .second, .val (.int p1), .val (.int p2), .val (.long le), .second, .val (.int ((p1 &&& (2147483647 : Int32)) % (100 : Int32))), .unset, .unset, .unset, .unset, .unset, .unset, .unset, .unset]) rfl k) ?_
  show Go p.tables e below P (s₁.setTop (mkF m 18 #[.val (.long q0), .second, .val (.int p1), .val (.int p2), .val (.long le), .second, .val (.int ((p1 &&& (2147483647 : Int32)) % (100 : Int32))), .unset, .unset, .unset, .unset, .unset, .unset, .unset, .unset] []))
  refine (?_ : ∀ dr : Int32, dr = ((p1 &&& (2147483647 : Int32)) % (100 : Int32)) → Go p.tables e below P (s₁.setTop (mkF m 18 #[.val (.long q0), .second, .val (.int p1), .val (.int p2), .val (.long le), .second, .val (.int dr), .unset, .unset, .unset, .unset, .unset, .unset, .unset, .unset] []))) _ rfl
  intro dr hdr
  have h2 := own_dr p1 dr hdr
  have hz := own_z dr h2
  refine Go.s (fun k => XS.iloadN X0.here hx rfl (hb hby at_18) rfl k) ?_
  show Go p.tables e below P (s₁.setTop (mkF m 19 #[.val (.long q0), .second, .val (.int p1), .val (.int p2), .val (.long le), .second, .val (.int dr), .unset, .unset, .unset, .unset, .unset, .unset, .unset, .unset] [(.int p2)]))
  refine Go.s (fun k => X0.ldcI hx hown (mvT hZ (hw _ (List.mem_of_getElem? (i := 2) rfl))) rfl (hb hby at_19) k) ?_
  show Go p.tables e below P (s₁.setTop (mkF m 21 #[.val (.long q0), .second, .val (.int p1), .val (.int p2), .val (.long le), .second, .val (.int dr), .unset, .unset, .unset, .unset, .unset, .unset, .unset, .unset] [(.int (1073741823 : Int32)), (.int p2)]))
  refine Go.s (fun k => XS.iand X0.here hx rfl (hb hby at_21) rfl k) ?_
  show Go p.tables e below P (s₁.setTop (mkF m 22 #[.val (.long q0), .second, .val (.int p1), .val (.int p2), .val (.long le), .second, .val (.int dr), .unset, .unset, .unset, .unset, .unset, .unset, .unset, .unset] [(.int (p2 &&& (1073741823 : Int32)))]))
  refine Go.s (fun k => XS.iconst X0.here hx rfl (hb hby at_22) k) ?_
  show Go p.tables e below P (s₁.setTop (mkF m 23 #[.val (.long q0), .second, .val (.int p1), .val (.int p2), .val (.long le), .second, .val (.int dr), .unset, .unset, .unset, .unset, .unset, .unset, .unset, .unset] [(.int (1 : Int32)), (.int (p2 &&& (1073741823 : Int32)))]))
  refine Go.s (fun k => XS.iadd X0.here hx rfl (hb hby at_23) rfl k) ?_
  show Go p.tables e below P (s₁.setTop (mkF m 24 #[.val (.long q0), .second, .val (.int p1), .val (.int p2), .val (.long le), .second, .val (.int dr), .unset, .unset, .unset, .unset, .unset, .unset, .unset, .unset] [(.int ((p2 &&& (1073741823 : Int32)) + (1 : Int32)))]))
  refine Go.s (fun k => XS.istore X0.here hx rfl (hb hby at_24) rfl (l' := #[.val (.long q0), .second, .val (.int p1), .val (.int p2), .val (.long le), .second, .val (.int dr), .val (.int ((p2 &&& (1073741823 : Int32)) + (1 : Int32))), .unset, .unset, .unset, .unset, .unset, .unset, .unset]) rfl k) ?_
  show Go p.tables e below P (s₁.setTop (mkF m 26 #[.val (.long q0), .second, .val (.int p1), .val (.int p2), .val (.long le), .second, .val (.int dr), .val (.int ((p2 &&& (1073741823 : Int32)) + (1 : Int32))), .unset, .unset, .unset, .unset, .unset, .unset, .unset] []))
  refine (?_ : ∀ dl : Int32, dl = ((p2 &&& (1073741823 : Int32)) + (1 : Int32)) → Go p.tables e below P (s₁.setTop (mkF m 26 #[.val (.long q0), .second, .val (.int p1), .val (.int p2), .val (.long le), .second, .val (.int dr), .val (.int dl), .unset, .unset, .unset, .unset, .unset, .unset, .unset] []))) _ rfl
  intro dl hdl
  have h3 := own_dl p2 dl hdl
  obtain ⟨hp1, hp2, hp3, hp4⟩ := own_pre le dr dl h1 h2 h3
  obtain ⟨T1, H1, X1, e1, E1, A1, D1, U1, st1⟩ := newO X0 hx hZ hown (hw _ (List.mem_of_getElem? (i := 3) rfl)) (hw _ (List.mem_of_getElem? (i := 4) rfl)) (hw _ (List.mem_of_getElem? (i := 5) rfl)) e0 (g := (mkF m 26 #[.val (.long q0), .second, .val (.int p1), .val (.int p2), .val (.long le), .second, .val (.int dr), .val (.int dl), .unset, .unset, .unset, .unset, .unset, .unset, .unset] [])) rfl (hb hby at_26) (by decide) (by decide)
  refine Go.s (fun {t} => st1 t) ?_
  obtain ⟨b1, g1⟩ : ∃ z, z = h0.size := ⟨_, rfl⟩
  rw [← g1] at A1 D1 U1
  rw [← g1]
  have G_b1 : n0 ≤ b1 := Nat.le_trans Z0 (Nat.le_of_eq g1.symm)
  have Zs1 := Nat.le_trans Z0 E1.1
  have Kn1 := Kn.of_new U1
  show Go p.tables e below P (T1.setTop (mkF m 29 #[.val (.long q0), .second, .val (.int p1), .val (.int p2), .val (.long le), .second, .val (.int dr), .val (.int dl), .unset, .unset, .unset, .unset, .unset, .unset, .unset] [(.ref b1)]))
  refine Go.s (fun k => XS.dup X1.here hx rfl (hb hby at_29) rfl rfl k) ?_
  show Go p.tables e below P (T1.setTop (mkF m 30 #[.val (.long q0), .second, .val (.int p1), .val (.int p2), .val (.long le), .second, .val (.int dr), .val (.int dl), .unset, .unset, .unset, .unset, .unset, .unset, .unset] [(.ref b1), (.ref b1)]))
  refine Go.s (fun k => XT.lload X1.here hx rfl (hb hby at_30) rfl k) ?_
  show Go p.tables e below P (T1.setTop (mkF m 32 #[.val (.long q0), .second, .val (.int p1), .val (.int p2), .val (.long le), .second, .val (.int dr), .val (.int dl), .unset, .unset, .unset, .unset, .unset, .unset, .unset] [(.long le), (.ref b1), (.ref b1)]))
  refine Go.s (fun k => XS.iload X1.here hx rfl (hb hby at_32) rfl k) ?_
  show Go p.tables e below P (T1.setTop (mkF m 34 #[.val (.long q0), .second, .val (.int p1), .val (.int p2), .val (.long le), .second, .val (.int dr), .val (.int dl), .unset, .unset, .unset, .unset, .unset, .unset, .unset] [(.int dr), (.long le), (.ref b1), (.ref b1)]))
  refine Go.s (fun k => XS.iload X1.here hx rfl (hb hby at_34) rfl k) ?_
  show Go p.tables e below P (T1.setTop (mkF m 36 #[.val (.long q0), .second, .val (.int p1), .val (.int p2), .val (.long le), .second, .val (.int dr), .val (.int dl), .unset, .unset, .unset, .unset, .unset, .unset, .unset] [(.int dl), (.int dr), (.long le), (.ref b1), (.ref b1)]))
  obtain ⟨v2, T2, L2, X2, Q2, st2⟩ := Con.special (own_rm1 l Z a0 hw [] b1 le dr dl H1 n0 Zs1 A1 Kn1 G_b1  hp1 hp2 hp3 hp4) rfl X1 hx hZ (W := 1) hown (hw _ (List.mem_of_getElem? (i := 6) rfl)) (hw _ (List.mem_of_getElem? (i := 7) rfl)) (hw _ (List.mem_of_getElem? (i := 5) rfl)) (hw _ (List.mem_of_getElem? (i := 8) rfl)) (by decide) (by decide) (by decide) (by decide) (by decide) e1 (g := (mkF m 36 #[.val (.long q0), .second, .val (.int p1), .val (.int p2), .val (.long le), .second, .val (.int dr), .val (.int dl), .unset, .unset, .unset, .unset, .unset, .unset, .unset] [(.int dl), (.int dr), (.long le), (.ref b1), (.ref b1)])) rfl (by rw [hml]; rfl) (argsL := [(.long le), (.int dr), (.int dl)]) (rest := [(.ref b1)]) rfl (lenOf own_pd_1 rfl) rfl (by show 2 * 0 + _ ≤ _; exact Nat.le_of_eq rfl) (hb hby at_36)
  obtain ⟨H2, e2⟩ : ∃ z, T2.heap = z := ⟨_, rfl⟩
  rw [e2] at Q2
  obtain ⟨rfl, Nq2, Kq2, Fq2_driftBound, Fq2_lease⟩ := Q2
  have N2 := Fr.app N0 Nq2
  have Zs2 := Nat.le_trans Zs1 Kq2.1
  have A1_3 := Exa.keep A1 Kq2
  have Kn1_4 := Kn.keep Kn1 Kq2
  refine Go.s (fun {t} => st2) ?_
  show Go p.tables e below P (T2.setTop (mkF m 39 #[.val (.long q0), .second, .val (.int p1), .val (.int p2), .val (.long le), .second, .val (.int dr), .val (.int dl), .unset, .unset, .unset, .unset, .unset, .unset, .unset] [(.ref b1)]))
  refine Go.s (fun k => XS.astore X2.here hx rfl (hb hby at_39) rfl rfl (l' := #[.val (.long q0), .second, .val (.int p1), .val (.int p2), .val (.long le), .second, .val (.int dr), .val (.int dl), .val (.ref b1), .unset, .unset, .unset, .unset, .unset, .unset]) rfl k) ?_
  show Go p.tables e below P (T2.setTop (mkF m 41 #[.val (.long q0), .second, .val (.int p1), .val (.int p2), .val (.long le), .second, .val (.int dr), .val (.int dl), .val (.ref b1), .unset, .unset, .unset, .unset, .unset, .unset] []))
  refine Go.s (fun k => XS.aload X2.here hx rfl (hb hby at_41) rfl rfl k) ?_
  show Go p.tables e below P (T2.setTop (mkF m 43 #[.val (.long q0), .second, .val (.int p1), .val (.int p2), .val (.long le), .second, .val (.int dr), .val (.int dl), .val (.ref b1), .unset, .unset, .unset, .unset, .unset, .unset] [(.ref b1)]))
  obtain ⟨v5, T5, L5, X5, Q5, st5⟩ := Con.virtual (own_rm4 l Z a0 hw [] b1 le dr H2 n0 Zs2 Fq2_lease Fq2_driftBound hz) X2 hx hZ (W := 0) hown (hw _ (List.mem_of_getElem? (i := 23) rfl)) (hw _ (List.mem_of_getElem? (i := 24) rfl)) (hw _ (List.mem_of_getElem? (i := 26) rfl)) (hw _ (List.mem_of_getElem? (i := 25) rfl)) (hw _ (List.mem_of_getElem? (i := 5) rfl)) (hw _ (List.mem_of_getElem? (i := 27) rfl)) (by decide) (by decide) (by decide) (by decide) (by decide) e2 (g := (mkF m 43 #[.val (.long q0), .second, .val (.int p1), .val (.int p2), .val (.long le), .second, .val (.int dr), .val (.int dl), .val (.ref b1), .unset, .unset, .unset, .unset, .unset, .unset] [(.ref b1)])) rfl (by rw [hml]; rfl) A1_3 (argsL := []) (rest := []) rfl (lenOf own_pd_2 rfl) rfl (by show 2 * 0 + _ ≤ _; exact Nat.le_of_eq rfl) (hb hby at_43)
  obtain ⟨rfl, Nq5, e5⟩ := Q5
  have N5 := Fr.app N2 Nq5
  refine Go.s (fun {t} => st5) ?_
  show Go p.tables e below P (T5.setTop (mkF m 46 #[.val (.long q0), .second, .val (.int p1), .val (.int p2), .val (.long le), .second, .val (.int dr), .val (.int dl), .val (.ref b1), .unset, .unset, .unset, .unset, .unset, .unset] [(.long (own_f4 le dr))]))
  refine Go.s (fun k => XT.lstore X5.here hx rfl (hb hby at_46) rfl (l' := #[.val (.long q0), .second, .val (.int p1), .val (.int p2), .val (.long le), .second, .val (.int dr), .val (.int dl), .val (.ref b1), .val (.long (own_f4 le dr)), .second, .unset, .unset, .unset, .unset]) rfl k) ?_
  show Go p.tables e below P (T5.setTop (mkF m 48 #[.val (.long q0), .second, .val (.int p1), .val (.int p2), .val (.long le), .second, .val (.int dr), .val (.int dl), .val (.ref b1), .val (.long (own_f4 le dr)), .second, .unset, .unset, .unset, .unset] []))
  refine (?_ : ∀ hh : Int64, hh = (own_f4 le dr) → Go p.tables e below P (T5.setTop (mkF m 48 #[.val (.long q0), .second, .val (.int p1), .val (.int p2), .val (.long le), .second, .val (.int dr), .val (.int dl), .val (.ref b1), .val (.long hh), .second, .unset, .unset, .unset, .unset] []))) _ rfl
  intro hh hhh
  obtain ⟨k1, k2, k3, k4⟩ := own_hh le dr hh hhh h1 h2
  refine Go.s (fun k => XT.lload X5.here hx rfl (hb hby at_48) rfl k) ?_
  show Go p.tables e below P (T5.setTop (mkF m 50 #[.val (.long q0), .second, .val (.int p1), .val (.int p2), .val (.long le), .second, .val (.int dr), .val (.int dl), .val (.ref b1), .val (.long hh), .second, .unset, .unset, .unset, .unset] [(.long hh)]))
  refine Go.s (fun k => XT.lconst X5.here hx rfl (hb hby at_50) k) ?_
  show Go p.tables e below P (T5.setTop (mkF m 51 #[.val (.long q0), .second, .val (.int p1), .val (.int p2), .val (.long le), .second, .val (.int dr), .val (.int dl), .val (.ref b1), .val (.long hh), .second, .unset, .unset, .unset, .unset] [(.long (0 : Int64)), (.long hh)]))
  refine Go.s (fun k => XT.lcmp X5.here hx rfl (hb hby at_51) rfl k) ?_
  show Go p.tables e below P (T5.setTop (mkF m 52 #[.val (.long q0), .second, .val (.int p1), .val (.int p2), .val (.long le), .second, .val (.int dr), .val (.int dl), .val (.ref b1), .val (.long hh), .second, .unset, .unset, .unset, .unset] [(.int (XT.cmpL hh (0 : Int64)))]))
  refine Go.s (fun k => XS.ifNo X5.here hx rfl (hb hby at_52) rfl (XT.ll_lt_f k1) k) ?_
  show Go p.tables e below P (T5.setTop (mkF m 55 #[.val (.long q0), .second, .val (.int p1), .val (.int p2), .val (.long le), .second, .val (.int dr), .val (.int dl), .val (.ref b1), .val (.long hh), .second, .unset, .unset, .unset, .unset] []))
  refine Go.s (fun k => XT.lload X5.here hx rfl (hb hby at_55) rfl k) ?_
  show Go p.tables e below P (T5.setTop (mkF m 57 #[.val (.long q0), .second, .val (.int p1), .val (.int p2), .val (.long le), .second, .val (.int dr), .val (.int dl), .val (.ref b1), .val (.long hh), .second, .unset, .unset, .unset, .unset] [(.long hh)]))
  refine Go.s (fun k => XT.lload X5.here hx rfl (hb hby at_57) rfl k) ?_
  show Go p.tables e below P (T5.setTop (mkF m 59 #[.val (.long q0), .second, .val (.int p1), .val (.int p2), .val (.long le), .second, .val (.int dr), .val (.int dl), .val (.ref b1), .val (.long hh), .second, .unset, .unset, .unset, .unset] [(.long le), (.long hh)]))
  refine Go.s (fun k => XT.lcmp X5.here hx rfl (hb hby at_59) rfl k) ?_
  show Go p.tables e below P (T5.setTop (mkF m 60 #[.val (.long q0), .second, .val (.int p1), .val (.int p2), .val (.long le), .second, .val (.int dr), .val (.int dl), .val (.ref b1), .val (.long hh), .second, .unset, .unset, .unset, .unset] [(.int (XT.cmpL hh le))]))
  refine Go.s (fun k => XS.ifYes X5.here hx rfl (pc0 := 60) (pc' := 65) rfl (hb hby at_60) rfl (XT.ll_le_t k2) (by decide) (by decide) k) ?_
  show Go p.tables e below P (T5.setTop (mkF m 65 #[.val (.long q0), .second, .val (.int p1), .val (.int p2), .val (.long le), .second, .val (.int dr), .val (.int dl), .val (.ref b1), .val (.long hh), .second, .unset, .unset, .unset, .unset] []))
  refine Go.s (fun k => XT.lload X5.here hx rfl (hb hby at_65) rfl k) ?_
  show Go p.tables e below P (T5.setTop (mkF m 67 #[.val (.long q0), .second, .val (.int p1), .val (.int p2), .val (.long le), .second, .val (.int dr), .val (.int dl), .val (.ref b1), .val (.long hh), .second, .unset, .unset, .unset, .unset] [(.long le)]))
  refine Go.s (fun k => XS.bipush X5.here hx rfl (hb hby at_67) k) ?_
  show Go p.tables e below P (T5.setTop (mkF m 69 #[.val (.long q0), .second, .val (.int p1), .val (.int p2), .val (.long le), .second, .val (.int dr), .val (.int dl), .val (.ref b1), .val (.long hh), .second, .unset, .unset, .unset, .unset] [(.int (100 : Int32)), (.long le)]))
  refine Go.s (fun k => XS.iload X5.here hx rfl (hb hby at_69) rfl k) ?_
  show Go p.tables e below P (T5.setTop (mkF m 71 #[.val (.long q0), .second, .val (.int p1), .val (.int p2), .val (.long le), .second, .val (.int dr), .val (.int dl), .val (.ref b1), .val (.long hh), .second, .unset, .unset, .unset, .unset] [(.int dr), (.int (100 : Int32)), (.long le)]))
  refine Go.s (fun k => XS.isub X5.here hx rfl (hb hby at_71) rfl k) ?_
  show Go p.tables e below P (T5.setTop (mkF m 72 #[.val (.long q0), .second, .val (.int p1), .val (.int p2), .val (.long le), .second, .val (.int dr), .val (.int dl), .val (.ref b1), .val (.long hh), .second, .unset, .unset, .unset, .unset] [(.int ((100 : Int32) - dr)), (.long le)]))
  refine Go.s (fun k => XT.i2l X5.here hx rfl (hb hby at_72) rfl k) ?_
  show Go p.tables e below P (T5.setTop (mkF m 73 #[.val (.long q0), .second, .val (.int p1), .val (.int p2), .val (.long le), .second, .val (.int dr), .val (.int dl), .val (.ref b1), .val (.long hh), .second, .unset, .unset, .unset, .unset] [(.long ((100 : Int32) - dr).toInt64), (.long le)]))
  refine Go.s (fun k => XT.lmul X5.here hx rfl (hb hby at_73) rfl k) ?_
  show Go p.tables e below P (T5.setTop (mkF m 74 #[.val (.long q0), .second, .val (.int p1), .val (.int p2), .val (.long le), .second, .val (.int dr), .val (.int dl), .val (.ref b1), .val (.long hh), .second, .unset, .unset, .unset, .unset] [(.long (le * ((100 : Int32) - dr).toInt64))]))
  refine Go.s (fun k => XT.lstore X5.here hx rfl (hb hby at_74) rfl (l' := #[.val (.long q0), .second, .val (.int p1), .val (.int p2), .val (.long le), .second, .val (.int dr), .val (.int dl), .val (.ref b1), .val (.long hh), .second, .val (.long (le * ((100 : Int32) - dr).toInt64)), .second, .unset, .unset]) rfl k) ?_
  show Go p.tables e below P (T5.setTop (mkF m 76 #[.val (.long q0), .second, .val (.int p1), .val (.int p2), .val (.long le), .second, .val (.int dr), .val (.int dl), .val (.ref b1), .val (.long hh), .second, .val (.long (le * ((100 : Int32) - dr).toInt64)), .second, .unset, .unset] []))
  refine Go.s (fun k => XS.bipush X5.here hx rfl (hb hby at_76) k) ?_
  show Go p.tables e below P (T5.setTop (mkF m 78 #[.val (.long q0), .second, .val (.int p1), .val (.int p2), .val (.long le), .second, .val (.int dr), .val (.int dl), .val (.ref b1), .val (.long hh), .second, .val (.long (le * ((100 : Int32) - dr).toInt64)), .second, .unset, .unset] [(.int (100 : Int32))]))
  refine Go.s (fun k => XS.iload X5.here hx rfl (hb hby at_78) rfl k) ?_
  show Go p.tables e below P (T5.setTop (mkF m 80 #[.val (.long q0), .second, .val (.int p1), .val (.int p2), .val (.long le), .second, .val (.int dr), .val (.int dl), .val (.ref b1), .val (.long hh), .second, .val (.long (le * ((100 : Int32) - dr).toInt64)), .second, .unset, .unset] [(.int dr), (.int (100 : Int32))]))
  refine Go.s (fun k => XS.iadd X5.here hx rfl (hb hby at_80) rfl k) ?_
  show Go p.tables e below P (T5.setTop (mkF m 81 #[.val (.long q0), .second, .val (.int p1), .val (.int p2), .val (.long le), .second, .val (.int dr), .val (.int dl), .val (.ref b1), .val (.long hh), .second, .val (.long (le * ((100 : Int32) - dr).toInt64)), .second, .unset, .unset] [(.int ((100 : Int32) + dr))]))
  refine Go.s (fun k => XT.i2l X5.here hx rfl (hb hby at_81) rfl k) ?_
  show Go p.tables e below P (T5.setTop (mkF m 82 #[.val (.long q0), .second, .val (.int p1), .val (.int p2), .val (.long le), .second, .val (.int dr), .val (.int dl), .val (.ref b1), .val (.long hh), .second, .val (.long (le * ((100 : Int32) - dr).toInt64)), .second, .unset, .unset] [(.long ((100 : Int32) + dr).toInt64)]))
  refine Go.s (fun k => XT.lstore X5.here hx rfl (hb hby at_82) rfl (l' := #[.val (.long q0), .second, .val (.int p1), .val (.int p2), .val (.long le), .second, .val (.int dr), .val (.int dl), .val (.ref b1), .val (.long hh), .second, .val (.long (le * ((100 : Int32) - dr).toInt64)), .second, .val (.long ((100 : Int32) + dr).toInt64), .second]) rfl k) ?_
  show Go p.tables e below P (T5.setTop (mkF m 84 #[.val (.long q0), .second, .val (.int p1), .val (.int p2), .val (.long le), .second, .val (.int dr), .val (.int dl), .val (.ref b1), .val (.long hh), .second, .val (.long (le * ((100 : Int32) - dr).toInt64)), .second, .val (.long ((100 : Int32) + dr).toInt64), .second] []))
  refine Go.s (fun k => XT.lload X5.here hx rfl (hb hby at_84) rfl k) ?_
  show Go p.tables e below P (T5.setTop (mkF m 86 #[.val (.long q0), .second, .val (.int p1), .val (.int p2), .val (.long le), .second, .val (.int dr), .val (.int dl), .val (.ref b1), .val (.long hh), .second, .val (.long (le * ((100 : Int32) - dr).toInt64)), .second, .val (.long ((100 : Int32) + dr).toInt64), .second] [(.long hh)]))
  refine Go.s (fun k => XT.lload X5.here hx rfl (hb hby at_86) rfl k) ?_
  show Go p.tables e below P (T5.setTop (mkF m 88 #[.val (.long q0), .second, .val (.int p1), .val (.int p2), .val (.long le), .second, .val (.int dr), .val (.int dl), .val (.ref b1), .val (.long hh), .second, .val (.long (le * ((100 : Int32) - dr).toInt64)), .second, .val (.long ((100 : Int32) + dr).toInt64), .second] [(.long ((100 : Int32) + dr).toInt64), (.long hh)]))
  refine Go.s (fun k => XT.lmul X5.here hx rfl (hb hby at_88) rfl k) ?_
  show Go p.tables e below P (T5.setTop (mkF m 89 #[.val (.long q0), .second, .val (.int p1), .val (.int p2), .val (.long le), .second, .val (.int dr), .val (.int dl), .val (.ref b1), .val (.long hh), .second, .val (.long (le * ((100 : Int32) - dr).toInt64)), .second, .val (.long ((100 : Int32) + dr).toInt64), .second] [(.long (hh * ((100 : Int32) + dr).toInt64))]))
  refine Go.s (fun k => XT.lload X5.here hx rfl (hb hby at_89) rfl k) ?_
  show Go p.tables e below P (T5.setTop (mkF m 91 #[.val (.long q0), .second, .val (.int p1), .val (.int p2), .val (.long le), .second, .val (.int dr), .val (.int dl), .val (.ref b1), .val (.long hh), .second, .val (.long (le * ((100 : Int32) - dr).toInt64)), .second, .val (.long ((100 : Int32) + dr).toInt64), .second] [(.long (le * ((100 : Int32) - dr).toInt64)), (.long (hh * ((100 : Int32) + dr).toInt64))]))
  refine Go.s (fun k => XT.lcmp X5.here hx rfl (hb hby at_91) rfl k) ?_
  show Go p.tables e below P (T5.setTop (mkF m 92 #[.val (.long q0), .second, .val (.int p1), .val (.int p2), .val (.long le), .second, .val (.int dr), .val (.int dl), .val (.ref b1), .val (.long hh), .second, .val (.long (le * ((100 : Int32) - dr).toInt64)), .second, .val (.long ((100 : Int32) + dr).toInt64), .second] [(.int (XT.cmpL (hh * ((100 : Int32) + dr).toInt64) (le * ((100 : Int32) - dr).toInt64)))]))
  refine Go.s (fun k => XS.ifNo X5.here hx rfl (hb hby at_92) rfl (XT.ll_gt_f k3) k) ?_
  show Go p.tables e below P (T5.setTop (mkF m 95 #[.val (.long q0), .second, .val (.int p1), .val (.int p2), .val (.long le), .second, .val (.int dr), .val (.int dl), .val (.ref b1), .val (.long hh), .second, .val (.long (le * ((100 : Int32) - dr).toInt64)), .second, .val (.long ((100 : Int32) + dr).toInt64), .second] []))
  refine Go.s (fun k => XT.lload X5.here hx rfl (hb hby at_95) rfl k) ?_
  show Go p.tables e below P (T5.setTop (mkF m 97 #[.val (.long q0), .second, .val (.int p1), .val (.int p2), .val (.long le), .second, .val (.int dr), .val (.int dl), .val (.ref b1), .val (.long hh), .second, .val (.long (le * ((100 : Int32) - dr).toInt64)), .second, .val (.long ((100 : Int32) + dr).toInt64), .second] [(.long (le * ((100 : Int32) - dr).toInt64))]))
  refine Go.s (fun k => XT.lload X5.here hx rfl (hb hby at_97) rfl k) ?_
  show Go p.tables e below P (T5.setTop (mkF m 99 #[.val (.long q0), .second, .val (.int p1), .val (.int p2), .val (.long le), .second, .val (.int dr), .val (.int dl), .val (.ref b1), .val (.long hh), .second, .val (.long (le * ((100 : Int32) - dr).toInt64)), .second, .val (.long ((100 : Int32) + dr).toInt64), .second] [(.long hh), (.long (le * ((100 : Int32) - dr).toInt64))]))
  refine Go.s (fun k => XT.lconst X5.here hx rfl (hb hby at_99) k) ?_
  show Go p.tables e below P (T5.setTop (mkF m 100 #[.val (.long q0), .second, .val (.int p1), .val (.int p2), .val (.long le), .second, .val (.int dr), .val (.int dl), .val (.ref b1), .val (.long hh), .second, .val (.long (le * ((100 : Int32) - dr).toInt64)), .second, .val (.long ((100 : Int32) + dr).toInt64), .second] [(.long (1 : Int64)), (.long hh), (.long (le * ((100 : Int32) - dr).toInt64))]))
  refine Go.s (fun k => XT.ladd X5.here hx rfl (hb hby at_100) rfl k) ?_
  show Go p.tables e below P (T5.setTop (mkF m 101 #[.val (.long q0), .second, .val (.int p1), .val (.int p2), .val (.long le), .second, .val (.int dr), .val (.int dl), .val (.ref b1), .val (.long hh), .second, .val (.long (le * ((100 : Int32) - dr).toInt64)), .second, .val (.long ((100 : Int32) + dr).toInt64), .second] [(.long (hh + (1 : Int64))), (.long (le * ((100 : Int32) - dr).toInt64))]))
  refine Go.s (fun k => XT.lload X5.here hx rfl (hb hby at_101) rfl k) ?_
  show Go p.tables e below P (T5.setTop (mkF m 103 #[.val (.long q0), .second, .val (.int p1), .val (.int p2), .val (.long le), .second, .val (.int dr), .val (.int dl), .val (.ref b1), .val (.long hh), .second, .val (.long (le * ((100 : Int32) - dr).toInt64)), .second, .val (.long ((100 : Int32) + dr).toInt64), .second] [(.long ((100 : Int32) + dr).toInt64), (.long (hh + (1 : Int64))), (.long (le * ((100 : Int32) - dr).toInt64))]))
  refine Go.s (fun k => XT.lmul X5.here hx rfl (hb hby at_103) rfl k) ?_
  show Go p.tables e below P (T5.setTop (mkF m 104 #[.val (.long q0), .second, .val (.int p1), .val (.int p2), .val (.long le), .second, .val (.int dr), .val (.int dl), .val (.ref b1), .val (.long hh), .second, .val (.long (le * ((100 : Int32) - dr).toInt64)), .second, .val (.long ((100 : Int32) + dr).toInt64), .second] [(.long ((hh + (1 : Int64)) * ((100 : Int32) + dr).toInt64)), (.long (le * ((100 : Int32) - dr).toInt64))]))
  refine Go.s (fun k => XT.lcmp X5.here hx rfl (hb hby at_104) rfl k) ?_
  show Go p.tables e below P (T5.setTop (mkF m 105 #[.val (.long q0), .second, .val (.int p1), .val (.int p2), .val (.long le), .second, .val (.int dr), .val (.int dl), .val (.ref b1), .val (.long hh), .second, .val (.long (le * ((100 : Int32) - dr).toInt64)), .second, .val (.long ((100 : Int32) + dr).toInt64), .second] [(.int (XT.cmpL (le * ((100 : Int32) - dr).toInt64) ((hh + (1 : Int64)) * ((100 : Int32) + dr).toInt64)))]))
  refine Go.s (fun k => XS.ifNo X5.here hx rfl (hb hby at_105) rfl (XT.ll_ge_f k4) k) ?_
  show Go p.tables e below P (T5.setTop (mkF m 108 #[.val (.long q0), .second, .val (.int p1), .val (.int p2), .val (.long le), .second, .val (.int dr), .val (.int dl), .val (.ref b1), .val (.long hh), .second, .val (.long (le * ((100 : Int32) - dr).toInt64)), .second, .val (.long ((100 : Int32) + dr).toInt64), .second] []))
  refine Go.s (fun k => XS.iconst X5.here hx rfl (hb hby at_108) k) ?_
  show Go p.tables e below P (T5.setTop (mkF m 109 #[.val (.long q0), .second, .val (.int p1), .val (.int p2), .val (.long le), .second, .val (.int dr), .val (.int dl), .val (.ref b1), .val (.long hh), .second, .val (.long (le * ((100 : Int32) - dr).toInt64)), .second, .val (.long ((100 : Int32) + dr).toInt64), .second] [(.int (1 : Int32))]))
  refine Go.s (fun k => XS.goto X5.here hx rfl (pc0 := 109) (pc' := 113) rfl (hb hby at_109) (by decide) (by decide) k) ?_
  show Go p.tables e below P (T5.setTop (mkF m 113 #[.val (.long q0), .second, .val (.int p1), .val (.int p2), .val (.long le), .second, .val (.int dr), .val (.int dl), .val (.ref b1), .val (.long hh), .second, .val (.long (le * ((100 : Int32) - dr).toInt64)), .second, .val (.long ((100 : Int32) + dr).toInt64), .second] [(.int (1 : Int32))]))
  exact Go.retZ X5 hx hlk hret (by decide) (hb hby at_113) (fun U hU hF => hP U _ _ ⟨rfl, N5⟩ ⟨hF.1, hF.2.1, hF.2.2.mono (by decide) (by decide)⟩)
set_option maxRecDepth 65536 in
set_option maxHeartbeats 40000000 in
theorem own_comes {Post : Tables → Env → Array Value → State → Outcome → State → Prop} (hpost : ∀ tb e args s v u, (limb_1_1.after args s (.returned v) u = true ∧ limb_1_2.after args s (.returned v) u = true ∧ True) → FrameEnd s (.returned v) u (Jvm.fieldLocs frame_1_writes args s ++ Jvm.arrayLocs frame_1_arrays args s ++ Jvm.staticLocs frame_1_statics s) 16 128 → Post tb e args s (.returned v) u) :
    ArmFor flags0 classFile x code maxLocals ret World_1 tables_1 room_1 Calls_1 rest_1 Pre_1 Post := by
  intro l hfl _ _ p e ha hc hk s m args below hf hA hF happ hP
  obtain ⟨hcalls, hrest, hpre⟩ := hP
  obtain ⟨-, -, -, hnamed, -, -, -, hat⟩ := (Spec.applies_iff hf).mp happ
  obtain ⟨hg, hn⟩ := and_e (Cond.before_iff.mp (show (Jvm.Cond.and given_1 narrow_1).before args s = true from hpre))
  obtain ⟨h1, g1⟩ := and_e hg
  obtain ⟨w0, w1, w2, rfl⟩ : ∃ w0 w1 w2 : Value, args = #[w0, w1, w2] := by
    have hs : args.size = 3 := by simpa [Cond.value, given_1] using h1
    obtain ⟨L⟩ := args
    match L, hs with
    | [w0, w1, w2], _ => exact ⟨w0, w1, w2, rfl⟩
  have hw := fun d (hd : d ∈ tables_1) => atoms_spec (ws := Jvm.Cond.code x code maxLocals ret :: tables_1) hat d (List.mem_cons_of_mem _ hd)
  have hfit : Fit s := fun {y c} hc i hi => by
    obtain ⟨ha, rfl⟩ := Array.getElem?_eq_some_iff.mp hc
    have q := List.all_eq_true.mp ((Array.all_eq_true_iff_forall_mem.mp hF) _ (Array.getElem_mem ha)) i (List.mem_range.mpr hi)
    simpa [Array.getElem?_eq_getElem hi] using q
  obtain ⟨a0, g2⟩ := and_e g1
  obtain ⟨i0, ee0⟩ := isL_v a0
  obtain rfl : w0 = (.long i0) := Option.some.inj ee0
  obtain ⟨a1, g3⟩ := and_e g2
  obtain ⟨i1, ee1⟩ := is_v a1
  obtain rfl : w1 = (.int i1) := Option.some.inj ee1
  obtain ⟨i2, ee2⟩ := is_v g3
  obtain rfl : w2 = (.int i2) := Option.some.inj ee2
  obtain ⟨n, o, h1, h2, h3, _, L, rfl, ⟨rfl, N⟩, hq⟩ := own_rm0 l s _ hw tables_1 i0 i1 i2  s.heap s.heap.size (Nat.le_refl _)  p e ha hc hk s m _ below hf ((Spec.applies_iff_loose hf).mp happ).1 ⟨rfl, State.Warmed39.refl s, rfl⟩ trivial
  refine ⟨n, _, h1, h2, h3, hpost _ _ _ _ _ _ ⟨Cond.after_iff.mpr rfl, Cond.after_iff.mpr (eq_i res_at (Term.int_eval (1)) rfl), trivial⟩ ⟨hq.1, hq.2.1, (hq.2.2.sift fun y hy => Or.inr (N y hy)).mono (by decide) (by decide)⟩⟩
theorem main_1_1 : Claimed_1_1 := own_comes fun _ _ _ _ _ _ h hF => ⟨h.1, hF⟩
theorem main_1_2 : Claimed_1_2 := own_comes fun _ _ _ _ _ _ h hF => ⟨h.2.1, hF⟩
end Jvm.Pilot.@@N@@
namespace Jvm.Pilot.@@N@@
open Jvm Jvm.ClassFile Sem Op Lib Jvm.Free Jvm.Stand Jvm.Pilot.@@N@@.Jvm.D
/-! MADE BY PROGRAM (witnessworld.py) out of the Statement's table words and the real class files: 10 classes; the members and pool entries that the words name. The judged class is class 1, her method 1. -/
namespace start1
open Jvm.ClassFile
def u (s : String) : CpInfo := .utf8 (stringToUtf16 s)
/-- a pool by its gaps: so many unusable entries, then the entry; so many at the end -/
def gap : Nat → List CpInfo → List CpInfo
  | 0, r => r
  | n + 1, r => .unusable :: gap n r
def poolList (es : List (Nat × CpInfo)) (last : Nat) : List CpInfo := es.foldr (fun e r => gap e.1 (e.2 :: r)) (gap last [])
def pool (es : List (Nat × CpInfo)) (last : Nat) : Array CpInfo := ⟨poolList es last⟩
def fileOf (pool : Array CpInfo) (this : Nat) (attrs : Array Attribute := #[]) (ms : Array MethodInfo := #[]) (fl : Nat := 33) (sup : Nat := 0) (ifs : Array Nat := #[]) (fds : Array FieldInfo := #[]) : ClassFile where
  minorVersion := 0
  majorVersion := 65
  constantPool := pool
  accessFlags := fl
  thisClass := this
  superClass := sup
  interfaces := ifs
  fields := fds
  methods := ms
  attributes := attrs
def plain (name : String) (sup : Option ClassId) : Class where
  name := name
  kind := .ordinary
  loader := none
  accessFlags := 33
  super := sup
  interfaces := #[]
  cf := none
  fields := #[]
  methods := #[]
  instanceTypes := #[]
  staticTypes := #[]
  resolved := #[]
  callSites := []
  init := .initialized
  statics := none
  mirror := none

def pool0 : Array CpInfo := pool [(5, u "<init>"), (0, u "()V"), (1, .class_ 10), (1, u "java/lang/Object")] 113

def k0c0 : Code := { maxStack := 0, maxLocals := 1, code := object_method_1_code, exceptionTable := #[], attributes := #[] }
def k0m0 : Method := { name := "<init>", desc := "()V", sig := { parameters := [], returnType := none }, accessFlags := 1, code := some k0c0 }
/-- java/lang/Object -/
def k0 : Class := { plain "java/lang/Object" none with
  accessFlags := 33
  interfaces := #[]
  cf := some (fileOf pool0 8 #[] #[{ accessFlags := 1, nameIndex := 5, descriptorIndex := 6, attributes := #[] }] 33 0 #[] #[])
  fields := #[]
  methods := #[k0m0]
  instanceTypes := #[]
  staticTypes := #[]
  resolved := Array.replicate 124 none
  statics := none }

def pool1 : Array CpInfo := pool [(2, .class_ 4), (1, u "java/lang/Object"), (0, u "<init>"), (0, u "()V"), (0, .long 36028797018963967), (1, .integer 2147483647), (0, .integer 1073741823), (0, .class_ 12), (0, u "com/example/paperwasp/paperwasp/member/Settings"), (0, .methodref 11 14), (0, .nameAndType 5 15), (0, u "(JII)V"), (0, .methodref 11 17), (0, .nameAndType 18 19), (0, u "heldLease"), (0, u "()J"), (0, .class_ 21), (0, u "com/example/paperwasp/paperwasp/member/SettingsHeldLeasePinLaw"), (2, u "law"), (0, u "(JII)Z")] 3

def k1m0 : Method := { name := "<init>", desc := "()V", sig := { parameters := [], returnType := none }, accessFlags := 1, code := none }
def k1c1 : Code := { maxStack := 6, maxLocals := 15, code := code, exceptionTable := #[], attributes := #[] }
def k1m1 : Method := { name := "law", desc := "(JII)Z", sig := { parameters := [.long, .int, .int], returnType := some .boolean }, accessFlags := 9, code := some k1c1 }
/-- com/example/paperwasp/paperwasp/member/SettingsHeldLeasePinLaw -/
def k1 : Class := { plain "com/example/paperwasp/paperwasp/member/SettingsHeldLeasePinLaw" (some 0) with
  accessFlags := 49
  interfaces := #[]
  cf := some (fileOf pool1 20 #[] #[{ accessFlags := 1, nameIndex := 5, descriptorIndex := 6, attributes := #[] }, { accessFlags := 9, nameIndex := 24, descriptorIndex := 25, attributes := #[] }] 49 2 #[] #[])
  fields := #[]
  methods := #[k1m0, k1m1]
  instanceTypes := #[]
  staticTypes := #[]
  resolved := Array.replicate 29 none
  statics := none }

def pool2 : Array CpInfo := pool [(1, .methodref 2 3), (0, .class_ 4), (0, .nameAndType 5 6), (0, u "java/lang/Object"), (0, u "<init>"), (0, u "()V"), (0, .class_ 8), (0, u "java/lang/Record")] 13

def k2c0 : Code := { maxStack := 1, maxLocals := 1, code := jdk_30_method_1_code, exceptionTable := #[], attributes := #[] }
def k2m0 : Method := { name := "<init>", desc := "()V", sig := { parameters := [], returnType := none }, accessFlags := 4, code := some k2c0 }
/-- java/lang/Record -/
def k2 : Class := { plain "java/lang/Record" (some 0) with
  accessFlags := 1057
  interfaces := #[]
  cf := some (fileOf pool2 7 #[] #[{ accessFlags := 4, nameIndex := 5, descriptorIndex := 6, attributes := #[] }] 1057 2 #[] #[])
  fields := #[]
  methods := #[k2m0]
  instanceTypes := #[]
  staticTypes := #[]
  resolved := Array.replicate 22 none
  statics := none }

def pool3 : Array CpInfo := pool [(1, .methodref 2 3), (0, .class_ 4), (0, .nameAndType 5 6), (0, u "java/lang/Record"), (0, u "<init>"), (0, u "()V"), (13, .fieldref 21 22), (0, .class_ 23), (0, .nameAndType 24 25), (0, u "com/example/paperwasp/paperwasp/member/Settings"), (0, u "lease"), (0, u "J"), (0, .fieldref 21 27), (0, .nameAndType 28 29), (0, u "driftBound"), (0, u "I"), (0, .fieldref 21 31), (0, .nameAndType 32 29), (0, u "delayBound"), (16, u "(JII)V"), (2, u "DEFAULT"), (0, u "Lcom/example/paperwasp/paperwasp/member/Settings;"), (4, u "heldLease"), (0, u "()J")] 38

def k3c0 : Code := { maxStack := 4, maxLocals := 5, code := prog_33_method_1_code, exceptionTable := #[], attributes := #[] }
def k3m0 : Method := { name := "<init>", desc := "(JII)V", sig := { parameters := [.long, .int, .int], returnType := none }, accessFlags := 1, code := some k3c0 }
def k3c1 : Code := { maxStack := 4, maxLocals := 1, code := prog_33_method_2_code, exceptionTable := #[], attributes := #[] }
def k3m1 : Method := { name := "heldLease", desc := "()J", sig := { parameters := [], returnType := some .long }, accessFlags := 1, code := some k3c1 }
/-- com/example/paperwasp/paperwasp/member/Settings -/
def k3 : Class := { plain "com/example/paperwasp/paperwasp/member/Settings" (some 2) with
  accessFlags := 49
  interfaces := #[]
  cf := some (fileOf pool3 21 #[] #[{ accessFlags := 1, nameIndex := 5, descriptorIndex := 49, attributes := #[] }, { accessFlags := 1, nameIndex := 58, descriptorIndex := 59, attributes := #[] }] 49 2 #[] #[{ accessFlags := 18, nameIndex := 24, descriptorIndex := 25, attributes := #[] }, { accessFlags := 18, nameIndex := 28, descriptorIndex := 29, attributes := #[] }, { accessFlags := 18, nameIndex := 32, descriptorIndex := 29, attributes := #[] }, { accessFlags := 25, nameIndex := 52, descriptorIndex := 53, attributes := #[] }])
  fields := #[{ name := "lease", type := .long, accessFlags := 18, slot := 0, constantValue := 0 }, { name := "driftBound", type := .int, accessFlags := 18, slot := 1, constantValue := 0 }, { name := "delayBound", type := .int, accessFlags := 18, slot := 2, constantValue := 0 }, { name := "DEFAULT", type := (.object "com/example/paperwasp/paperwasp/member/Settings"), accessFlags := 25, slot := 0, constantValue := 0 }]
  methods := #[k3m0, k3m1]
  instanceTypes := #[.long, .int, .int]
  staticTypes := #[(.object "com/example/paperwasp/paperwasp/member/Settings")]
  resolved := Array.replicate 98 none
  statics := none }

def pool4 : Array CpInfo := pool [(1, u "java/lang/Cloneable"), (0, .class_ 1), (0, u "java/lang/Object"), (0, .class_ 3)] 3

/-- java/lang/Cloneable -/
def k4 : Class := { plain "java/lang/Cloneable" (some 0) with
  accessFlags := 1537
  interfaces := #[]
  cf := some (fileOf pool4 2 #[] #[] 1537 4 #[] #[])
  fields := #[]
  methods := #[]
  instanceTypes := #[]
  staticTypes := #[]
  resolved := Array.replicate 8 none
  statics := none }

def pool5 : Array CpInfo := pool [(1, u "java/io/Serializable"), (0, .class_ 1), (0, u "java/lang/Object"), (0, .class_ 3)] 3

/-- java/io/Serializable -/
def k5 : Class := { plain "java/io/Serializable" (some 0) with
  accessFlags := 1537
  interfaces := #[]
  cf := some (fileOf pool5 2 #[] #[] 1537 4 #[] #[])
  fields := #[]
  methods := #[]
  instanceTypes := #[]
  staticTypes := #[]
  resolved := Array.replicate 8 none
  statics := none }

/-- the primitive byte -/
def k6 : Class := { plain "byte" none with kind := .primitive 'B', accessFlags := 0x411 }
/-- [B -/
def k7 : Class := { plain "[B" (some 0) with kind := .array 6 .byte, interfaces := #[4, 5], accessFlags := 1041 }

/-- the primitive int -/
def k8 : Class := { plain "int" none with kind := .primitive 'I', accessFlags := 0x411 }
/-- [I -/
def k9 : Class := { plain "[I" (some 0) with kind := .array 8 .int, interfaces := #[4, 5], accessFlags := 1041 }

def heap : Heap := #[]
def classes : Array Class := #[k0, k1, k2, k3, k4, k5, k6, k7, k8, k9]
def interned : List (Array UInt16 × Addr) := []
def slotsUsed : Nat := 0
def theMethod : MethodId := ⟨1, 1⟩
def args0 : Array Value := #[.long 5, .int 7, .int 8]
def aboutOver (below : List Frame) : State where
  vm := { classes := classes, interned := interned.toArray }
  heap := heap
  slotsUsed := slotsUsed
  threads := #[{ frames := .invoking theMethod args0 :: below }]
def below0 : List Frame := [.native { method := ⟨0, 0⟩, args := #[] }]
def about1 : State := aboutOver below0
def p0 : Program := .bare "" "" ""
def e0 : Env := launch0.env 0 0 0
theorem w_frames : about1.frames = Frame.invoking theMethod args0 :: below0 := rfl
set_option maxRecDepth 65536 in
theorem w_args : argsFit about1.vm theMethod args0 = true := by decide +kernel
set_option maxRecDepth 65536 in
theorem w_heap : heapFits about1 = true := by decide +kernel
set_option maxRecDepth 65536 in
theorem w_runnable : about1.curStatus? = some .runnable := by decide +kernel
set_option maxRecDepth 65536 in
theorem w_alone : about1.alone = true := by decide +kernel
set_option maxRecDepth 65536 in
theorem w_named : about1.methodNamed? x = some theMethod := by decide +kernel
set_option maxRecDepth 65536 in
theorem w_hears : about1.hears theMethod below0 = true := by decide +kernel
set_option maxRecDepth 65536 in
theorem w_ripe : about1.ripe theMethod args0 below0 = true := by decide +kernel
theorem w_running : about1.status = .running := rfl
set_option maxRecDepth 65536 in
theorem w_room : about1.hasRoom e0.platform room_1 = true :=
  launch0.hasRoom_least _ room_1 (by decide +kernel) (by decide +kernel) (by decide +kernel) (by decide +kernel) (by decide +kernel) (by decide +kernel)
theorem allAtoms_all (ts : List Jvm.Cond) (a : Array Jvm.Value) (st : Jvm.State) : (allAtoms ts).before a st = ts.all (fun c => c.before a st) := by
  induction ts with
  | nil => rfl
  | cons c t ih =>
    show (Jvm.Cond.and c (allAtoms t)).before a st = _
    rw [Jvm.Cond.before_and, ih, List.all_cons]
def words1 : List Jvm.Cond := Jvm.Cond.code x code maxLocals ret :: tables_1
/-- a 'code' word, met by the world's own term for the bytes: nothing is compared byte by byte -/
theorem code_word {y : MethodName} {bytes : ByteArray} {mx : Nat} {rt : Option FieldType} {a : Array Value} {s : State} {m : MethodId} {meth : Method} {c : Code} (h1 : s.methodNamed? y = some m) (h2 : s.vm.method? m = some meth) (h3 : meth.code = some c) (h4 : c.code = bytes)
    (h5 : (c.maxLocals == mx && c.exceptionTable.isEmpty && decide (c.maxStack ≤ mostOperands) && decide (meth.sig.returnType = rt) && !meth.locks && decide (parseMethodDescriptor y.desc = some meth.sig)) = true) : (Jvm.Cond.code y bytes mx rt).before a s = true := by
  simp only [Bool.and_eq_true, beq_iff_eq, Bool.not_eq_true', decide_eq_true_eq] at h5
  obtain ⟨⟨⟨⟨⟨g1, g2⟩, g3⟩, g4⟩, g5⟩, g6⟩ := h5
  simp [Cond.before, Cond.holds, Cond.value, h1, h2, h3, h4, g1, g2, g3, g4, g5, g6]
def isCode : Jvm.Cond → Bool
  | .code _ _ _ _ => true
  | _ => false
theorem all_split {L : List Jvm.Cond} {P : Jvm.Cond → Bool} (h1 : L.all (fun c => isCode c || P c) = true) (h2 : ∀ c ∈ L.filter isCode, P c = true) : L.all P = true := by
  refine List.all_eq_true.mpr fun c hc => ?_
  have h := List.all_eq_true.mp h1 c hc
  rcases Bool.eq_false_or_eq_true (isCode c) with hi | hi
  · exact h2 c (List.mem_filter.mpr ⟨hc, hi⟩)
  · simpa [hi] using h
set_option maxRecDepth 65536 in
theorem w_c0 : (Jvm.Cond.code x code maxLocals ret).before args0 about1 = true := code_word (m := ⟨1, 1⟩) (meth := k1m1) (c := k1c1) (by decide +kernel) rfl rfl rfl (by decide +kernel)
set_option maxRecDepth 65536 in
theorem w_c1 : (Jvm.Cond.code ({ cls := "com/example/paperwasp/paperwasp/member/Settings", name := "<init>", desc := "(JII)V" } : Jvm.MethodName) prog_33_method_1_code (5 : Nat) (Option.none : Option Jvm.ClassFile.FieldType)).before args0 about1 = true := code_word (m := ⟨3, 0⟩) (meth := k3m0) (c := k3c0) (by decide +kernel) rfl rfl rfl (by decide +kernel)
set_option maxRecDepth 65536 in
theorem w_c2 : (Jvm.Cond.code ({ cls := "java/lang/Record", name := "<init>", desc := "()V" } : Jvm.MethodName) jdk_30_method_1_code (1 : Nat) (Option.none : Option Jvm.ClassFile.FieldType)).before args0 about1 = true := code_word (m := ⟨2, 0⟩) (meth := k2m0) (c := k2c0) (by decide +kernel) rfl rfl rfl (by decide +kernel)
set_option maxRecDepth 65536 in
theorem w_c3 : (Jvm.Cond.code ({ cls := "java/lang/Object", name := "<init>", desc := "()V" } : Jvm.MethodName) object_method_1_code (1 : Nat) (Option.none : Option Jvm.ClassFile.FieldType)).before args0 about1 = true := code_word (m := ⟨0, 0⟩) (meth := k0m0) (c := k0c0) (by decide +kernel) rfl rfl rfl (by decide +kernel)
set_option maxRecDepth 65536 in
theorem w_c4 : (Jvm.Cond.code ({ cls := "com/example/paperwasp/paperwasp/member/Settings", name := "heldLease", desc := "()J" } : Jvm.MethodName) prog_33_method_2_code (1 : Nat) (Option.some Jvm.ClassFile.FieldType.long)).before args0 about1 = true := code_word (m := ⟨3, 1⟩) (meth := k3m1) (c := k3c1) (by decide +kernel) rfl rfl rfl (by decide +kernel)
def codes1 : List Jvm.Cond := [Jvm.Cond.code x code maxLocals ret, Jvm.Cond.code ({ cls := "com/example/paperwasp/paperwasp/member/Settings", name := "<init>", desc := "(JII)V" } : Jvm.MethodName) prog_33_method_1_code (5 : Nat) (Option.none : Option Jvm.ClassFile.FieldType), Jvm.Cond.code ({ cls := "java/lang/Record", name := "<init>", desc := "()V" } : Jvm.MethodName) jdk_30_method_1_code (1 : Nat) (Option.none : Option Jvm.ClassFile.FieldType), Jvm.Cond.code ({ cls := "java/lang/Object", name := "<init>", desc := "()V" } : Jvm.MethodName) object_method_1_code (1 : Nat) (Option.none : Option Jvm.ClassFile.FieldType), Jvm.Cond.code ({ cls := "com/example/paperwasp/paperwasp/member/Settings", name := "heldLease", desc := "()J" } : Jvm.MethodName) prog_33_method_2_code (1 : Nat) (Option.some Jvm.ClassFile.FieldType.long)]
set_option maxRecDepth 65536 in
theorem codes_eq : words1.filter isCode = codes1 := rfl
theorem w_codes : ∀ c ∈ words1.filter isCode, c.before args0 about1 = true := by
  rw [codes_eq]
  intro c hc
  simp only [codes1, List.mem_cons, List.not_mem_nil, or_false] at hc
  rcases hc with rfl | rfl | rfl | rfl | rfl
  · exact w_c0
  · exact w_c1
  · exact w_c2
  · exact w_c3
  · exact w_c4
set_option maxRecDepth 65536 in
theorem w_t1 : (words1.take 24).all (fun c => isCode c || c.before args0 about1) = true := by decide +kernel
set_option maxRecDepth 65536 in
theorem w_t2 : (words1.drop 24).all (fun c => isCode c || c.before args0 about1) = true := by decide +kernel
theorem w_tables : (allAtoms (Jvm.Cond.code x code maxLocals ret :: tables_1)).before args0 about1 = true := by
  rw [allAtoms_all]
  show words1.all (fun c => c.before args0 about1) = true
  refine all_split ?_ w_codes
  rw [← List.take_append_drop 24 words1, List.all_append, w_t1, w_t2]
  rfl
set_option maxRecDepth 65536 in
theorem w_case : (Jvm.Cond.and given_1 narrow_1).before args0 about1 = true := by decide +kernel
theorem w_applies : (headSpec (Jvm.Cond.code x code maxLocals ret :: tables_1) room_1).applies x e0.platform about1 = true :=
  (Spec.applies_iff w_frames).mpr ⟨w_running, w_runnable, w_alone, w_named, w_hears, w_ripe, w_room, w_tables⟩
theorem atStart : AtStart classFile x code maxLocals ret World_1 tables_1 room_1 Calls_1 rest_1 Pre_1 launch0 p0 e0 about1 theMethod args0 below0 :=
  ⟨lists_1, trivial, launch0.admits_env _ _ _, launch0.least_env, fairChoices_fair.cas, fairChoices_fair.clock, w_frames, w_args, w_heap, w_applies, trivial, trivial, w_case⟩
end start1
theorem witness_1 : WitnessClaimed_1 := ⟨start1.p0, start1.e0, start1.about1, start1.theMethod, start1.args0, start1.below0, start1.atStart⟩
end Jvm.Pilot.@@N@@
