import JvmDerived
import JvmDerived.Pilot.@@N@@Statement
import JvmDerived.Pilot.@@N@@Code
set_option linter.unusedVariables false
set_option linter.unusedSimpArgs false
@@BLOCK:NumsL.lean.txt@@
namespace Jvm.OwnKit
open Sem ClassFile Op Lib Jvm.Stand Jvm.Free Jvm.LawKit Jvm.RoadKit
def Go (tb : Tables) (e : Env) (below : List Frame) (P : State → Outcome → Prop) (S : State) : Prop := ∃ U o, Steps tb e below S U ∧ U.status = .running ∧ Ended U below o ∧ P U o
theorem Go.s {tb : Tables} {e : Env} {below : List Frame} {P : State → Outcome → Prop} {S S' : State} (k : ∀ {t : State}, Steps tb e below S' t → Steps tb e below S t) (f : Go tb e below P S') : Go tb e below P S := by
  obtain ⟨U, o, h1, h2⟩ := f
  exact ⟨U, o, k h1, h2⟩
theorem Go.cast {tb : Tables} {e : Env} {below : List Frame} {P : State → Outcome → Prop} {T : State} {g g' : JFrame} (q : g = g') (f : Go tb e below P (T.setTop g')) : Go tb e below P (T.setTop g) := q ▸ f
/-- the contract of a body, at one heap and one list of arguments -/
def Con (l : Launch) (Z : State) (y : MethodName) (bytes : ByteArray) (maxL : Nat) (ret : Option FieldType) (ws : List Jvm.Cond) (rm : Room) (as' : Array Value) (h : Heap) (Q : Option Value → Heap → List Loc → Prop) : Prop :=
  MetFree l y (head1 (Cond.code y bytes maxL ret :: ws) rm) (fun a U => a = as' ∧ Z.Warmed39 U.vm ∧ U.heap = h) (fun _ _ _ _ _ => True) (fun _ U o U' => ∃ v L, o = .returned v ∧ Q v U'.heap L ∧ FrameEnd U o U' L rm.cells rm.slots)
theorem Con.intro {l : Launch} {Z : State} {y : MethodName} {bytes : ByteArray} {maxL : Nat} {ret : Option FieldType} {ws : List Jvm.Cond} {rm : Room} {as' : Array Value} {h : Heap} {Q : Option Value → Heap → List Loc → Prop} (hpn : plainFor y = true)
    (body : ∀ (p : Program) (e : Env) (s : State) (m : MethodId) (below : List Frame) (meth : Method) (c : Code) (s₁ : State) (P : State → Outcome → Prop), p.tables.exec = Jvm.exec → c.code = bytes → c.maxLocals = maxL → s.vm.findClass y.cls = some m.cls → meth.name = y.name → meth.sig.returnType = ret → meth.locks = false → Z.Warmed39 s.vm →
      Stand p l e rm s m as' below meth c s₁ [] 0 0 → s₁.heap = h → (∀ U v L, Q v U.heap L → FrameEnd s (.returned v) U L rm.cells rm.slots → P U (.returned v)) → Go p.tables e below P (s₁.setTop (entryFrame m as' maxL))) :
    Con l Z y bytes maxL ret ws rm as' h Q := by
  refine MetFree.of_bodySF hpn hisR ?_
  intro p e s m args below meth c s₁ Bd hml0 hP hK
  obtain ⟨rfl, hZ, hh⟩ := hP
  exact body p e s m below meth c s₁ _ Bd.exec Bd.bytes hml0 (findClass_of_methodNamed Bd.named) (name_of_methodNamed Bd.named Bd.method).1 Bd.returns (BodyLoose.notSynchronized Bd) hZ (Stand.of_body Bd) (by rw [← hh, Bd.state]; rfl) fun U v L q f => ⟨v, L, rfl, q, f⟩
theorem Con.mono {l : Launch} {Z : State} {y : MethodName} {bytes : ByteArray} {maxL : Nat} {ret : Option FieldType} {ws : List Jvm.Cond} {rm : Room} {as' : Array Value} {h : Heap} {Q Q' : Option Value → Heap → List Loc → Prop} (C : Con l Z y bytes maxL ret ws rm as' h Q) (q : ∀ v h L, Q v h L → Q' v h L) : Con l Z y bytes maxL ret ws rm as' h Q' := by
  intro p e ha hc hk s m args below hf happ hP hK
  obtain ⟨n, o, h1, h2, h3, v, L, h4, h5, h6⟩ := C p e ha hc hk s m args below hf happ hP hK
  exact ⟨n, o, h1, h2, h3, v, L, h4, q _ _ _ h5, h6⟩
def ConH (l : Launch) (Z : State) (y : MethodName) (bytes : ByteArray) (maxL : Nat) (ret : Option FieldType) (hs : List (Nat × Nat × Nat × Nat)) (ws : List Jvm.Cond) (rm : Room) (as' : Array Value) (h : Heap) (Q : Option Value → Heap → List Loc → Prop) : Prop :=
  MetFree l y (head1 (Cond.codeWith y bytes maxL ret hs :: ws) rm) (fun a U => a = as' ∧ Z.Warmed39 U.vm ∧ U.heap = h) (fun _ _ _ _ _ => True) (fun _ U o U' => ∃ v L, o = .returned v ∧ Q v U'.heap L ∧ FrameEnd U o U' L rm.cells rm.slots)
theorem ConH.intro {l : Launch} {Z : State} {y : MethodName} {bytes : ByteArray} {maxL : Nat} {ret : Option FieldType} {hs : List (Nat × Nat × Nat × Nat)} {ws : List Jvm.Cond} {rm : Room} {as' : Array Value} {h : Heap} {Q : Option Value → Heap → List Loc → Prop} (hpn : plainFor y = true)
    (body : ∀ (p : Program) (e : Env) (s : State) (m : MethodId) (below : List Frame) (meth : Method) (c : Code) (s₁ : State) (P : State → Outcome → Prop), p.tables.exec = Jvm.exec → c.code = bytes → c.maxLocals = maxL → s.vm.findClass y.cls = some m.cls → meth.name = y.name → meth.sig.returnType = ret → meth.locks = false → Z.Warmed39 s.vm →
      Stand p l e rm s m as' below meth c s₁ [] 0 0 → s₁.heap = h → (∀ U v L, Q v U.heap L → FrameEnd s (.returned v) U L rm.cells rm.slots → P U (.returned v)) → Go p.tables e below P (s₁.setTop (entryFrame m as' maxL))) :
    ConH l Z y bytes maxL ret hs ws rm as' h Q := by
  refine MetFree.of_bodySF hpn hisWith ?_
  intro p e s m args below meth c s₁ Bd hml0 hP hK
  obtain ⟨rfl, hZ, hh⟩ := hP
  exact body p e s m below meth c s₁ _ Bd.exec Bd.bytes hml0 (findClass_of_methodNamed Bd.named) (name_of_methodNamed Bd.named Bd.method).1 Bd.returns (BodyLoose.notSynchronized Bd) hZ (Stand.of_body Bd) (by rw [← hh, Bd.state]; rfl) fun U v L q f => ⟨v, L, rfl, q, f⟩
section Walk
variable {p : Program} {l : Launch} {e : Env} {R : Room} {s : State} {m : MethodId} {args : Array Value} {below : List Frame} {meth : Method} {c : Code} {T : State} {locs : List Loc} {cells slots : Nat} {P : State → Outcome → Prop} {Z : State} {a0 : Array Value} {h : Heap}
theorem Go.ret (X : Stand p l e R s m args below meth c T locs cells slots) (hx : p.tables.exec = Jvm.exec) (hlk : meth.locks = false) {pc : Nat} {Ls : Array Slot} {w : Value} {t : FieldType} {i : Instr} {rest : List Value} (hret : meth.sig.returnType = some t) (hn : narrow t w = w)
    (hi : (i = .ireturn ∧ (t = .int ∨ t = .boolean ∨ t = .byte ∨ t = .char ∨ t = .short) ∧ ∃ z, w = .int z) ∨ (i = .lreturn ∧ t = .long ∧ ∃ z, w = .long z) ∨ (i = .dreturn ∧ t = .double ∧ ∃ z, w = .double z) ∨ (i = .freturn ∧ t = .float ∧ ∃ z, w = .float z) ∨ (i = .areturn ∧ t.isReference = true ∧ w.isRef = true))
    (hd : decode c.code pc = .ok (i, 1)) (hP : ∀ U : State, U.heap = T.heap → FrameEnd s (.returned (some w)) U locs cells slots → P U (.returned (some w))) : Go p.tables e below P (T.setTop (mkF m pc Ls (w :: rest))) := by
  obtain ⟨fs, hr, hrun, hended, hW, hsame⟩ := X.leave (v := some w) (fun h => by rw [hret] at h; cases h) hlk
  exact ⟨_, _, retOut X hx hret hn hi hd hr, hrun, hended, hP _ rfl ⟨⟨_, rfl⟩, hW, hsame⟩⟩
theorem Go.retI (X : Stand p l e R s m args below meth c T locs cells slots) (hx : p.tables.exec = Jvm.exec) (hlk : meth.locks = false) {pc : Nat} {Ls : Array Slot} {z : Int32} {rest : List Value} (hret : meth.sig.returnType = some .int)
    (hd : decode c.code pc = .ok (.ireturn, 1)) (hP : ∀ U : State, U.heap = T.heap → FrameEnd s (.returned (some (.int z))) U locs cells slots → P U (.returned (some (.int z)))) : Go p.tables e below P (T.setTop (mkF m pc Ls (.int z :: rest))) :=
  Go.ret X hx hlk hret rfl (Or.inl ⟨rfl, Or.inl rfl, _, rfl⟩) hd hP
theorem Go.retZ (X : Stand p l e R s m args below meth c T locs cells slots) (hx : p.tables.exec = Jvm.exec) (hlk : meth.locks = false) {pc : Nat} {Ls : Array Slot} {z : Int32} {rest : List Value} (hret : meth.sig.returnType = some .boolean) (hz : z = 0 ∨ z = 1)
    (hd : decode c.code pc = .ok (.ireturn, 1)) (hP : ∀ U : State, U.heap = T.heap → FrameEnd s (.returned (some (.int z))) U locs cells slots → P U (.returned (some (.int z)))) : Go p.tables e below P (T.setTop (mkF m pc Ls (.int z :: rest))) :=
  Go.ret X hx hlk hret (by rcases hz with rfl | rfl <;> rfl) (Or.inl ⟨rfl, Or.inr (Or.inl rfl), _, rfl⟩) hd hP
theorem Go.retJ (X : Stand p l e R s m args below meth c T locs cells slots) (hx : p.tables.exec = Jvm.exec) (hlk : meth.locks = false) {pc : Nat} {Ls : Array Slot} {z : Int64} {rest : List Value} (hret : meth.sig.returnType = some .long)
    (hd : decode c.code pc = .ok (.lreturn, 1)) (hP : ∀ U : State, U.heap = T.heap → FrameEnd s (.returned (some (.long z))) U locs cells slots → P U (.returned (some (.long z)))) : Go p.tables e below P (T.setTop (mkF m pc Ls (.long z :: rest))) :=
  Go.ret X hx hlk hret rfl (Or.inr (Or.inl ⟨rfl, rfl, _, rfl⟩)) hd hP
theorem Go.retR (X : Stand p l e R s m args below meth c T locs cells slots) (hx : p.tables.exec = Jvm.exec) (hlk : meth.locks = false) {pc : Nat} {Ls : Array Slot} {w : Value} {t : FieldType} {rest : List Value} (hret : meth.sig.returnType = some t) (ht : t.isReference = true) (hw : w.isRef = true)
    (hd : decode c.code pc = .ok (.areturn, 1)) (hP : ∀ U : State, U.heap = T.heap → FrameEnd s (.returned (some w)) U locs cells slots → P U (.returned (some w))) : Go p.tables e below P (T.setTop (mkF m pc Ls (w :: rest))) :=
  Go.ret X hx hlk hret (by rcases ref_cases hw with rfl | ⟨z, rfl⟩ <;> cases t <;> first | rfl | (cases ht)) (Or.inr (Or.inr (Or.inr (Or.inr ⟨rfl, ht, hw⟩)))) hd hP
theorem Go.retV (X : Stand p l e R s m args below meth c T locs cells slots) (hx : p.tables.exec = Jvm.exec) (hlk : meth.locks = false) {pc : Nat} {Ls : Array Slot} (hret : meth.sig.returnType = none)
    (hd : decode c.code pc = .ok (.return_, 1)) (hP : ∀ U : State, U.heap = T.heap → FrameEnd s (.returned none) U locs cells slots → P U (.returned none)) : Go p.tables e below P (T.setTop (mkF m pc Ls [])) := by
  obtain ⟨fs, hr, hrun, hended, hW, hsame⟩ := X.leave (v := none) (fun _ => rfl) hlk
  exact ⟨_, _, X.returnOut hx hret hd hr, hrun, hended, hP _ rfl ⟨⟨_, rfl⟩, hW, hsame⟩⟩
theorem Con.static {y : MethodName} {bytes : ByteArray} {maxL : Nat} {ret : Option FieldType} {rm : Room} {as' : Array Value} {Q : Option Value → Heap → List Loc → Prop} (C : Con l Z y bytes maxL ret [] rm as' h Q)
    (X : Stand p l e R s m args below meth c T locs cells slots) (hx : p.tables.exec = Jvm.exec) (hZ : Z.Warmed39 s.vm) {own : String} {index W : Nat} (hown : s.vm.findClass own = some m.cls)
    (wl : (Cond.methodLink own index y).before a0 Z = true) (wst : (Cond.static y).before a0 Z = true) (wz : (Cond.initialized y.cls).before a0 Z = true) (wc : (Cond.code y bytes maxL ret).before a0 Z = true)
    (hy : y.cls ≠ "java/lang/invoke/MethodHandle" ∧ y.cls ≠ "java/lang/invoke/VarHandle") (hf : rm.frames + 1 ≤ R.frames) (hl : W + (maxL + 11) + rm.locals ≤ R.locals) (hce : cells + rm.cells ≤ R.cells) (hsl : slots + rm.slots ≤ R.slots) (eT : T.heap = h)
    {g : JFrame} (hg : g.method = m) (hsize : g.locals.size = c.maxLocals) {argsL rest : List Value} (has : argsL.toArray = as') (hlen : ∀ sig, parseMethodDescriptor y.desc = some sig → argsL.length = sig.parameters.length)
    (hstack : g.stack = argsL.reverse ++ rest) (hW : 2 * g.monitorRoom + (rest.map fun v => v.category).sum ≤ W) (hdg : decode c.code g.pc = .ok (.invokestatic index, 3)) :
    ∃ (v : Option Value) (T' : State) (L : List Loc), Stand p l e R s m args below meth c T' (locs ++ L) (cells + rm.cells) (slots + rm.slots) ∧ Q v T'.heap L ∧
      ∀ {t : State}, Steps p.tables e below (T'.setTop { g with pc := g.pc + 3, stack := v.toList ++ rest }) t → Steps p.tables e below (T.setTop g) t := by
  obtain ⟨v, vm₁, ⟨T', L', k', n'⟩, -, X', ⟨L, hQ, e1, e2, e3⟩, st⟩ := Jvm.LawKit.callS X hx hown (mvT hZ wl) (mvT hZ wst) (mvT hZ wz) (mvT hZ wc) hy (backOf (W := W) C hZ wc wz hf hl) hg hsize hlen hstack hW hdg (fun _ _ => ⟨has, eT, hce, hsl⟩)
  dsimp only [Pt.U, Pt.locs, Pt.cells, Pt.slots] at X' e1 e2 e3 st hQ
  subst e1 e2 e3
  exact ⟨v, T', L, X', hQ, fun {t} k => st t k⟩
theorem Con.special {y : MethodName} {bytes : ByteArray} {maxL : Nat} {rm : Room} {as' : Array Value} {Q : Option Value → Heap → List Loc → Prop} (C : Con l Z y bytes maxL none [] rm as' h Q) (hy1 : y.name = "<init>")
    (X : Stand p l e R s m args below meth c T locs cells slots) (hx : p.tables.exec = Jvm.exec) (hZ : Z.Warmed39 s.vm) {own : String} {index W : Nat} (hown : s.vm.findClass own = some m.cls)
    (wl : (Cond.methodLink own index y).before a0 Z = true) (wi : (Cond.instanceMethod y).before a0 Z = true) (wz : (Cond.initialized y.cls).before a0 Z = true) (wc : (Cond.code y bytes maxL none).before a0 Z = true)
    (hy : y.cls ≠ "java/lang/invoke/MethodHandle" ∧ y.cls ≠ "java/lang/invoke/VarHandle") (hf : rm.frames + 1 ≤ R.frames) (hl : W + (maxL + 11) + rm.locals ≤ R.locals) (hce : cells + rm.cells ≤ R.cells) (hsl : slots + rm.slots ≤ R.slots) (eT : T.heap = h)
    {g : JFrame} (hg : g.method = m) (hsize : g.locals.size = c.maxLocals) {a : Addr} {argsL rest : List Value} (has : (Value.ref a :: argsL).toArray = as') (hlen : ∀ sig, parseMethodDescriptor y.desc = some sig → argsL.length = sig.parameters.length)
    (hstack : g.stack = argsL.reverse ++ .ref a :: rest) (hW : 2 * g.monitorRoom + (rest.map fun v => v.category).sum ≤ W) (hdg : decode c.code g.pc = .ok (.invokespecial index, 3)) :
    ∃ (v : Option Value) (T' : State) (L : List Loc), Stand p l e R s m args below meth c T' (locs ++ L) (cells + rm.cells) (slots + rm.slots) ∧ Q v T'.heap L ∧
      ∀ {t : State}, Steps p.tables e below (T'.setTop { g with pc := g.pc + 3, stack := v.toList ++ rest }) t → Steps p.tables e below (T.setTop g) t := by
  obtain ⟨v, vm₁, ⟨T', L', k', n'⟩, -, X', ⟨L, hQ, e1, e2, e3⟩, st⟩ := X.specialBack hx hy1 hown (mvT hZ wl) (mvT hZ wi) (mvT hZ wc) hy (backOf (W := W) C hZ wc wz hf hl) hg hsize (Steps.refl _) hlen hstack hW hdg (fun _ _ => ⟨has, eT, hce, hsl⟩)
  dsimp only [Pt.U, Pt.locs, Pt.cells, Pt.slots] at X' e1 e2 e3 st hQ
  subst e1 e2 e3
  exact ⟨v, T', L, X', hQ, fun {t} k => st.trans k⟩
theorem ConH.special {y : MethodName} {bytes : ByteArray} {maxL : Nat} {rm : Room} {as' : Array Value} {Q : Option Value → Heap → List Loc → Prop} {hs : List (Nat × Nat × Nat × Nat)} (C : ConH l Z y bytes maxL none hs [] rm as' h Q) (hy1 : y.name = "<init>")
    (X : Stand p l e R s m args below meth c T locs cells slots) (hx : p.tables.exec = Jvm.exec) (hZ : Z.Warmed39 s.vm) {own : String} {index W : Nat} (hown : s.vm.findClass own = some m.cls)
    (wl : (Cond.methodLink own index y).before a0 Z = true) (wi : (Cond.instanceMethod y).before a0 Z = true) (wz : (Cond.initialized y.cls).before a0 Z = true) (wc : (Cond.codeWith y bytes maxL none hs).before a0 Z = true)
    (hy : y.cls ≠ "java/lang/invoke/MethodHandle" ∧ y.cls ≠ "java/lang/invoke/VarHandle") (hf : rm.frames + 1 ≤ R.frames) (hl : W + (maxL + 11) + rm.locals ≤ R.locals) (hce : cells + rm.cells ≤ R.cells) (hsl : slots + rm.slots ≤ R.slots) (eT : T.heap = h)
    {g : JFrame} (hg : g.method = m) (hsize : g.locals.size = c.maxLocals) {a : Addr} {argsL rest : List Value} (has : (Value.ref a :: argsL).toArray = as') (hlen : ∀ sig, parseMethodDescriptor y.desc = some sig → argsL.length = sig.parameters.length)
    (hstack : g.stack = argsL.reverse ++ .ref a :: rest) (hW : 2 * g.monitorRoom + (rest.map fun v => v.category).sum ≤ W) (hdg : decode c.code g.pc = .ok (.invokespecial index, 3)) :
    ∃ (v : Option Value) (T' : State) (L : List Loc), Stand p l e R s m args below meth c T' (locs ++ L) (cells + rm.cells) (slots + rm.slots) ∧ Q v T'.heap L ∧
      ∀ {t : State}, Steps p.tables e below (T'.setTop { g with pc := g.pc + 3, stack := v.toList ++ rest }) t → Steps p.tables e below (T.setTop g) t := by
  obtain ⟨v, vm₁, ⟨T', L', k', n'⟩, -, X', ⟨L, hQ, e1, e2, e3⟩, st⟩ := X.specialBackH hx hy1 hown (mvT hZ wl) (mvT hZ wi) (mvT hZ wc) hy (backOfWith (W := W) C hZ wc wz hf hl) hg hsize (Steps.refl _) hlen hstack hW hdg (fun _ _ => ⟨has, eT, hce, hsl⟩)
  dsimp only [Pt.U, Pt.locs, Pt.cells, Pt.slots] at X' e1 e2 e3 st hQ
  subst e1 e2 e3
  exact ⟨v, T', L, X', hQ, fun {t} k => st.trans k⟩
theorem Con.virtual {y : MethodName} {bytes : ByteArray} {maxL : Nat} {ret : Option FieldType} {rm : Room} {as' : Array Value} {Q : Option Value → Heap → List Loc → Prop} (K : Con l Z y bytes maxL ret [] rm as' h Q)
    (X : Stand p l e R s m args below meth c T locs cells slots) (hx : p.tables.exec = Jvm.exec) (hZ : Z.Warmed39 s.vm) {own C : String} {index W : Nat} (hown : s.vm.findClass own = some m.cls)
    (wl : (Cond.methodLink own index y).before a0 Z = true) (wd : (Cond.declares y).before a0 Z = true) (wsel : (Cond.selects C y y).before a0 Z = true) (wi : (Cond.instanceMethod y).before a0 Z = true) (wz : (Cond.initialized y.cls).before a0 Z = true) (wc : (Cond.code y bytes maxL ret).before a0 Z = true)
    (hy : y.cls ≠ "java/lang/invoke/MethodHandle" ∧ y.cls ≠ "java/lang/invoke/VarHandle") (hf : rm.frames + 1 ≤ R.frames) (hl : W + (maxL + 11) + rm.locals ≤ R.locals) (hce : cells + rm.cells ≤ R.cells) (hsl : slots + rm.slots ≤ R.slots) (eT : T.heap = h)
    {g : JFrame} (hg : g.method = m) (hsize : g.locals.size = c.maxLocals) {a : Addr} (E : Exa Z h a C) {argsL rest : List Value} (has : (Value.ref a :: argsL).toArray = as') (hlen : ∀ sig, parseMethodDescriptor y.desc = some sig → argsL.length = sig.parameters.length)
    (hstack : g.stack = argsL.reverse ++ .ref a :: rest) (hW : 2 * g.monitorRoom + (rest.map fun v => v.category).sum ≤ W) (hdg : decode c.code g.pc = .ok (.invokevirtual index, 3)) :
    ∃ (v : Option Value) (T' : State) (L : List Loc), Stand p l e R s m args below meth c T' (locs ++ L) (cells + rm.cells) (slots + rm.slots) ∧ Q v T'.heap L ∧
      ∀ {t : State}, Steps p.tables e below (T'.setTop { g with pc := g.pc + 3, stack := v.toList ++ rest }) t → Steps p.tables e below (T.setTop g) t := by
  obtain ⟨cq, kq, qa, qb, qc⟩ := isOf hZ eT E
  obtain ⟨v, vm₁, ⟨T', L', k', n'⟩, -, X', ⟨L, hQ, e1, e2, e3⟩, st⟩ := X.virtualBack hx hown (mvT hZ wl) (mvT hZ wd) (notFace_of_selects (args := #[]) (mvT hZ wsel)) (mvT hZ wsel) (mvT hZ wi) hy (backOf (W := W) K hZ wc wz hf hl) qa qc hg hsize (Steps.refl _) hlen hstack hW hdg (fun _ _ => ⟨has, eT, hce, hsl⟩)
  dsimp only [Pt.U, Pt.locs, Pt.cells, Pt.slots] at X' e1 e2 e3 st hQ
  subst e1 e2 e3
  exact ⟨v, T', L, X', hQ, fun {t} k => st.trans k⟩
theorem Con.priv {y : MethodName} {bytes : ByteArray} {maxL : Nat} {ret : Option FieldType} {rm : Room} {as' : Array Value} {Q : Option Value → Heap → List Loc → Prop} (K : Con l Z y bytes maxL ret [] rm as' h Q)
    (X : Stand p l e R s m args below meth c T locs cells slots) (hx : p.tables.exec = Jvm.exec) (hZ : Z.Warmed39 s.vm) {own C : String} {index W kk : Nat} (hown : s.vm.findClass own = some m.cls)
    (wl : (Cond.methodLink own index y).before a0 Z = true) (wn : (Cond.instantiable y.cls kk).before a0 Z = true) (wp : (Cond.privateMethod y).before a0 Z = true) (wi : (Cond.instanceMethod y).before a0 Z = true) (wz : (Cond.initialized y.cls).before a0 Z = true) (wc : (Cond.code y bytes maxL ret).before a0 Z = true)
    (hy : y.cls ≠ "java/lang/invoke/MethodHandle" ∧ y.cls ≠ "java/lang/invoke/VarHandle") (hf : rm.frames + 1 ≤ R.frames) (hl : W + (maxL + 11) + rm.locals ≤ R.locals) (hce : cells + rm.cells ≤ R.cells) (hsl : slots + rm.slots ≤ R.slots) (eT : T.heap = h)
    {g : JFrame} (hg : g.method = m) (hsize : g.locals.size = c.maxLocals) {a : Addr} (E : Exa Z h a C) {argsL rest : List Value} (has : (Value.ref a :: argsL).toArray = as') (hlen : ∀ sig, parseMethodDescriptor y.desc = some sig → argsL.length = sig.parameters.length)
    (hstack : g.stack = argsL.reverse ++ .ref a :: rest) (hW : 2 * g.monitorRoom + (rest.map fun v => v.category).sum ≤ W) (hdg : decode c.code g.pc = .ok (.invokevirtual index, 3)) :
    ∃ (v : Option Value) (T' : State) (L : List Loc), Stand p l e R s m args below meth c T' (locs ++ L) (cells + rm.cells) (slots + rm.slots) ∧ Q v T'.heap L ∧
      ∀ {t : State}, Steps p.tables e below (T'.setTop { g with pc := g.pc + 3, stack := v.toList ++ rest }) t → Steps p.tables e below (T.setTop g) t := by
  have hpa : s.PrivateAt y := Cond.privateMethod_at (mvP hZ wp (args := args))
  have win : (Cond.instanceMethod y).before args s = true := mvT hZ wi
  have wnn : (Cond.instantiable y.cls kk).before args s = true := mvT hZ wn
  obtain ⟨ci, ki, i1, i2, i3, i4, -⟩ := Cond.instantiable_spec wnn
  have hni : ki.isInterface = false := (Bool.or_eq_false_iff.mp i4).1
  obtain ⟨cl, hcl, hob⟩ := E.cell
  obtain ⟨v, vm₁, ⟨T', L', k', n'⟩, -, X', ⟨L, hQ, e1, e2, e3⟩, st⟩ := X.privateBack hx hown (mvT hZ wl) win (selects_self_of_private i1 i2 hni hpa win hy) hpa (mvT hZ wc) hy (backOf (W := W) K hZ wc wz hf hl) hg hsize (Steps.refl _) (by rw [eT]; exact hcl) hob hlen hstack hW hdg (fun _ _ => ⟨has, eT, hce, hsl⟩)
  dsimp only [Pt.U, Pt.locs, Pt.cells, Pt.slots] at X' e1 e2 e3 st hQ
  subst e1 e2 e3
  exact ⟨v, T', L, X', hQ, fun {t} k => st.trans k⟩
theorem Con.virtualUp {x z : MethodName} {bytes : ByteArray} {maxL : Nat} {ret : Option FieldType} {rm : Room} {as' : Array Value} {Q : Option Value → Heap → List Loc → Prop} (K : Con l Z z bytes maxL ret [] rm as' h Q)
    (X : Stand p l e R s m args below meth c T locs cells slots) (hx : p.tables.exec = Jvm.exec) (hZ : Z.Warmed39 s.vm) {own C owner : String} {index W : Nat} (hown : s.vm.findClass own = some m.cls)
    (wl : (Cond.methodLink own index x).before a0 Z = true) (wsm : (Cond.sameMethod x.cls owner x.name x.desc).before a0 Z = true) (wd : (Cond.declares ⟨owner, x.name, x.desc⟩).before a0 Z = true) (wsel : (Cond.selects C x z).before a0 Z = true) (wi : (Cond.instanceMethod z).before a0 Z = true) (wz : (Cond.initialized z.cls).before a0 Z = true) (wc : (Cond.code z bytes maxL ret).before a0 Z = true)
    (ho : owner ≠ "java/lang/invoke/MethodHandle" ∧ owner ≠ "java/lang/invoke/VarHandle") (hf : rm.frames + 1 ≤ R.frames) (hl : W + (maxL + 11) + rm.locals ≤ R.locals) (hce : cells + rm.cells ≤ R.cells) (hsl : slots + rm.slots ≤ R.slots) (eT : T.heap = h)
    {g : JFrame} (hg : g.method = m) (hsize : g.locals.size = c.maxLocals) {a : Addr} (E : Exa Z h a C) {argsL rest : List Value} (has : (Value.ref a :: argsL).toArray = as') (hlen : ∀ sig, parseMethodDescriptor x.desc = some sig → argsL.length = sig.parameters.length)
    (hstack : g.stack = argsL.reverse ++ .ref a :: rest) (hW : 2 * g.monitorRoom + (rest.map fun v => v.category).sum ≤ W) (hdg : decode c.code g.pc = .ok (.invokevirtual index, 3)) :
    ∃ (v : Option Value) (T' : State) (L : List Loc), Stand p l e R s m args below meth c T' (locs ++ L) (cells + rm.cells) (slots + rm.slots) ∧ Q v T'.heap L ∧
      ∀ {t : State}, Steps p.tables e below (T'.setTop { g with pc := g.pc + 3, stack := v.toList ++ rest }) t → Steps p.tables e below (T.setTop g) t := by
  obtain ⟨cq, kq, qa, qb, qc⟩ := isOf hZ eT E
  obtain ⟨v, vm₁, ⟨T', L', k', n'⟩, -, X', ⟨L, hQ, e1, e2, e3⟩, st⟩ := X.virtualBackUp hx hown (mvT hZ wl) (mvT hZ wsm) (mvT hZ wd) ho (mvT hZ wsel) (mvT hZ wi) (backOf (W := W) K hZ wc wz hf hl) qa qc hg hsize (Steps.refl _) hlen hstack hW hdg (fun _ _ => ⟨has, eT, hce, hsl⟩)
  dsimp only [Pt.U, Pt.locs, Pt.cells, Pt.slots] at X' e1 e2 e3 st hQ
  subst e1 e2 e3
  exact ⟨v, T', L, X', hQ, fun {t} k => st.trans k⟩
/-- the cell of an object is one that the model knows -/
def Kn (h : Heap) (a : Addr) : Prop := ∃ cell : Cell, h[a]? = some cell ∧ cell.vm ≠ .unknown
theorem Kn.of_new {h' : Heap} {a : Addr} (u : ∃ cell : Cell, h'[a]? = some cell ∧ cell.vm = .none ∧ cell.monitor = {}) : Kn h' a := by obtain ⟨c, h1, h2, -⟩ := u; exact ⟨c, h1, by rw [h2]; simp⟩
theorem Kn.ext {h h' : Heap} {a : Addr} (F : Kn h a) (E : Ext h h') : Kn h' a := by obtain ⟨c, h1, h2⟩ := F; exact ⟨c, E.2 _ _ h1, h2⟩
theorem Kn.keep {h h' : Heap} {a : Addr} {ws : List Addr} (F : Kn h a) (K : Keep h h' ws) : Kn h' a := by
  obtain ⟨c, h1, h2⟩ := F; obtain ⟨c', q, -, q2, -⟩ := K.2.2 a c h1; exact ⟨c', q, by rw [q2]; exact h2⟩
theorem Kn.wr {h h' : Heap} {a b : Addr} {sl : Nat} {v : Value} (F : Kn h a) (W : Wr h h' b sl v) : Kn h' a := F.keep (Keep.of_wr W)
theorem Kn.fld {h : Heap} {a : Addr} {O n d : String} {v : Value} {Z : State} (F : Fld Z h a O n d v) : Kn h a := by obtain ⟨c, _, _, _, _, h1, -, -, h4, -⟩ := F; exact ⟨c, h1, h4⟩
theorem lremM {g : JFrame} {target : State} (X : Stand p l e R s m args below meth c T locs cells slots) (hx : p.tables.exec = Jvm.exec) (hg : g.method = m) {x y : Int64} {rest : List Value} (hd : decode c.code g.pc = .ok (.lrem, 1)) (hs : g.stack = .long y :: .long x :: rest) (hy : y ≠ 0)
    (hr : Steps p.tables e below (T.setTop { g with pc := g.pc + 1, stack := .long (x % y) :: rest }) target) : Steps p.tables e below (T.setTop g) target := by
  exact XT.lrem X.here hx hg hd hs hy (by rw [lrem_mod]; exact hr)
theorem Sta.own_keep {Z : State} {h h' : Heap} {C n d : String} {v : Value} {ws : List Addr} (F : Sta Z h C n d v) (K : Keep h h' ws) (q : ∀ a ∈ ws, ∃ C', Exa Z h a C') : Sta Z h' C n d v := by
  obtain ⟨cf, i, k, f, st, cell, h1, h2, h3, h4, h5, h6, h7⟩ := F
  refine ⟨cf, i, k, f, st, cell, h1, h2, h3, h4, K.2.1 st cell h5 fun hm => ?_, h6, h7⟩
  obtain ⟨C', c2, _, g1, -, -, g4, -⟩ := q st hm
  cases h5.symm.trans g1
  rw [h6] at g4; cases g4
theorem own_nar {t : FieldType} {v : Value} (h : v.isRef = true) (ht : t.isReference = true) : narrow t v = v := by
  rcases ref_cases h with rfl | ⟨z, rfl⟩ <;> cases t <;> first | rfl | (cases ht)
theorem own_fit {t : FieldType} {v : Value} (h : v.isRef = true) (ht : t.isReference = true) : fits t v = true := by
  rcases ref_cases h with rfl | ⟨z, rfl⟩ <;> cases t <;> first | rfl | (cases ht)
theorem own_eq_int {t : Term} {k : Int32} {args : Array Value} {first s : State} {o : Option Outcome} {idx : List Nat} (h : (Cond.eq t (Term.int k)).value args first o s idx = some true) : t.eval args first o idx s = some (.int k) := by
  simp only [Cond.value, Term.eval] at h
  cases ht : t.eval args first o idx s with
  | none => simp [ht] at h
  | some x => cases x <;> simp [ht] at h ⊢; exact h
theorem pop2L {g : JFrame} {target : State} (X : Stand p l e R s m args below meth c T locs cells slots) (hx : p.tables.exec = Jvm.exec) (hg : g.method = m) {x : Int64} {rest : List Value} (hd : decode c.code g.pc = .ok (.pop2, 1)) (hs : g.stack = .long x :: rest)
    (hr : Steps p.tables e below (T.setTop { g with pc := g.pc + 1, stack := rest }) target) : Steps p.tables e below (T.setTop g) target := by
  subst hg
  jvm_step X.here [X.here.top, hx, hd, Op.pop2.wp_sem, hs, Value.category]
  exact hr
theorem own_tdiv (D k : Int) : (0 ≤ D ∧ D.tdiv k = D / k) ∨ (D < 0 ∧ D.tdiv k = -((-D) / k)) := by
  rcases Int.lt_or_le D 0 with h | h
  · refine Or.inr ⟨h, ?_⟩
    have e : D.tdiv k = -((-D).tdiv k) := by rw [Int.neg_tdiv]; omega
    rw [e, Int.tdiv_eq_ediv_of_nonneg (by omega)]
  · exact Or.inl ⟨h, Int.tdiv_eq_ediv_of_nonneg h⟩
theorem own_tmod (D k : Int) : (0 ≤ D ∧ D.tmod k = D % k) ∨ (D < 0 ∧ D.tmod k = -((-D) % k)) := by
  rcases Int.lt_or_le D 0 with h | h
  · refine Or.inr ⟨h, ?_⟩
    have e : D.tmod k = -((-D).tmod k) := by rw [Int.neg_tmod]; omega
    rw [e, Int.tmod_eq_emod_of_nonneg (by omega)]
  · exact Or.inl ⟨h, Int.tmod_eq_emod_of_nonneg h⟩
end Walk
end Jvm.OwnKit
namespace Jvm.Pilot.@@N@@
open Jvm Jvm.ClassFile Sem Op Lib Jvm.Free Jvm.Stand Jvm.LawKit Jvm.RoadKit Bundle Jvm.Pilot.@@N@@.Jvm.D Jvm.OwnKit
-- (<init> returns nothing)
theorem own_ef2 (m : MethodId) (a : Addr) : entryFrame m #[(.ref a)] 1 = mkF m 0 #[.val (.ref a)] [] := by
  (first | (simp [entryFrame, mkF, argsToLocals, Value.category]; done) | rfl)
theorem own_pn_0 : plainName "java/lang/Record" = true := by first | (simp [plainName, overriddenIn]; done) | decide +kernel
theorem own_d2_0 : decode jdk_30_method_1_code 0 = .ok (.aload_n 0, 1) := by decide +kernel
theorem own_d2_1 : decode jdk_30_method_1_code 1 = .ok (.invokespecial 1, 3) := by decide +kernel
theorem own_d2_4 : decode jdk_30_method_1_code 4 = .ok (.return_, 1) := by decide +kernel
set_option maxRecDepth 65536 in
set_option maxHeartbeats 40000000 in
theorem own_rm2 (l : Launch) (Z : State) (a0 : Array Value) (hw : ∀ d ∈ tables_1, d.before a0 Z = true) (ws : List Jvm.Cond) (a : Addr) (h0 : Heap) (n0 : Nat) (Z0 : n0 ≤ h0.size)   :
    Con l Z (⟨"java/lang/Record", "<init>", "()V"⟩ : MethodName) jdk_30_method_1_code 1 none ws ({ frames := 1, cells := 0, slots := 0, locals := 12 } : Room) #[(.ref a)] h0 (fun v h L => v = none ∧ Fr n0 L ∧ h = h0) := by
  refine Con.intro (plainFor_of_name own_pn_0) ?_
  intro p e s m below meth c s₁ P hx hby hml hown hnm hret hlk hZ X0 e0 hP
  have N0 := Fr.nil n0
  have hown : s.vm.findClass "java/lang/Record" = some m.cls := hown
  refine Go.cast (own_ef2 m a) ?_
  show Go p.tables e below P (s₁.setTop (mkF m 0 #[.val (.ref a)] []))
  refine Go.s (fun kz => XS.aloadN X0.here hx rfl (hb hby own_d2_0) rfl rfl kz) ?_
  show Go p.tables e below P (s₁.setTop (mkF m 1 #[.val (.ref a)] [(.ref a)]))
  obtain ⟨T1, X1, e1, st1⟩ := initO X0 hx hZ hown (hw _ (List.mem_of_getElem? (i := 15) rfl)) (hw _ (List.mem_of_getElem? (i := 16) rfl)) (hw _ (List.mem_of_getElem? (i := 17) rfl)) e0 (g := (mkF m 1 #[.val (.ref a)] [(.ref a)])) rfl (by rw [hml]; rfl) rfl (hb hby own_d2_1) (by decide) (W := 0) (by show 2 * 0 + _ ≤ _; exact Nat.le_of_eq rfl) (by decide)
  refine Go.s (fun {t} => st1 t) ?_
  show Go p.tables e below P (T1.setTop (mkF m 4 #[.val (.ref a)] []))
  exact Go.retV X1 hx hlk hret (hb hby own_d2_4) (fun U hU hF => hP U _ _ (by rw [hU, e1]; exact ⟨rfl, N0, rfl⟩) ⟨hF.1, hF.2.1, hF.2.2.mono (by decide) (by decide)⟩)
theorem own_ef1 (m : MethodId) (a : Addr) (ca : Int32) (ph : Int32) (ho : Int32) (wy : Value) (hwy : wy.isRef = true) : entryFrame m #[(.ref a), (.int ca), (.int ph), (.int ho), wy] 5 = mkF m 0 #[.val (.ref a), .val (.int ca), .val (.int ph), .val (.int ho), .val wy] [] := by
  rcases ref_cases hwy with rfl | ⟨_, rfl⟩ <;>
  (first | (simp [entryFrame, mkF, argsToLocals, Value.category]; done) | rfl)
theorem own_pn_1 : plainName "com/example/paperwasp/paperwasp/hs/HsMessage$Probe" = true := by first | (simp [plainName, overriddenIn]; done) | decide +kernel
theorem own_d1_0 : decode prog_26_method_1_code 0 = .ok (.aload_n 0, 1) := by decide +kernel
theorem own_pd_0 : parseMethodDescriptor "()V" = some ⟨[], none⟩ := by decide +kernel
theorem own_d1_1 : decode prog_26_method_1_code 1 = .ok (.invokespecial 1, 3) := by decide +kernel
theorem own_d1_4 : decode prog_26_method_1_code 4 = .ok (.aload_n 0, 1) := by decide +kernel
theorem own_d1_5 : decode prog_26_method_1_code 5 = .ok (.iload_n 1, 1) := by decide +kernel
theorem own_d1_6 : decode prog_26_method_1_code 6 = .ok (.putfield 7, 3) := by decide +kernel
theorem own_d1_9 : decode prog_26_method_1_code 9 = .ok (.aload_n 0, 1) := by decide +kernel
theorem own_d1_10 : decode prog_26_method_1_code 10 = .ok (.iload_n 2, 1) := by decide +kernel
theorem own_d1_11 : decode prog_26_method_1_code 11 = .ok (.putfield 13, 3) := by decide +kernel
theorem own_d1_14 : decode prog_26_method_1_code 14 = .ok (.aload_n 0, 1) := by decide +kernel
theorem own_d1_15 : decode prog_26_method_1_code 15 = .ok (.iload_n 3, 1) := by decide +kernel
theorem own_d1_16 : decode prog_26_method_1_code 16 = .ok (.putfield 16, 3) := by decide +kernel
theorem own_d1_19 : decode prog_26_method_1_code 19 = .ok (.aload_n 0, 1) := by decide +kernel
theorem own_d1_20 : decode prog_26_method_1_code 20 = .ok (.aload 4, 2) := by decide +kernel
theorem own_d1_22 : decode prog_26_method_1_code 22 = .ok (.putfield 19, 3) := by decide +kernel
theorem own_d1_25 : decode prog_26_method_1_code 25 = .ok (.return_, 1) := by decide +kernel
set_option maxRecDepth 65536 in
set_option maxHeartbeats 40000000 in
theorem own_rm1 (l : Launch) (Z : State) (a0 : Array Value) (hw : ∀ d ∈ tables_1, d.before a0 Z = true) (ws : List Jvm.Cond) (a : Addr) (ca : Int32) (ph : Int32) (ho : Int32) (wy : Value) (h0 : Heap) (n0 : Nat) (Z0 : n0 ≤ h0.size) (E0 : Exa Z h0 a "com/example/paperwasp/paperwasp/hs/HsMessage$Probe") (U0 : Kn h0 a) (G0 : n0 ≤ a) (hr_wy : wy.isRef = true)  :
    Con l Z (⟨"com/example/paperwasp/paperwasp/hs/HsMessage$Probe", "<init>", "(IIILcom/example/paperwasp/paperwasp/hs/HsMessage$Way;)V"⟩ : MethodName) prog_26_method_1_code 5 none ws ({ frames := 2, cells := 0, slots := 0, locals := 24 } : Room) #[(.ref a), (.int ca), (.int ph), (.int ho), wy] h0 (fun v h L => v = none ∧ Fr n0 L ∧ Keep h0 h [a] ∧ Fld Z h a "com/example/paperwasp/paperwasp/hs/HsMessage$Probe" "hops" "I" (.int ho) ∧ Fld Z h a "com/example/paperwasp/paperwasp/hs/HsMessage$Probe" "phase" "I" (.int ph)) := by
  refine Con.intro (plainFor_of_name own_pn_1) ?_
  intro p e s m below meth c s₁ P hx hby hml hown hnm hret hlk hZ X0 e0 hP
  have N0 := Fr.nil n0
  have hown : s.vm.findClass "com/example/paperwasp/paperwasp/hs/HsMessage$Probe" = some m.cls := hown
  refine Go.cast (own_ef1 m a ca ph ho wy hr_wy) ?_
  show Go p.tables e below P (s₁.setTop (mkF m 0 #[.val (.ref a), .val (.int ca), .val (.int ph), .val (.int ho), .val wy] []))
  refine Go.s (fun kz => XS.aloadN X0.here hx rfl (hb hby own_d1_0) rfl rfl kz) ?_
  show Go p.tables e below P (s₁.setTop (mkF m 1 #[.val (.ref a), .val (.int ca), .val (.int ph), .val (.int ho), .val wy] [(.ref a)]))
  obtain ⟨v1, T1, L1, X1, Q1, st1⟩ := Con.special (own_rm2 l Z a0 hw [] a h0 n0 Z0  ) rfl X0 hx hZ (W := 0) hown (hw _ (List.mem_of_getElem? (i := 10) rfl)) (hw _ (List.mem_of_getElem? (i := 11) rfl)) (hw _ (List.mem_of_getElem? (i := 13) rfl)) (hw _ (List.mem_of_getElem? (i := 14) rfl)) (by decide) (by decide) (by decide) (by decide) (by decide) e0 (g := (mkF m 1 #[.val (.ref a), .val (.int ca), .val (.int ph), .val (.int ho), .val wy] [(.ref a)])) rfl (by rw [hml]; rfl) (argsL := []) (rest := []) rfl (lenOf own_pd_0 rfl) rfl (by show 2 * 0 + _ ≤ _; exact Nat.le_of_eq rfl) (hb hby own_d1_1)
  obtain ⟨rfl, Nq1, e1⟩ := Q1
  have N1 := Fr.app N0 Nq1
  refine Go.s (fun {t} => st1) ?_
  show Go p.tables e below P (T1.setTop (mkF m 4 #[.val (.ref a), .val (.int ca), .val (.int ph), .val (.int ho), .val wy] []))
  refine Go.s (fun kz => XS.aloadN X1.here hx rfl (hb hby own_d1_4) rfl rfl kz) ?_
  show Go p.tables e below P (T1.setTop (mkF m 5 #[.val (.ref a), .val (.int ca), .val (.int ph), .val (.int ho), .val wy] [(.ref a)]))
  refine Go.s (fun kz => XS.iloadN X1.here hx rfl (hb hby own_d1_5) rfl kz) ?_
  show Go p.tables e below P (T1.setTop (mkF m 6 #[.val (.ref a), .val (.int ca), .val (.int ph), .val (.int ho), .val wy] [(.int ca), (.ref a)]))
  obtain ⟨u2, Fo2⟩ := fld_laid E0 U0 (hw _ (List.mem_of_getElem? (i := 5) rfl)) (Or.inr (hw _ (List.mem_of_getElem? (i := 19) rfl)))
  obtain ⟨T2, H2, X2, e2, W2, st2⟩ := putF X1 hx hZ hown (host := "") (Or.inl (hw _ (List.mem_of_getElem? (i := 18) rfl))) Via.refl e1 Fo2 E0 (Or.inr ⟨(hw _ (List.mem_of_getElem? (i := 19) rfl)), rfl, hnm⟩) (hw _ (List.mem_of_getElem? (i := 5) rfl)) (ty := .int) (by decide) rfl rfl (g := (mkF m 6 #[.val (.ref a), .val (.int ca), .val (.int ph), .val (.int ho), .val wy] [(.int ca), (.ref a)])) rfl rfl (hb hby own_d1_6)
  refine Go.s (fun {t} => st2 t) ?_
  have Fw2 := Fld.same W2 Fo2
  have E0_3 := Exa.wr W2 E0
  have U0_4 := Kn.wr U0 W2
  have N2 := Fr.snoc X2 N1 G0
  have Zs2 := Nat.le_trans Z0 (Keep.of_wr W2).1
  have K2 : Keep h0 H2 [a] := (Keep.refl h0 [a]).wr W2 (Or.inl (List.mem_of_getElem? (i := 0) rfl))
  show Go p.tables e below P (T2.setTop (mkF m 9 #[.val (.ref a), .val (.int ca), .val (.int ph), .val (.int ho), .val wy] []))
  refine Go.s (fun kz => XS.aloadN X2.here hx rfl (hb hby own_d1_9) rfl rfl kz) ?_
  show Go p.tables e below P (T2.setTop (mkF m 10 #[.val (.ref a), .val (.int ca), .val (.int ph), .val (.int ho), .val wy] [(.ref a)]))
  refine Go.s (fun kz => XS.iloadN X2.here hx rfl (hb hby own_d1_10) rfl kz) ?_
  show Go p.tables e below P (T2.setTop (mkF m 11 #[.val (.ref a), .val (.int ca), .val (.int ph), .val (.int ho), .val wy] [(.int ph), (.ref a)]))
  obtain ⟨u5, Fo5⟩ := fld_laid E0_3 U0_4 (hw _ (List.mem_of_getElem? (i := 5) rfl)) (Or.inr (hw _ (List.mem_of_getElem? (i := 21) rfl)))
  obtain ⟨T5, H5, X5, e5, W5, st5⟩ := putF X2 hx hZ hown (host := "") (Or.inl (hw _ (List.mem_of_getElem? (i := 20) rfl))) Via.refl e2 Fo5 E0_3 (Or.inr ⟨(hw _ (List.mem_of_getElem? (i := 21) rfl)), rfl, hnm⟩) (hw _ (List.mem_of_getElem? (i := 5) rfl)) (ty := .int) (by decide) rfl rfl (g := (mkF m 11 #[.val (.ref a), .val (.int ca), .val (.int ph), .val (.int ho), .val wy] [(.int ph), (.ref a)])) rfl rfl (hb hby own_d1_11)
  refine Go.s (fun {t} => st5 t) ?_
  have Fw5 := Fld.same W5 Fo5
  have E0_6 := Exa.wr W5 E0_3
  have U0_7 := Kn.wr U0_4 W5
  have Fw2_8 := Fld.other W5 Fw2 (Or.inr (slot_ne (Or.inr (hw _ (List.mem_of_getElem? (i := 19) rfl))) (Or.inr (hw _ (List.mem_of_getElem? (i := 21) rfl))) (by decide) (t := .int) (t' := .int) (by decide) (by decide)))
  have N5 := Fr.snoc X5 N2 G0
  have Zs5 := Nat.le_trans Zs2 (Keep.of_wr W5).1
  have K5 : Keep h0 H5 [a] := K2.wr W5 (Or.inl (List.mem_of_getElem? (i := 0) rfl))
  show Go p.tables e below P (T5.setTop (mkF m 14 #[.val (.ref a), .val (.int ca), .val (.int ph), .val (.int ho), .val wy] []))
  refine Go.s (fun kz => XS.aloadN X5.here hx rfl (hb hby own_d1_14) rfl rfl kz) ?_
  show Go p.tables e below P (T5.setTop (mkF m 15 #[.val (.ref a), .val (.int ca), .val (.int ph), .val (.int ho), .val wy] [(.ref a)]))
  refine Go.s (fun kz => XS.iloadN X5.here hx rfl (hb hby own_d1_15) rfl kz) ?_
  show Go p.tables e below P (T5.setTop (mkF m 16 #[.val (.ref a), .val (.int ca), .val (.int ph), .val (.int ho), .val wy] [(.int ho), (.ref a)]))
  obtain ⟨u9, Fo9⟩ := fld_laid E0_6 U0_7 (hw _ (List.mem_of_getElem? (i := 5) rfl)) (Or.inr (hw _ (List.mem_of_getElem? (i := 23) rfl)))
  obtain ⟨T9, H9, X9, e9, W9, st9⟩ := putF X5 hx hZ hown (host := "") (Or.inl (hw _ (List.mem_of_getElem? (i := 22) rfl))) Via.refl e5 Fo9 E0_6 (Or.inr ⟨(hw _ (List.mem_of_getElem? (i := 23) rfl)), rfl, hnm⟩) (hw _ (List.mem_of_getElem? (i := 5) rfl)) (ty := .int) (by decide) rfl rfl (g := (mkF m 16 #[.val (.ref a), .val (.int ca), .val (.int ph), .val (.int ho), .val wy] [(.int ho), (.ref a)])) rfl rfl (hb hby own_d1_16)
  refine Go.s (fun {t} => st9 t) ?_
  have Fw9 := Fld.same W9 Fo9
  have E0_10 := Exa.wr W9 E0_6
  have U0_11 := Kn.wr U0_7 W9
  have Fw2_12 := Fld.other W9 Fw2_8 (Or.inr (slot_ne (Or.inr (hw _ (List.mem_of_getElem? (i := 19) rfl))) (Or.inr (hw _ (List.mem_of_getElem? (i := 23) rfl))) (by decide) (t := .int) (t' := .int) (by decide) (by decide)))
  have Fw5_13 := Fld.other W9 Fw5 (Or.inr (slot_ne (Or.inr (hw _ (List.mem_of_getElem? (i := 21) rfl))) (Or.inr (hw _ (List.mem_of_getElem? (i := 23) rfl))) (by decide) (t := .int) (t' := .int) (by decide) (by decide)))
  have N9 := Fr.snoc X9 N5 G0
  have Zs9 := Nat.le_trans Zs5 (Keep.of_wr W9).1
  have K9 : Keep h0 H9 [a] := K5.wr W9 (Or.inl (List.mem_of_getElem? (i := 0) rfl))
  show Go p.tables e below P (T9.setTop (mkF m 19 #[.val (.ref a), .val (.int ca), .val (.int ph), .val (.int ho), .val wy] []))
  refine Go.s (fun kz => XS.aloadN X9.here hx rfl (hb hby own_d1_19) rfl rfl kz) ?_
  show Go p.tables e below P (T9.setTop (mkF m 20 #[.val (.ref a), .val (.int ca), .val (.int ph), .val (.int ho), .val wy] [(.ref a)]))
  refine Go.s (fun kz => XS.aload X9.here hx rfl (hb hby own_d1_20) rfl hr_wy kz) ?_
  show Go p.tables e below P (T9.setTop (mkF m 22 #[.val (.ref a), .val (.int ca), .val (.int ph), .val (.int ho), .val wy] [wy, (.ref a)]))
  obtain ⟨u14, Fo14⟩ := fld_laid E0_10 U0_11 (hw _ (List.mem_of_getElem? (i := 5) rfl)) (Or.inr (hw _ (List.mem_of_getElem? (i := 25) rfl)))
  obtain ⟨T14, H14, X14, e14, W14, st14⟩ := putF X9 hx hZ hown (host := "") (Or.inl (hw _ (List.mem_of_getElem? (i := 24) rfl))) Via.refl e9 Fo14 E0_10 (Or.inr ⟨(hw _ (List.mem_of_getElem? (i := 25) rfl)), rfl, hnm⟩) (hw _ (List.mem_of_getElem? (i := 5) rfl)) (ty := (.object "com/example/paperwasp/paperwasp/hs/HsMessage$Way")) (by decide) (own_nar hr_wy rfl) (own_fit hr_wy rfl) (g := (mkF m 22 #[.val (.ref a), .val (.int ca), .val (.int ph), .val (.int ho), .val wy] [wy, (.ref a)])) rfl rfl (hb hby own_d1_22)
  refine Go.s (fun {t} => st14 t) ?_
  have Fw14 := Fld.same W14 Fo14
  have E0_15 := Exa.wr W14 E0_10
  have U0_16 := Kn.wr U0_11 W14
  have Fw2_17 := Fld.other W14 Fw2_12 (Or.inr (slot_ne (Or.inr (hw _ (List.mem_of_getElem? (i := 19) rfl))) (Or.inr (hw _ (List.mem_of_getElem? (i := 25) rfl))) (by decide) (t := .int) (t' := (.object "com/example/paperwasp/paperwasp/hs/HsMessage$Way")) (by decide) (by decide)))
  have Fw5_18 := Fld.other W14 Fw5_13 (Or.inr (slot_ne (Or.inr (hw _ (List.mem_of_getElem? (i := 21) rfl))) (Or.inr (hw _ (List.mem_of_getElem? (i := 25) rfl))) (by decide) (t := .int) (t' := (.object "com/example/paperwasp/paperwasp/hs/HsMessage$Way")) (by decide) (by decide)))
  have Fw9_19 := Fld.other W14 Fw9 (Or.inr (slot_ne (Or.inr (hw _ (List.mem_of_getElem? (i := 23) rfl))) (Or.inr (hw _ (List.mem_of_getElem? (i := 25) rfl))) (by decide) (t := .int) (t' := (.object "com/example/paperwasp/paperwasp/hs/HsMessage$Way")) (by decide) (by decide)))
  have N14 := Fr.snoc X14 N9 G0
  have Zs14 := Nat.le_trans Zs9 (Keep.of_wr W14).1
  have K14 : Keep h0 H14 [a] := K9.wr W14 (Or.inl (List.mem_of_getElem? (i := 0) rfl))
  show Go p.tables e below P (T14.setTop (mkF m 25 #[.val (.ref a), .val (.int ca), .val (.int ph), .val (.int ho), .val wy] []))
  exact Go.retV X14 hx hlk hret (hb hby own_d1_25) (fun U hU hF => hP U _ _ (by rw [hU, e14]; exact ⟨rfl, N14, K14, Fw9_19, Fw5_18⟩) ⟨hF.1, hF.2.1, hF.2.2.mono (by decide) (by decide)⟩)
def own_f4 (ho : Int32) (ph : Int32) : Int32 := (if ho.toInt64 < ((1 : Int64) <<< (ph.toInt64 &&& 63)) then (0 : Int32) else (1 : Int32))
theorem own_ef4 (m : MethodId) (a : Addr) : entryFrame m #[(.ref a)] 1 = mkF m 0 #[.val (.ref a)] [] := by
  (first | (simp [entryFrame, mkF, argsToLocals, Value.category]; done) | rfl)
theorem own_d4_0 : decode prog_26_method_2_code 0 = .ok (.aload_n 0, 1) := by decide +kernel
theorem own_d4_1 : decode prog_26_method_2_code 1 = .ok (.getfield 16, 3) := by decide +kernel
theorem own_d4_4 : decode prog_26_method_2_code 4 = .ok (.i2l, 1) := by decide +kernel
theorem own_d4_5 : decode prog_26_method_2_code 5 = .ok (.lconst 1, 1) := by decide +kernel
theorem own_d4_6 : decode prog_26_method_2_code 6 = .ok (.aload_n 0, 1) := by decide +kernel
theorem own_d4_7 : decode prog_26_method_2_code 7 = .ok (.getfield 13, 3) := by decide +kernel
theorem own_d4_10 : decode prog_26_method_2_code 10 = .ok (.lshl, 1) := by decide +kernel
theorem own_d4_11 : decode prog_26_method_2_code 11 = .ok (.lcmp, 1) := by decide +kernel
theorem own_d4_12 : decode prog_26_method_2_code 12 = .ok (.ifCond .lt 7, 3) := by decide +kernel
theorem own_d4_19 : decode prog_26_method_2_code 19 = .ok (.iconst 0, 1) := by decide +kernel
theorem own_d4_20 : decode prog_26_method_2_code 20 = .ok (.ireturn, 1) := by decide +kernel
theorem own_d4_15 : decode prog_26_method_2_code 15 = .ok (.iconst 1, 1) := by decide +kernel
theorem own_d4_16 : decode prog_26_method_2_code 16 = .ok (.goto 4, 3) := by decide +kernel
set_option maxRecDepth 65536 in
set_option maxHeartbeats 40000000 in
theorem own_rm4 (l : Launch) (Z : State) (a0 : Array Value) (hw : ∀ d ∈ tables_1, d.before a0 Z = true) (ws : List Jvm.Cond) (a : Addr) (ho : Int32) (ph : Int32) (h0 : Heap) (n0 : Nat) (Z0 : n0 ≤ h0.size)  (F_hops : Fld Z h0 a "com/example/paperwasp/paperwasp/hs/HsMessage$Probe" "hops" "I" (.int ho)) (F_phase : Fld Z h0 a "com/example/paperwasp/paperwasp/hs/HsMessage$Probe" "phase" "I" (.int ph))  :
    Con l Z (⟨"com/example/paperwasp/paperwasp/hs/HsMessage$Probe", "reached", "()Z"⟩ : MethodName) prog_26_method_2_code 1 (some .boolean) ws ({ frames := 0, cells := 0, slots := 0, locals := 0 } : Room) #[(.ref a)] h0 (fun v h L => v = some (.int (own_f4 ho ph)) ∧ Fr n0 L ∧ h = h0) := by
  refine Con.intro (plainFor_of_name own_pn_1) ?_
  intro p e s m below meth c s₁ P hx hby hml hown hnm hret hlk hZ X0 e0 hP
  have N0 := Fr.nil n0
  have hown : s.vm.findClass "com/example/paperwasp/paperwasp/hs/HsMessage$Probe" = some m.cls := hown
  refine Go.cast (own_ef4 m a) ?_
  show Go p.tables e below P (s₁.setTop (mkF m 0 #[.val (.ref a)] []))
  refine Go.s (fun kz => XS.aloadN X0.here hx rfl (hb hby own_d4_0) rfl rfl kz) ?_
  show Go p.tables e below P (s₁.setTop (mkF m 1 #[.val (.ref a)] [(.ref a)]))
  obtain ⟨T1, X1, e1, st1⟩ := getF X0 hx hZ hown (host := "") (Or.inl (hw _ (List.mem_of_getElem? (i := 22) rfl))) Via.refl e0 F_hops (g := (mkF m 1 #[.val (.ref a)] [(.ref a)])) rfl rfl (hb hby own_d4_1)
  refine Go.s (fun {t} => st1 t) ?_
  show Go p.tables e below P (T1.setTop (mkF m 4 #[.val (.ref a)] [(.int ho)]))
  refine Go.s (fun kz => XT.i2l X1.here hx rfl (hb hby own_d4_4) rfl kz) ?_
  show Go p.tables e below P (T1.setTop (mkF m 5 #[.val (.ref a)] [(.long ho.toInt64)]))
  refine Go.s (fun kz => XT.lconst X1.here hx rfl (hb hby own_d4_5) kz) ?_
  show Go p.tables e below P (T1.setTop (mkF m 6 #[.val (.ref a)] [(.long (1 : Int64)), (.long ho.toInt64)]))
  refine Go.s (fun kz => XS.aloadN X1.here hx rfl (hb hby own_d4_6) rfl rfl kz) ?_
  show Go p.tables e below P (T1.setTop (mkF m 7 #[.val (.ref a)] [(.ref a), (.long (1 : Int64)), (.long ho.toInt64)]))
  obtain ⟨T2, X2, e2, st2⟩ := getF X1 hx hZ hown (host := "") (Or.inl (hw _ (List.mem_of_getElem? (i := 20) rfl))) Via.refl e1 F_phase (g := (mkF m 7 #[.val (.ref a)] [(.ref a), (.long (1 : Int64)), (.long ho.toInt64)])) rfl rfl (hb hby own_d4_7)
  refine Go.s (fun {t} => st2 t) ?_
  show Go p.tables e below P (T2.setTop (mkF m 10 #[.val (.ref a)] [(.int ph), (.long (1 : Int64)), (.long ho.toInt64)]))
  refine Go.s (fun kz => XT.lshl X2.here hx rfl (hb hby own_d4_10) rfl kz) ?_
  show Go p.tables e below P (T2.setTop (mkF m 11 #[.val (.ref a)] [(.long ((1 : Int64) <<< (ph.toInt64 &&& 63))), (.long ho.toInt64)]))
  refine Go.s (fun kz => XT.lcmp X2.here hx rfl (hb hby own_d4_11) rfl kz) ?_
  show Go p.tables e below P (T2.setTop (mkF m 12 #[.val (.ref a)] [(.int (XT.cmpL ho.toInt64 ((1 : Int64) <<< (ph.toInt64 &&& 63))))]))
  by_cases hc12 : ho.toInt64 < ((1 : Int64) <<< (ph.toInt64 &&& 63))
  · skip
    refine Go.s (fun kz => XS.ifYes X2.here hx rfl (pc0 := 12) (pc' := 19) rfl (hb hby own_d4_12) rfl (XT.ll_lt_t hc12) (by decide) (by decide) kz) ?_
    show Go p.tables e below P (T2.setTop (mkF m 19 #[.val (.ref a)] []))
    refine Go.s (fun kz => XS.iconst X2.here hx rfl (hb hby own_d4_19) kz) ?_
    show Go p.tables e below P (T2.setTop (mkF m 20 #[.val (.ref a)] [(.int (0 : Int32))]))
    exact Go.retZ X2 hx hlk hret (by decide) (hb hby own_d4_20) (fun U hU hF => hP U _ _ (by rw [hU, e2]; exact ⟨congrArg some (congrArg Value.int (Eq.symm (by rw [own_f4]; rw [if_pos hc12]))), N0, rfl⟩) ⟨hF.1, hF.2.1, hF.2.2.mono (by decide) (by decide)⟩)
  · skip
    refine Go.s (fun kz => XS.ifNo X2.here hx rfl (hb hby own_d4_12) rfl (XT.ll_lt_f hc12) kz) ?_
    show Go p.tables e below P (T2.setTop (mkF m 15 #[.val (.ref a)] []))
    refine Go.s (fun kz => XS.iconst X2.here hx rfl (hb hby own_d4_15) kz) ?_
    show Go p.tables e below P (T2.setTop (mkF m 16 #[.val (.ref a)] [(.int (1 : Int32))]))
    refine Go.s (fun kz => XS.goto X2.here hx rfl (pc0 := 16) (pc' := 20) rfl (hb hby own_d4_16) (by decide) (by decide) kz) ?_
    show Go p.tables e below P (T2.setTop (mkF m 20 #[.val (.ref a)] [(.int (1 : Int32))]))
    exact Go.retZ X2 hx hlk hret (by decide) (hb hby own_d4_20) (fun U hU hF => hP U _ _ (by rw [hU, e2]; exact ⟨congrArg some (congrArg Value.int (Eq.symm (by rw [own_f4]; rw [if_neg hc12]))), N0, rfl⟩) ⟨hF.1, hF.2.1, hF.2.2.mono (by decide) (by decide)⟩)
theorem own_ph (p d : Int32) (h : d = (p &&& 2147483647) % 63) : 0 ≤ d.toInt ∧ d.toInt ≤ 62 := by
  have e := Jvm.Kit.i32_mask p 2147483647 (k := 31) (by decide) (by decide)
  have c1 : (63 : Int32).toInt = 63 := rfl
  rw [h, Jvm.Kit.i32_rem_nonneg (by omega), c1]; omega
theorem own_sh0 : ∀ k : Fin 63, ((1 : Int64) <<< ((Int32.ofNat k.val).toInt64 &&& 63)).toInt = 2 ^ k.val := by decide +kernel
theorem own_sh (d : Int32) (h : 0 ≤ d.toInt ∧ d.toInt ≤ 62) : ((1 : Int64) <<< (d.toInt64 &&& 63)).toInt = 2 ^ d.toInt.toNat := by
  have e : Int32.ofNat d.toInt.toNat = d := Int32.toInt_inj.mp (by rw [Int32.toInt_ofNat_of_lt (by omega)]; omega)
  have q := own_sh0 ⟨d.toInt.toNat, by omega⟩
  rw [e] at q
  exact q
theorem own_v (ho ph : Int32) (h : 0 ≤ ph.toInt ∧ ph.toInt ≤ 62) : own_f4 ho ph = if ho.toInt < 2 ^ ph.toInt.toNat then 0 else 1 := by
  have s := own_sh ph h
  have e := Jvm.Kit.i64_of_i32 ho
  rw [own_f4]
  by_cases q : ho.toInt64 < 1 <<< (ph.toInt64 &&& 63)
  · rw [if_pos q, if_pos]
    rw [Int64.lt_iff_toInt_lt, s, e] at q; exact q
  · rw [if_neg q, if_neg]
    rw [Int64.lt_iff_toInt_lt, s, e] at q; exact q
theorem own_low (ho ph r : Int32) (hr : r = own_f4 ho ph) (h : 0 ≤ ph.toInt ∧ ph.toInt ≤ 62) (hc : ho < 1) : r = 0 := by
  rw [hr, own_v ho ph h, if_pos]
  rw [Int32.lt_iff_toInt_lt] at hc
  have c : (1 : Int32).toInt = 1 := rfl
  have := Int.pow_pos (n := 2) (m := ph.toInt.toNat) (by decide)
  omega
theorem own_zero (ho ph r : Int32) (hr : r = own_f4 ho ph) (h : 0 ≤ ph.toInt ∧ ph.toInt ≤ 62) (hc : ¬ ho < 1) (hz : ph = 0) : r = 1 := by
  rw [hr, own_v ho ph h, if_neg]
  rw [Int32.lt_iff_toInt_lt] at hc
  have c : (1 : Int32).toInt = 1 := rfl
  subst hz
  show ¬ ho.toInt < 1
  omega
theorem own_half (ho ph r : Int32) (hr : r = own_f4 ho ph) (h : 0 ≤ ph.toInt ∧ ph.toInt ≤ 62) (hz : ¬ ph = 0) : r = own_f4 (ho >>> ((1 : Int32) &&& 31)) (ph - 1) := by
  have c : (1 : Int32).toInt = 1 := rfl
  have hz' : ph.toInt ≠ 0 := fun q => hz (Int32.toInt_inj.mp q)
  have e1 : (ph - 1).toInt = ph.toInt - 1 := by rw [Jvm.Kit.i32_sub (by omega) (by omega), c]
  have e2 : (ho >>> ((1 : Int32) &&& 31)).toInt = ho.toInt / 2 ^ 1 := Jvm.Kit.i32_shr ho _ (by decide)
  rw [hr, own_v ho ph h, own_v _ _ (by omega), e1, e2]
  have e3 : ph.toInt.toNat = (ph.toInt - 1).toNat + 1 := by omega
  rw [e3, Int.pow_succ]
  generalize (2 : Int) ^ (ph.toInt - 1).toNat = z
  by_cases q : ho.toInt < z * 2
  · rw [if_pos q, if_pos (by omega)]
  · rw [if_neg q, if_neg (by omega)]
theorem own_ef0 (m : MethodId) (p0 : Int32) (p1 : Int32) (p2 : Int32) (p3 : Int32) : entryFrame m #[(.int p0), (.int p1), (.int p2), (.int p3)] maxLocals = mkF m 0 #[.val (.int p0), .val (.int p1), .val (.int p2), .val (.int p3), .unset, .unset, .unset, .unset] [] := by
  (first | (simp [entryFrame, mkF, argsToLocals, Value.category, maxLocals]; done) | rfl)
theorem own_pn_2 : plainName "com/example/paperwasp/paperwasp/hs/ProbeReachedPinLaw" = true := by first | (simp [plainName, overriddenIn]; done) | decide +kernel
theorem own_pd_1 : parseMethodDescriptor "(IIILcom/example/paperwasp/paperwasp/hs/HsMessage$Way;)V" = some ⟨[.int, .int, .int, (.object "com/example/paperwasp/paperwasp/hs/HsMessage$Way")], none⟩ := by decide +kernel
theorem own_pd_2 : parseMethodDescriptor "()Z" = some ⟨[], some .boolean⟩ := by decide +kernel
set_option maxRecDepth 65536 in
set_option maxHeartbeats 40000000 in
theorem own_rm0 (l : Launch) (Z : State) (a0 : Array Value) (hw : ∀ d ∈ tables_1, d.before a0 Z = true) (ws : List Jvm.Cond) (p0 : Int32) (p1 : Int32) (p2 : Int32) (p3 : Int32) (aN aP : Addr) (h0 : Heap) (n0 : Nat) (Z0 : n0 ≤ h0.size) (S_NEXT : Sta Z h0 "com/example/paperwasp/paperwasp/hs/HsMessage$Way" "NEXT" "Lcom/example/paperwasp/paperwasp/hs/HsMessage$Way;" (.ref aN)) (S_PREVIOUS : Sta Z h0 "com/example/paperwasp/paperwasp/hs/HsMessage$Way" "PREVIOUS" "Lcom/example/paperwasp/paperwasp/hs/HsMessage$Way;" (.ref aP)) :
    Con l Z x code maxLocals ret ws room_1 #[(.int p0), (.int p1), (.int p2), (.int p3)] h0 (fun v h L => v = some (.int 1) ∧ Fr n0 L) := by
  refine Con.intro (plainFor_of_name own_pn_2) ?_
  intro p e s m below meth c s₁ P hx hby hml hown hnm hret hlk hZ X0 e0 hP
  have N0 := Fr.nil n0
  have hml : c.maxLocals = 8 := hml
  have hown : s.vm.findClass "com/example/paperwasp/paperwasp/hs/ProbeReachedPinLaw" = some m.cls := hown
  have hret : meth.sig.returnType = some .boolean := hret
  refine Go.cast (own_ef0 m p0 p1 p2 p3) ?_
  show Go p.tables e below P (s₁.setTop (mkF m 0 #[.val (.int p0), .val (.int p1), .val (.int p2), .val (.int p3), .unset, .unset, .unset, .unset] []))
  refine Go.s (fun kz => XS.iloadN X0.here hx rfl (hb hby at_0) rfl kz) ?_
  show Go p.tables e below P (s₁.setTop (mkF m 1 #[.val (.int p0), .val (.int p1), .val (.int p2), .val (.int p3), .unset, .unset, .unset, .unset] [(.int p1)]))
  refine Go.s (fun kz => X0.ldcI hx hown (mvT hZ (hw _ (List.mem_of_getElem? (i := 0) rfl))) rfl (hb hby at_1) kz) ?_
  show Go p.tables e below P (s₁.setTop (mkF m 3 #[.val (.int p0), .val (.int p1), .val (.int p2), .val (.int p3), .unset, .unset, .unset, .unset] [(.int (2147483647 : Int32)), (.int p1)]))
  refine Go.s (fun kz => XS.iand X0.here hx rfl (hb hby at_3) rfl kz) ?_
  show Go p.tables e below P (s₁.setTop (mkF m 4 #[.val (.int p0), .val (.int p1), .val (.int p2), .val (.int p3), .unset, .unset, .unset, .unset] [(.int (p1 &&& (2147483647 : Int32)))]))
  refine Go.s (fun kz => XS.bipush X0.here hx rfl (hb hby at_4) kz) ?_
  show Go p.tables e below P (s₁.setTop (mkF m 6 #[.val (.int p0), .val (.int p1), .val (.int p2), .val (.int p3), .unset, .unset, .unset, .unset] [(.int (63 : Int32)), (.int (p1 &&& (2147483647 : Int32)))]))
  refine Go.s (fun kz => iremM X0 hx rfl (hb hby at_6) rfl (by decide) kz) ?_
  show Go p.tables e below P (s₁.setTop (mkF m 7 #[.val (.int p0), .val (.int p1), .val (.int p2), .val (.int p3), .unset, .unset, .unset, .unset] [(.int ((p1 &&& (2147483647 : Int32)) % (63 : Int32)))]))
  refine Go.s (fun kz => XS.istore X0.here hx rfl (hb hby at_7) rfl (l' := #[.val (.int p0), .val (.int p1), .val (.int p2), .val (.int p3), .val (.int ((p1 &&& (2147483647 : Int32)) % (63 : Int32))), .unset, .unset, .unset]) rfl kz) ?_
  show Go p.tables e below P (s₁.setTop (mkF m 9 #[.val (.int p0), .val (.int p1), .val (.int p2), .val (.int p3), .val (.int ((p1 &&& (2147483647 : Int32)) % (63 : Int32))), .unset, .unset, .unset] []))
  refine (?_ : ∀ ph : Int32, ph = ((p1 &&& (2147483647 : Int32)) % (63 : Int32)) → Go p.tables e below P (s₁.setTop (mkF m 9 #[.val (.int p0), .val (.int p1), .val (.int p2), .val (.int p3), .val (.int ph), .unset, .unset, .unset] []))) _ rfl
  intro ph hph
  have h1 := own_ph p1 ph hph
  refine Go.s (fun kz => XS.iloadN X0.here hx rfl (hb hby at_9) rfl kz) ?_
  show Go p.tables e below P (s₁.setTop (mkF m 10 #[.val (.int p0), .val (.int p1), .val (.int p2), .val (.int p3), .val (.int ph), .unset, .unset, .unset] [(.int p3)]))
  refine Go.s (fun kz => XS.iconst X0.here hx rfl (hb hby at_10) kz) ?_
  show Go p.tables e below P (s₁.setTop (mkF m 11 #[.val (.int p0), .val (.int p1), .val (.int p2), .val (.int p3), .val (.int ph), .unset, .unset, .unset] [(.int (1 : Int32)), (.int p3)]))
  refine Go.s (fun kz => XS.iand X0.here hx rfl (hb hby at_11) rfl kz) ?_
  show Go p.tables e below P (s₁.setTop (mkF m 12 #[.val (.int p0), .val (.int p1), .val (.int p2), .val (.int p3), .val (.int ph), .unset, .unset, .unset] [(.int (p3 &&& (1 : Int32)))]))
  by_cases hc12 : (p3 &&& (1 : Int32)) = 0
  · skip
    refine Go.s (fun kz => XS.ifNo X0.here hx rfl (hb hby at_12) rfl (XT.i0_ne_f hc12) kz) ?_
    show Go p.tables e below P (s₁.setTop (mkF m 15 #[.val (.int p0), .val (.int p1), .val (.int p2), .val (.int p3), .val (.int ph), .unset, .unset, .unset] []))
    obtain ⟨T1, X1, e1, st1⟩ := getS2 X0 hx hZ hown (host := "") (Or.inl (hw _ (List.mem_of_getElem? (i := 31) rfl))) Via.refl e0 S_NEXT (g := (mkF m 15 #[.val (.int p0), .val (.int p1), .val (.int p2), .val (.int p3), .val (.int ph), .unset, .unset, .unset] [])) rfl (hb hby at_15)
    refine Go.s (fun {t} => st1 t) ?_
    show Go p.tables e below P (T1.setTop (mkF m 18 #[.val (.int p0), .val (.int p1), .val (.int p2), .val (.int p3), .val (.int ph), .unset, .unset, .unset] [(.ref aN)]))
    refine Go.s (fun kz => XS.goto X1.here hx rfl (pc0 := 18) (pc' := 24) rfl (hb hby at_18) (by decide) (by decide) kz) ?_
    show Go p.tables e below P (T1.setTop (mkF m 24 #[.val (.int p0), .val (.int p1), .val (.int p2), .val (.int p3), .val (.int ph), .unset, .unset, .unset] [(.ref aN)]))
    refine Go.s (fun kz => XS.astore X1.here hx rfl (hb hby at_24) rfl rfl (l' := #[.val (.int p0), .val (.int p1), .val (.int p2), .val (.int p3), .val (.int ph), .val (.ref aN), .unset, .unset]) rfl kz) ?_
    show Go p.tables e below P (T1.setTop (mkF m 26 #[.val (.int p0), .val (.int p1), .val (.int p2), .val (.int p3), .val (.int ph), .val (.ref aN), .unset, .unset] []))
    obtain ⟨T2, H2, X2, e2, E2, A2, D2, U2, st2⟩ := newO X1 hx hZ hown (hw _ (List.mem_of_getElem? (i := 4) rfl)) (hw _ (List.mem_of_getElem? (i := 5) rfl)) (hw _ (List.mem_of_getElem? (i := 6) rfl)) e1 (g := (mkF m 26 #[.val (.int p0), .val (.int p1), .val (.int p2), .val (.int p3), .val (.int ph), .val (.ref aN), .unset, .unset] [])) rfl (hb hby at_26) (by decide) (by decide)
    refine Go.s (fun {t} => st2 t) ?_
    obtain ⟨b2, g2⟩ : ∃ z, z = h0.size := ⟨_, rfl⟩
    rw [← g2] at A2 D2 U2
    rw [← g2]
    have S_NEXT_3 := Sta.ext E2 S_NEXT
    have S_PREVIOUS_4 := Sta.ext E2 S_PREVIOUS
    have G_b2 : n0 ≤ b2 := Nat.le_trans Z0 (Nat.le_of_eq g2.symm)
    have Zs2 := Nat.le_trans Z0 E2.1
    have Kn2 := Kn.of_new U2
    show Go p.tables e below P (T2.setTop (mkF m 29 #[.val (.int p0), .val (.int p1), .val (.int p2), .val (.int p3), .val (.int ph), .val (.ref aN), .unset, .unset] [(.ref b2)]))
    refine Go.s (fun kz => XS.dup X2.here hx rfl (hb hby at_29) rfl rfl kz) ?_
    show Go p.tables e below P (T2.setTop (mkF m 30 #[.val (.int p0), .val (.int p1), .val (.int p2), .val (.int p3), .val (.int ph), .val (.ref aN), .unset, .unset] [(.ref b2), (.ref b2)]))
    refine Go.s (fun kz => XS.iloadN X2.here hx rfl (hb hby at_30) rfl kz) ?_
    show Go p.tables e below P (T2.setTop (mkF m 31 #[.val (.int p0), .val (.int p1), .val (.int p2), .val (.int p3), .val (.int ph), .val (.ref aN), .unset, .unset] [(.int p2), (.ref b2), (.ref b2)]))
    refine Go.s (fun kz => XS.iload X2.here hx rfl (hb hby at_31) rfl kz) ?_
    show Go p.tables e below P (T2.setTop (mkF m 33 #[.val (.int p0), .val (.int p1), .val (.int p2), .val (.int p3), .val (.int ph), .val (.ref aN), .unset, .unset] [(.int ph), (.int p2), (.ref b2), (.ref b2)]))
    refine Go.s (fun kz => XS.iloadN X2.here hx rfl (hb hby at_33) rfl kz) ?_
    show Go p.tables e below P (T2.setTop (mkF m 34 #[.val (.int p0), .val (.int p1), .val (.int p2), .val (.int p3), .val (.int ph), .val (.ref aN), .unset, .unset] [(.int p0), (.int ph), (.int p2), (.ref b2), (.ref b2)]))
    refine Go.s (fun kz => XS.aload X2.here hx rfl (hb hby at_34) rfl rfl kz) ?_
    show Go p.tables e below P (T2.setTop (mkF m 36 #[.val (.int p0), .val (.int p1), .val (.int p2), .val (.int p3), .val (.int ph), .val (.ref aN), .unset, .unset] [(.ref aN), (.int p0), (.int ph), (.int p2), (.ref b2), (.ref b2)]))
    obtain ⟨v5, T5, L5, X5, Q5, st5⟩ := Con.special (own_rm1 l Z a0 hw [] b2 p2 ph p0 (.ref aN) H2 n0 Zs2 A2 Kn2 G_b2 rfl ) rfl X2 hx hZ (W := 1) hown (hw _ (List.mem_of_getElem? (i := 7) rfl)) (hw _ (List.mem_of_getElem? (i := 8) rfl)) (hw _ (List.mem_of_getElem? (i := 6) rfl)) (hw _ (List.mem_of_getElem? (i := 9) rfl)) (by decide) (by decide) (by decide) (by decide) (by decide) e2 (g := (mkF m 36 #[.val (.int p0), .val (.int p1), .val (.int p2), .val (.int p3), .val (.int ph), .val (.ref aN), .unset, .unset] [(.ref aN), (.int p0), (.int ph), (.int p2), (.ref b2), (.ref b2)])) rfl (by rw [hml]; rfl) (argsL := [(.int p2), (.int ph), (.int p0), (.ref aN)]) (rest := [(.ref b2)]) rfl (lenOf own_pd_1 rfl) rfl (by show 2 * 0 + _ ≤ _; exact Nat.le_of_eq rfl) (hb hby at_36)
    obtain ⟨H5, e5⟩ : ∃ z, T5.heap = z := ⟨_, rfl⟩
    rw [e5] at Q5
    obtain ⟨rfl, Nq5, Kq5, Fq5_hops, Fq5_phase⟩ := Q5
    have N5 := Fr.app N0 Nq5
    have Zs5 := Nat.le_trans Zs2 Kq5.1
    have S_NEXT_6 := Sta.own_keep S_NEXT_3 Kq5 (allS ⟨_, A2⟩ all0)
    have S_PREVIOUS_7 := Sta.own_keep S_PREVIOUS_4 Kq5 (allS ⟨_, A2⟩ all0)
    have A2_8 := Exa.keep A2 Kq5
    have Kn2_9 := Kn.keep Kn2 Kq5
    refine Go.s (fun {t} => st5) ?_
    show Go p.tables e below P (T5.setTop (mkF m 39 #[.val (.int p0), .val (.int p1), .val (.int p2), .val (.int p3), .val (.int ph), .val (.ref aN), .unset, .unset] [(.ref b2)]))
    obtain ⟨v10, T10, L10, X10, Q10, st10⟩ := Con.virtual (own_rm4 l Z a0 hw [] b2 p0 ph H5 n0 Zs5 Fq5_hops Fq5_phase ) X5 hx hZ (W := 0) hown (hw _ (List.mem_of_getElem? (i := 26) rfl)) (hw _ (List.mem_of_getElem? (i := 27) rfl)) (hw _ (List.mem_of_getElem? (i := 29) rfl)) (hw _ (List.mem_of_getElem? (i := 28) rfl)) (hw _ (List.mem_of_getElem? (i := 6) rfl)) (hw _ (List.mem_of_getElem? (i := 30) rfl)) (by decide) (by decide) (by decide) (by decide) (by decide) e5 (g := (mkF m 39 #[.val (.int p0), .val (.int p1), .val (.int p2), .val (.int p3), .val (.int ph), .val (.ref aN), .unset, .unset] [(.ref b2)])) rfl (by rw [hml]; rfl) A2_8 (argsL := []) (rest := []) rfl (lenOf own_pd_2 rfl) rfl (by show 2 * 0 + _ ≤ _; exact Nat.le_of_eq rfl) (hb hby at_39)
    obtain ⟨rfl, Nq10, e10⟩ := Q10
    have N10 := Fr.app N5 Nq10
    refine Go.s (fun {t} => st10) ?_
    show Go p.tables e below P (T10.setTop (mkF m 42 #[.val (.int p0), .val (.int p1), .val (.int p2), .val (.int p3), .val (.int ph), .val (.ref aN), .unset, .unset] [(.int (own_f4 p0 ph))]))
    refine Go.s (fun kz => XS.istore X10.here hx rfl (hb hby at_42) rfl (l' := #[.val (.int p0), .val (.int p1), .val (.int p2), .val (.int p3), .val (.int ph), .val (.ref aN), .val (.int (own_f4 p0 ph)), .unset]) rfl kz) ?_
    show Go p.tables e below P (T10.setTop (mkF m 44 #[.val (.int p0), .val (.int p1), .val (.int p2), .val (.int p3), .val (.int ph), .val (.ref aN), .val (.int (own_f4 p0 ph)), .unset] []))
    refine (?_ : ∀ r : Int32, r = (own_f4 p0 ph) → Go p.tables e below P (T10.setTop (mkF m 44 #[.val (.int p0), .val (.int p1), .val (.int p2), .val (.int p3), .val (.int ph), .val (.ref aN), .val (.int r), .unset] []))) _ rfl
    intro r hr
    refine Go.s (fun kz => XS.iloadN X10.here hx rfl (hb hby at_44) rfl kz) ?_
    show Go p.tables e below P (T10.setTop (mkF m 45 #[.val (.int p0), .val (.int p1), .val (.int p2), .val (.int p3), .val (.int ph), .val (.ref aN), .val (.int r), .unset] [(.int p0)]))
    refine Go.s (fun kz => XS.iconst X10.here hx rfl (hb hby at_45) kz) ?_
    show Go p.tables e below P (T10.setTop (mkF m 46 #[.val (.int p0), .val (.int p1), .val (.int p2), .val (.int p3), .val (.int ph), .val (.ref aN), .val (.int r), .unset] [(.int (1 : Int32)), (.int p0)]))
    by_cases hc46 : p0 < (1 : Int32)
    · skip
      refine Go.s (fun kz => XS.icmpNo X10.here hx rfl (hb hby at_46) rfl (XT.ii_ge_f hc46) kz) ?_
      show Go p.tables e below P (T10.setTop (mkF m 49 #[.val (.int p0), .val (.int p1), .val (.int p2), .val (.int p3), .val (.int ph), .val (.ref aN), .val (.int r), .unset] []))
      refine Go.s (fun kz => XS.iload X10.here hx rfl (hb hby at_49) rfl kz) ?_
      show Go p.tables e below P (T10.setTop (mkF m 51 #[.val (.int p0), .val (.int p1), .val (.int p2), .val (.int p3), .val (.int ph), .val (.ref aN), .val (.int r), .unset] [(.int r)]))
      refine Go.s (fun kz => XS.ifNo X10.here hx rfl (hb hby at_51) rfl (XT.i0_ne_f (own_low p0 ph r hr h1 hc46)) kz) ?_
      show Go p.tables e below P (T10.setTop (mkF m 54 #[.val (.int p0), .val (.int p1), .val (.int p2), .val (.int p3), .val (.int ph), .val (.ref aN), .val (.int r), .unset] []))
      refine Go.s (fun kz => XS.iconst X10.here hx rfl (hb hby at_54) kz) ?_
      show Go p.tables e below P (T10.setTop (mkF m 55 #[.val (.int p0), .val (.int p1), .val (.int p2), .val (.int p3), .val (.int ph), .val (.ref aN), .val (.int r), .unset] [(.int (1 : Int32))]))
      refine Go.s (fun kz => XS.goto X10.here hx rfl (pc0 := 55) (pc' := 59) rfl (hb hby at_55) (by decide) (by decide) kz) ?_
      show Go p.tables e below P (T10.setTop (mkF m 59 #[.val (.int p0), .val (.int p1), .val (.int p2), .val (.int p3), .val (.int ph), .val (.ref aN), .val (.int r), .unset] [(.int (1 : Int32))]))
      exact Go.retZ X10 hx hlk hret (by decide) (hb hby at_59) (fun U hU hF => hP U _ _ ⟨rfl, N10⟩ ⟨hF.1, hF.2.1, hF.2.2.mono (by decide) (by decide)⟩)
    · skip
      refine Go.s (fun kz => XS.icmpYes X10.here hx rfl (pc0 := 46) (pc' := 60) rfl (hb hby at_46) rfl (XT.ii_ge_t hc46) (by decide) (by decide) kz) ?_
      show Go p.tables e below P (T10.setTop (mkF m 60 #[.val (.int p0), .val (.int p1), .val (.int p2), .val (.int p3), .val (.int ph), .val (.ref aN), .val (.int r), .unset] []))
      refine Go.s (fun kz => XS.iload X10.here hx rfl (hb hby at_60) rfl kz) ?_
      show Go p.tables e below P (T10.setTop (mkF m 62 #[.val (.int p0), .val (.int p1), .val (.int p2), .val (.int p3), .val (.int ph), .val (.ref aN), .val (.int r), .unset] [(.int ph)]))
      by_cases hc62 : ph = 0
      · skip
        refine Go.s (fun kz => XS.ifNo X10.here hx rfl (hb hby at_62) rfl (XT.i0_ne_f hc62) kz) ?_
        show Go p.tables e below P (T10.setTop (mkF m 65 #[.val (.int p0), .val (.int p1), .val (.int p2), .val (.int p3), .val (.int ph), .val (.ref aN), .val (.int r), .unset] []))
        obtain rfl := own_zero p0 ph r hr h1 hc46 hc62
        show Go p.tables e below P (T10.setTop (mkF m 65 #[.val (.int p0), .val (.int p1), .val (.int p2), .val (.int p3), .val (.int ph), .val (.ref aN), .val (.int (1 : Int32)), .unset] []))
        refine Go.s (fun kz => XS.iload X10.here hx rfl (hb hby at_65) rfl kz) ?_
        show Go p.tables e below P (T10.setTop (mkF m 67 #[.val (.int p0), .val (.int p1), .val (.int p2), .val (.int p3), .val (.int ph), .val (.ref aN), .val (.int (1 : Int32)), .unset] [(.int (1 : Int32))]))
        exact Go.retZ X10 hx hlk hret (by decide) (hb hby at_67) (fun U hU hF => hP U _ _ ⟨rfl, N10⟩ ⟨hF.1, hF.2.1, hF.2.2.mono (by decide) (by decide)⟩)
      · skip
        refine Go.s (fun kz => XS.ifYes X10.here hx rfl (pc0 := 62) (pc' := 68) rfl (hb hby at_62) rfl (XT.i0_ne_t hc62) (by decide) (by decide) kz) ?_
        show Go p.tables e below P (T10.setTop (mkF m 68 #[.val (.int p0), .val (.int p1), .val (.int p2), .val (.int p3), .val (.int ph), .val (.ref aN), .val (.int r), .unset] []))
        obtain ⟨T11, H11, X11, e11, E11, A11, D11, U11, st11⟩ := newO X10 hx hZ hown (hw _ (List.mem_of_getElem? (i := 4) rfl)) (hw _ (List.mem_of_getElem? (i := 5) rfl)) (hw _ (List.mem_of_getElem? (i := 6) rfl)) e10 (g := (mkF m 68 #[.val (.int p0), .val (.int p1), .val (.int p2), .val (.int p3), .val (.int ph), .val (.ref aN), .val (.int r), .unset] [])) rfl (hb hby at_68) (by decide) (by decide)
        refine Go.s (fun {t} => st11 t) ?_
        obtain ⟨b11, g11⟩ : ∃ z, z = H5.size := ⟨_, rfl⟩
        rw [← g11] at A11 D11 U11
        rw [← g11]
        have ne_b2_b11 : b2 ≠ b11 := Nat.ne_of_lt (Nat.lt_of_lt_of_le A2_8.lt (Nat.le_of_eq g11.symm))
        have S_NEXT_12 := Sta.ext E11 S_NEXT_6
        have S_PREVIOUS_13 := Sta.ext E11 S_PREVIOUS_7
        have A2_14 := Exa.ext E11 A2_8
        have Kn2_15 := Kn.ext Kn2_9 E11
        have Fq5_hops_16 := Fld.ext E11 Fq5_hops
        have Fq5_phase_17 := Fld.ext E11 Fq5_phase
        have G_b11 : n0 ≤ b11 := Nat.le_trans Zs5 (Nat.le_of_eq g11.symm)
        have Zs11 := Nat.le_trans Zs5 E11.1
        have Kn11 := Kn.of_new U11
        show Go p.tables e below P (T11.setTop (mkF m 71 #[.val (.int p0), .val (.int p1), .val (.int p2), .val (.int p3), .val (.int ph), .val (.ref aN), .val (.int r), .unset] [(.ref b11)]))
        refine Go.s (fun kz => XS.dup X11.here hx rfl (hb hby at_71) rfl rfl kz) ?_
        show Go p.tables e below P (T11.setTop (mkF m 72 #[.val (.int p0), .val (.int p1), .val (.int p2), .val (.int p3), .val (.int ph), .val (.ref aN), .val (.int r), .unset] [(.ref b11), (.ref b11)]))
        refine Go.s (fun kz => XS.iloadN X11.here hx rfl (hb hby at_72) rfl kz) ?_
        show Go p.tables e below P (T11.setTop (mkF m 73 #[.val (.int p0), .val (.int p1), .val (.int p2), .val (.int p3), .val (.int ph), .val (.ref aN), .val (.int r), .unset] [(.int p2), (.ref b11), (.ref b11)]))
        refine Go.s (fun kz => XS.iload X11.here hx rfl (hb hby at_73) rfl kz) ?_
        show Go p.tables e below P (T11.setTop (mkF m 75 #[.val (.int p0), .val (.int p1), .val (.int p2), .val (.int p3), .val (.int ph), .val (.ref aN), .val (.int r), .unset] [(.int ph), (.int p2), (.ref b11), (.ref b11)]))
        refine Go.s (fun kz => XS.iconst X11.here hx rfl (hb hby at_75) kz) ?_
        show Go p.tables e below P (T11.setTop (mkF m 76 #[.val (.int p0), .val (.int p1), .val (.int p2), .val (.int p3), .val (.int ph), .val (.ref aN), .val (.int r), .unset] [(.int (1 : Int32)), (.int ph), (.int p2), (.ref b11), (.ref b11)]))
        refine Go.s (fun kz => XS.isub X11.here hx rfl (hb hby at_76) rfl kz) ?_
        show Go p.tables e below P (T11.setTop (mkF m 77 #[.val (.int p0), .val (.int p1), .val (.int p2), .val (.int p3), .val (.int ph), .val (.ref aN), .val (.int r), .unset] [(.int (ph - (1 : Int32))), (.int p2), (.ref b11), (.ref b11)]))
        refine Go.s (fun kz => XS.iloadN X11.here hx rfl (hb hby at_77) rfl kz) ?_
        show Go p.tables e below P (T11.setTop (mkF m 78 #[.val (.int p0), .val (.int p1), .val (.int p2), .val (.int p3), .val (.int ph), .val (.ref aN), .val (.int r), .unset] [(.int p0), (.int (ph - (1 : Int32))), (.int p2), (.ref b11), (.ref b11)]))
        refine Go.s (fun kz => XS.iconst X11.here hx rfl (hb hby at_78) kz) ?_
        show Go p.tables e below P (T11.setTop (mkF m 79 #[.val (.int p0), .val (.int p1), .val (.int p2), .val (.int p3), .val (.int ph), .val (.ref aN), .val (.int r), .unset] [(.int (1 : Int32)), (.int p0), (.int (ph - (1 : Int32))), (.int p2), (.ref b11), (.ref b11)]))
        refine Go.s (fun kz => XT.ishr X11.here hx rfl (hb hby at_79) rfl kz) ?_
        show Go p.tables e below P (T11.setTop (mkF m 80 #[.val (.int p0), .val (.int p1), .val (.int p2), .val (.int p3), .val (.int ph), .val (.ref aN), .val (.int r), .unset] [(.int (p0 >>> ((1 : Int32) &&& 31))), (.int (ph - (1 : Int32))), (.int p2), (.ref b11), (.ref b11)]))
        refine Go.s (fun kz => XS.aload X11.here hx rfl (hb hby at_80) rfl rfl kz) ?_
        show Go p.tables e below P (T11.setTop (mkF m 82 #[.val (.int p0), .val (.int p1), .val (.int p2), .val (.int p3), .val (.int ph), .val (.ref aN), .val (.int r), .unset] [(.ref aN), (.int (p0 >>> ((1 : Int32) &&& 31))), (.int (ph - (1 : Int32))), (.int p2), (.ref b11), (.ref b11)]))
        obtain ⟨v18, T18, L18, X18, Q18, st18⟩ := Con.special (own_rm1 l Z a0 hw [] b11 p2 (ph - (1 : Int32)) (p0 >>> ((1 : Int32) &&& 31)) (.ref aN) H11 n0 Zs11 A11 Kn11 G_b11 rfl ) rfl X11 hx hZ (W := 1) hown (hw _ (List.mem_of_getElem? (i := 7) rfl)) (hw _ (List.mem_of_getElem? (i := 8) rfl)) (hw _ (List.mem_of_getElem? (i := 6) rfl)) (hw _ (List.mem_of_getElem? (i := 9) rfl)) (by decide) (by decide) (by decide) (by decide) (by decide) e11 (g := (mkF m 82 #[.val (.int p0), .val (.int p1), .val (.int p2), .val (.int p3), .val (.int ph), .val (.ref aN), .val (.int r), .unset] [(.ref aN), (.int (p0 >>> ((1 : Int32) &&& 31))), (.int (ph - (1 : Int32))), (.int p2), (.ref b11), (.ref b11)])) rfl (by rw [hml]; rfl) (argsL := [(.int p2), (.int (ph - (1 : Int32))), (.int (p0 >>> ((1 : Int32) &&& 31))), (.ref aN)]) (rest := [(.ref b11)]) rfl (lenOf own_pd_1 rfl) rfl (by show 2 * 0 + _ ≤ _; exact Nat.le_of_eq rfl) (hb hby at_82)
        obtain ⟨H18, e18⟩ : ∃ z, T18.heap = z := ⟨_, rfl⟩
        rw [e18] at Q18
        obtain ⟨rfl, Nq18, Kq18, Fq18_hops, Fq18_phase⟩ := Q18
        have N18 := Fr.app N10 Nq18
        have Zs18 := Nat.le_trans Zs11 Kq18.1
        have S_NEXT_19 := Sta.own_keep S_NEXT_12 Kq18 (allS ⟨_, A11⟩ all0)
        have S_PREVIOUS_20 := Sta.own_keep S_PREVIOUS_13 Kq18 (allS ⟨_, A11⟩ all0)
        have A2_21 := Exa.keep A2_14 Kq18
        have Kn2_22 := Kn.keep Kn2_15 Kq18
        have Fq5_hops_23 := Fld.keep Fq5_hops_16 Kq18 (ninS ne_b2_b11 nin0)
        have Fq5_phase_24 := Fld.keep Fq5_phase_17 Kq18 (ninS ne_b2_b11 nin0)
        have A11_25 := Exa.keep A11 Kq18
        have Kn11_26 := Kn.keep Kn11 Kq18
        refine Go.s (fun {t} => st18) ?_
        show Go p.tables e below P (T18.setTop (mkF m 85 #[.val (.int p0), .val (.int p1), .val (.int p2), .val (.int p3), .val (.int ph), .val (.ref aN), .val (.int r), .unset] [(.ref b11)]))
        obtain ⟨v27, T27, L27, X27, Q27, st27⟩ := Con.virtual (own_rm4 l Z a0 hw [] b11 (p0 >>> ((1 : Int32) &&& 31)) (ph - (1 : Int32)) H18 n0 Zs18 Fq18_hops Fq18_phase ) X18 hx hZ (W := 0) hown (hw _ (List.mem_of_getElem? (i := 26) rfl)) (hw _ (List.mem_of_getElem? (i := 27) rfl)) (hw _ (List.mem_of_getElem? (i := 29) rfl)) (hw _ (List.mem_of_getElem? (i := 28) rfl)) (hw _ (List.mem_of_getElem? (i := 6) rfl)) (hw _ (List.mem_of_getElem? (i := 30) rfl)) (by decide) (by decide) (by decide) (by decide) (by decide) e18 (g := (mkF m 85 #[.val (.int p0), .val (.int p1), .val (.int p2), .val (.int p3), .val (.int ph), .val (.ref aN), .val (.int r), .unset] [(.ref b11)])) rfl (by rw [hml]; rfl) A11_25 (argsL := []) (rest := []) rfl (lenOf own_pd_2 rfl) rfl (by show 2 * 0 + _ ≤ _; exact Nat.le_of_eq rfl) (hb hby at_85)
        obtain ⟨rfl, Nq27, e27⟩ := Q27
        have N27 := Fr.app N18 Nq27
        refine Go.s (fun {t} => st27) ?_
        show Go p.tables e below P (T27.setTop (mkF m 88 #[.val (.int p0), .val (.int p1), .val (.int p2), .val (.int p3), .val (.int ph), .val (.ref aN), .val (.int r), .unset] [(.int (own_f4 (p0 >>> ((1 : Int32) &&& 31)) (ph - (1 : Int32))))]))
        refine Go.s (fun kz => XS.istore X27.here hx rfl (hb hby at_88) rfl (l' := #[.val (.int p0), .val (.int p1), .val (.int p2), .val (.int p3), .val (.int ph), .val (.ref aN), .val (.int r), .val (.int (own_f4 (p0 >>> ((1 : Int32) &&& 31)) (ph - (1 : Int32))))]) rfl kz) ?_
        show Go p.tables e below P (T27.setTop (mkF m 90 #[.val (.int p0), .val (.int p1), .val (.int p2), .val (.int p3), .val (.int ph), .val (.ref aN), .val (.int r), .val (.int (own_f4 (p0 >>> ((1 : Int32) &&& 31)) (ph - (1 : Int32))))] []))
        refine Go.s (fun kz => XS.iload X27.here hx rfl (hb hby at_90) rfl kz) ?_
        show Go p.tables e below P (T27.setTop (mkF m 92 #[.val (.int p0), .val (.int p1), .val (.int p2), .val (.int p3), .val (.int ph), .val (.ref aN), .val (.int r), .val (.int (own_f4 (p0 >>> ((1 : Int32) &&& 31)) (ph - (1 : Int32))))] [(.int r)]))
        refine Go.s (fun kz => XS.iload X27.here hx rfl (hb hby at_92) rfl kz) ?_
        show Go p.tables e below P (T27.setTop (mkF m 94 #[.val (.int p0), .val (.int p1), .val (.int p2), .val (.int p3), .val (.int ph), .val (.ref aN), .val (.int r), .val (.int (own_f4 (p0 >>> ((1 : Int32) &&& 31)) (ph - (1 : Int32))))] [(.int (own_f4 (p0 >>> ((1 : Int32) &&& 31)) (ph - (1 : Int32)))), (.int r)]))
        refine Go.s (fun kz => XS.icmpNo X27.here hx rfl (hb hby at_94) rfl (XT.ii_ne_f (own_half p0 ph r hr h1 hc62)) kz) ?_
        show Go p.tables e below P (T27.setTop (mkF m 97 #[.val (.int p0), .val (.int p1), .val (.int p2), .val (.int p3), .val (.int ph), .val (.ref aN), .val (.int r), .val (.int (own_f4 (p0 >>> ((1 : Int32) &&& 31)) (ph - (1 : Int32))))] []))
        refine Go.s (fun kz => XS.iconst X27.here hx rfl (hb hby at_97) kz) ?_
        show Go p.tables e below P (T27.setTop (mkF m 98 #[.val (.int p0), .val (.int p1), .val (.int p2), .val (.int p3), .val (.int ph), .val (.ref aN), .val (.int r), .val (.int (own_f4 (p0 >>> ((1 : Int32) &&& 31)) (ph - (1 : Int32))))] [(.int (1 : Int32))]))
        refine Go.s (fun kz => XS.goto X27.here hx rfl (pc0 := 98) (pc' := 102) rfl (hb hby at_98) (by decide) (by decide) kz) ?_
        show Go p.tables e below P (T27.setTop (mkF m 102 #[.val (.int p0), .val (.int p1), .val (.int p2), .val (.int p3), .val (.int ph), .val (.ref aN), .val (.int r), .val (.int (own_f4 (p0 >>> ((1 : Int32) &&& 31)) (ph - (1 : Int32))))] [(.int (1 : Int32))]))
        exact Go.retZ X27 hx hlk hret (by decide) (hb hby at_102) (fun U hU hF => hP U _ _ ⟨rfl, N27⟩ ⟨hF.1, hF.2.1, hF.2.2.mono (by decide) (by decide)⟩)
  · skip
    refine Go.s (fun kz => XS.ifYes X0.here hx rfl (pc0 := 12) (pc' := 21) rfl (hb hby at_12) rfl (XT.i0_ne_t hc12) (by decide) (by decide) kz) ?_
    show Go p.tables e below P (s₁.setTop (mkF m 21 #[.val (.int p0), .val (.int p1), .val (.int p2), .val (.int p3), .val (.int ph), .unset, .unset, .unset] []))
    obtain ⟨T28, X28, e28, st28⟩ := getS2 X0 hx hZ hown (host := "") (Or.inl (hw _ (List.mem_of_getElem? (i := 1) rfl))) Via.refl e0 S_PREVIOUS (g := (mkF m 21 #[.val (.int p0), .val (.int p1), .val (.int p2), .val (.int p3), .val (.int ph), .unset, .unset, .unset] [])) rfl (hb hby at_21)
    refine Go.s (fun {t} => st28 t) ?_
    show Go p.tables e below P (T28.setTop (mkF m 24 #[.val (.int p0), .val (.int p1), .val (.int p2), .val (.int p3), .val (.int ph), .unset, .unset, .unset] [(.ref aP)]))
    refine Go.s (fun kz => XS.astore X28.here hx rfl (hb hby at_24) rfl rfl (l' := #[.val (.int p0), .val (.int p1), .val (.int p2), .val (.int p3), .val (.int ph), .val (.ref aP), .unset, .unset]) rfl kz) ?_
    show Go p.tables e below P (T28.setTop (mkF m 26 #[.val (.int p0), .val (.int p1), .val (.int p2), .val (.int p3), .val (.int ph), .val (.ref aP), .unset, .unset] []))
    obtain ⟨T29, H29, X29, e29, E29, A29, D29, U29, st29⟩ := newO X28 hx hZ hown (hw _ (List.mem_of_getElem? (i := 4) rfl)) (hw _ (List.mem_of_getElem? (i := 5) rfl)) (hw _ (List.mem_of_getElem? (i := 6) rfl)) e28 (g := (mkF m 26 #[.val (.int p0), .val (.int p1), .val (.int p2), .val (.int p3), .val (.int ph), .val (.ref aP), .unset, .unset] [])) rfl (hb hby at_26) (by decide) (by decide)
    refine Go.s (fun {t} => st29 t) ?_
    obtain ⟨b29, g29⟩ : ∃ z, z = h0.size := ⟨_, rfl⟩
    rw [← g29] at A29 D29 U29
    rw [← g29]
    have S_NEXT_30 := Sta.ext E29 S_NEXT
    have S_PREVIOUS_31 := Sta.ext E29 S_PREVIOUS
    have G_b29 : n0 ≤ b29 := Nat.le_trans Z0 (Nat.le_of_eq g29.symm)
    have Zs29 := Nat.le_trans Z0 E29.1
    have Kn29 := Kn.of_new U29
    show Go p.tables e below P (T29.setTop (mkF m 29 #[.val (.int p0), .val (.int p1), .val (.int p2), .val (.int p3), .val (.int ph), .val (.ref aP), .unset, .unset] [(.ref b29)]))
    refine Go.s (fun kz => XS.dup X29.here hx rfl (hb hby at_29) rfl rfl kz) ?_
    show Go p.tables e below P (T29.setTop (mkF m 30 #[.val (.int p0), .val (.int p1), .val (.int p2), .val (.int p3), .val (.int ph), .val (.ref aP), .unset, .unset] [(.ref b29), (.ref b29)]))
    refine Go.s (fun kz => XS.iloadN X29.here hx rfl (hb hby at_30) rfl kz) ?_
    show Go p.tables e below P (T29.setTop (mkF m 31 #[.val (.int p0), .val (.int p1), .val (.int p2), .val (.int p3), .val (.int ph), .val (.ref aP), .unset, .unset] [(.int p2), (.ref b29), (.ref b29)]))
    refine Go.s (fun kz => XS.iload X29.here hx rfl (hb hby at_31) rfl kz) ?_
    show Go p.tables e below P (T29.setTop (mkF m 33 #[.val (.int p0), .val (.int p1), .val (.int p2), .val (.int p3), .val (.int ph), .val (.ref aP), .unset, .unset] [(.int ph), (.int p2), (.ref b29), (.ref b29)]))
    refine Go.s (fun kz => XS.iloadN X29.here hx rfl (hb hby at_33) rfl kz) ?_
    show Go p.tables e below P (T29.setTop (mkF m 34 #[.val (.int p0), .val (.int p1), .val (.int p2), .val (.int p3), .val (.int ph), .val (.ref aP), .unset, .unset] [(.int p0), (.int ph), (.int p2), (.ref b29), (.ref b29)]))
    refine Go.s (fun kz => XS.aload X29.here hx rfl (hb hby at_34) rfl rfl kz) ?_
    show Go p.tables e below P (T29.setTop (mkF m 36 #[.val (.int p0), .val (.int p1), .val (.int p2), .val (.int p3), .val (.int ph), .val (.ref aP), .unset, .unset] [(.ref aP), (.int p0), (.int ph), (.int p2), (.ref b29), (.ref b29)]))
    obtain ⟨v32, T32, L32, X32, Q32, st32⟩ := Con.special (own_rm1 l Z a0 hw [] b29 p2 ph p0 (.ref aP) H29 n0 Zs29 A29 Kn29 G_b29 rfl ) rfl X29 hx hZ (W := 1) hown (hw _ (List.mem_of_getElem? (i := 7) rfl)) (hw _ (List.mem_of_getElem? (i := 8) rfl)) (hw _ (List.mem_of_getElem? (i := 6) rfl)) (hw _ (List.mem_of_getElem? (i := 9) rfl)) (by decide) (by decide) (by decide) (by decide) (by decide) e29 (g := (mkF m 36 #[.val (.int p0), .val (.int p1), .val (.int p2), .val (.int p3), .val (.int ph), .val (.ref aP), .unset, .unset] [(.ref aP), (.int p0), (.int ph), (.int p2), (.ref b29), (.ref b29)])) rfl (by rw [hml]; rfl) (argsL := [(.int p2), (.int ph), (.int p0), (.ref aP)]) (rest := [(.ref b29)]) rfl (lenOf own_pd_1 rfl) rfl (by show 2 * 0 + _ ≤ _; exact Nat.le_of_eq rfl) (hb hby at_36)
    obtain ⟨H32, e32⟩ : ∃ z, T32.heap = z := ⟨_, rfl⟩
    rw [e32] at Q32
    obtain ⟨rfl, Nq32, Kq32, Fq32_hops, Fq32_phase⟩ := Q32
    have N32 := Fr.app N0 Nq32
    have Zs32 := Nat.le_trans Zs29 Kq32.1
    have S_NEXT_33 := Sta.own_keep S_NEXT_30 Kq32 (allS ⟨_, A29⟩ all0)
    have S_PREVIOUS_34 := Sta.own_keep S_PREVIOUS_31 Kq32 (allS ⟨_, A29⟩ all0)
    have A29_35 := Exa.keep A29 Kq32
    have Kn29_36 := Kn.keep Kn29 Kq32
    refine Go.s (fun {t} => st32) ?_
    show Go p.tables e below P (T32.setTop (mkF m 39 #[.val (.int p0), .val (.int p1), .val (.int p2), .val (.int p3), .val (.int ph), .val (.ref aP), .unset, .unset] [(.ref b29)]))
    obtain ⟨v37, T37, L37, X37, Q37, st37⟩ := Con.virtual (own_rm4 l Z a0 hw [] b29 p0 ph H32 n0 Zs32 Fq32_hops Fq32_phase ) X32 hx hZ (W := 0) hown (hw _ (List.mem_of_getElem? (i := 26) rfl)) (hw _ (List.mem_of_getElem? (i := 27) rfl)) (hw _ (List.mem_of_getElem? (i := 29) rfl)) (hw _ (List.mem_of_getElem? (i := 28) rfl)) (hw _ (List.mem_of_getElem? (i := 6) rfl)) (hw _ (List.mem_of_getElem? (i := 30) rfl)) (by decide) (by decide) (by decide) (by decide) (by decide) e32 (g := (mkF m 39 #[.val (.int p0), .val (.int p1), .val (.int p2), .val (.int p3), .val (.int ph), .val (.ref aP), .unset, .unset] [(.ref b29)])) rfl (by rw [hml]; rfl) A29_35 (argsL := []) (rest := []) rfl (lenOf own_pd_2 rfl) rfl (by show 2 * 0 + _ ≤ _; exact Nat.le_of_eq rfl) (hb hby at_39)
    obtain ⟨rfl, Nq37, e37⟩ := Q37
    have N37 := Fr.app N32 Nq37
    refine Go.s (fun {t} => st37) ?_
    show Go p.tables e below P (T37.setTop (mkF m 42 #[.val (.int p0), .val (.int p1), .val (.int p2), .val (.int p3), .val (.int ph), .val (.ref aP), .unset, .unset] [(.int (own_f4 p0 ph))]))
    refine Go.s (fun kz => XS.istore X37.here hx rfl (hb hby at_42) rfl (l' := #[.val (.int p0), .val (.int p1), .val (.int p2), .val (.int p3), .val (.int ph), .val (.ref aP), .val (.int (own_f4 p0 ph)), .unset]) rfl kz) ?_
    show Go p.tables e below P (T37.setTop (mkF m 44 #[.val (.int p0), .val (.int p1), .val (.int p2), .val (.int p3), .val (.int ph), .val (.ref aP), .val (.int (own_f4 p0 ph)), .unset] []))
    refine (?_ : ∀ r : Int32, r = (own_f4 p0 ph) → Go p.tables e below P (T37.setTop (mkF m 44 #[.val (.int p0), .val (.int p1), .val (.int p2), .val (.int p3), .val (.int ph), .val (.ref aP), .val (.int r), .unset] []))) _ rfl
    intro r hr
    refine Go.s (fun kz => XS.iloadN X37.here hx rfl (hb hby at_44) rfl kz) ?_
    show Go p.tables e below P (T37.setTop (mkF m 45 #[.val (.int p0), .val (.int p1), .val (.int p2), .val (.int p3), .val (.int ph), .val (.ref aP), .val (.int r), .unset] [(.int p0)]))
    refine Go.s (fun kz => XS.iconst X37.here hx rfl (hb hby at_45) kz) ?_
    show Go p.tables e below P (T37.setTop (mkF m 46 #[.val (.int p0), .val (.int p1), .val (.int p2), .val (.int p3), .val (.int ph), .val (.ref aP), .val (.int r), .unset] [(.int (1 : Int32)), (.int p0)]))
    by_cases hc46 : p0 < (1 : Int32)
    · skip
      refine Go.s (fun kz => XS.icmpNo X37.here hx rfl (hb hby at_46) rfl (XT.ii_ge_f hc46) kz) ?_
      show Go p.tables e below P (T37.setTop (mkF m 49 #[.val (.int p0), .val (.int p1), .val (.int p2), .val (.int p3), .val (.int ph), .val (.ref aP), .val (.int r), .unset] []))
      refine Go.s (fun kz => XS.iload X37.here hx rfl (hb hby at_49) rfl kz) ?_
      show Go p.tables e below P (T37.setTop (mkF m 51 #[.val (.int p0), .val (.int p1), .val (.int p2), .val (.int p3), .val (.int ph), .val (.ref aP), .val (.int r), .unset] [(.int r)]))
      refine Go.s (fun kz => XS.ifNo X37.here hx rfl (hb hby at_51) rfl (XT.i0_ne_f (own_low p0 ph r hr h1 hc46)) kz) ?_
      show Go p.tables e below P (T37.setTop (mkF m 54 #[.val (.int p0), .val (.int p1), .val (.int p2), .val (.int p3), .val (.int ph), .val (.ref aP), .val (.int r), .unset] []))
      refine Go.s (fun kz => XS.iconst X37.here hx rfl (hb hby at_54) kz) ?_
      show Go p.tables e below P (T37.setTop (mkF m 55 #[.val (.int p0), .val (.int p1), .val (.int p2), .val (.int p3), .val (.int ph), .val (.ref aP), .val (.int r), .unset] [(.int (1 : Int32))]))
      refine Go.s (fun kz => XS.goto X37.here hx rfl (pc0 := 55) (pc' := 59) rfl (hb hby at_55) (by decide) (by decide) kz) ?_
      show Go p.tables e below P (T37.setTop (mkF m 59 #[.val (.int p0), .val (.int p1), .val (.int p2), .val (.int p3), .val (.int ph), .val (.ref aP), .val (.int r), .unset] [(.int (1 : Int32))]))
      exact Go.retZ X37 hx hlk hret (by decide) (hb hby at_59) (fun U hU hF => hP U _ _ ⟨rfl, N37⟩ ⟨hF.1, hF.2.1, hF.2.2.mono (by decide) (by decide)⟩)
    · skip
      refine Go.s (fun kz => XS.icmpYes X37.here hx rfl (pc0 := 46) (pc' := 60) rfl (hb hby at_46) rfl (XT.ii_ge_t hc46) (by decide) (by decide) kz) ?_
      show Go p.tables e below P (T37.setTop (mkF m 60 #[.val (.int p0), .val (.int p1), .val (.int p2), .val (.int p3), .val (.int ph), .val (.ref aP), .val (.int r), .unset] []))
      refine Go.s (fun kz => XS.iload X37.here hx rfl (hb hby at_60) rfl kz) ?_
      show Go p.tables e below P (T37.setTop (mkF m 62 #[.val (.int p0), .val (.int p1), .val (.int p2), .val (.int p3), .val (.int ph), .val (.ref aP), .val (.int r), .unset] [(.int ph)]))
      by_cases hc62 : ph = 0
      · skip
        refine Go.s (fun kz => XS.ifNo X37.here hx rfl (hb hby at_62) rfl (XT.i0_ne_f hc62) kz) ?_
        show Go p.tables e below P (T37.setTop (mkF m 65 #[.val (.int p0), .val (.int p1), .val (.int p2), .val (.int p3), .val (.int ph), .val (.ref aP), .val (.int r), .unset] []))
        obtain rfl := own_zero p0 ph r hr h1 hc46 hc62
        show Go p.tables e below P (T37.setTop (mkF m 65 #[.val (.int p0), .val (.int p1), .val (.int p2), .val (.int p3), .val (.int ph), .val (.ref aP), .val (.int (1 : Int32)), .unset] []))
        refine Go.s (fun kz => XS.iload X37.here hx rfl (hb hby at_65) rfl kz) ?_
        show Go p.tables e below P (T37.setTop (mkF m 67 #[.val (.int p0), .val (.int p1), .val (.int p2), .val (.int p3), .val (.int ph), .val (.ref aP), .val (.int (1 : Int32)), .unset] [(.int (1 : Int32))]))
        exact Go.retZ X37 hx hlk hret (by decide) (hb hby at_67) (fun U hU hF => hP U _ _ ⟨rfl, N37⟩ ⟨hF.1, hF.2.1, hF.2.2.mono (by decide) (by decide)⟩)
      · skip
        refine Go.s (fun kz => XS.ifYes X37.here hx rfl (pc0 := 62) (pc' := 68) rfl (hb hby at_62) rfl (XT.i0_ne_t hc62) (by decide) (by decide) kz) ?_
        show Go p.tables e below P (T37.setTop (mkF m 68 #[.val (.int p0), .val (.int p1), .val (.int p2), .val (.int p3), .val (.int ph), .val (.ref aP), .val (.int r), .unset] []))
        obtain ⟨T38, H38, X38, e38, E38, A38, D38, U38, st38⟩ := newO X37 hx hZ hown (hw _ (List.mem_of_getElem? (i := 4) rfl)) (hw _ (List.mem_of_getElem? (i := 5) rfl)) (hw _ (List.mem_of_getElem? (i := 6) rfl)) e37 (g := (mkF m 68 #[.val (.int p0), .val (.int p1), .val (.int p2), .val (.int p3), .val (.int ph), .val (.ref aP), .val (.int r), .unset] [])) rfl (hb hby at_68) (by decide) (by decide)
        refine Go.s (fun {t} => st38 t) ?_
        obtain ⟨b38, g38⟩ : ∃ z, z = H32.size := ⟨_, rfl⟩
        rw [← g38] at A38 D38 U38
        rw [← g38]
        have ne_b29_b38 : b29 ≠ b38 := Nat.ne_of_lt (Nat.lt_of_lt_of_le A29_35.lt (Nat.le_of_eq g38.symm))
        have S_NEXT_39 := Sta.ext E38 S_NEXT_33
        have S_PREVIOUS_40 := Sta.ext E38 S_PREVIOUS_34
        have A29_41 := Exa.ext E38 A29_35
        have Kn29_42 := Kn.ext Kn29_36 E38
        have Fq32_hops_43 := Fld.ext E38 Fq32_hops
        have Fq32_phase_44 := Fld.ext E38 Fq32_phase
        have G_b38 : n0 ≤ b38 := Nat.le_trans Zs32 (Nat.le_of_eq g38.symm)
        have Zs38 := Nat.le_trans Zs32 E38.1
        have Kn38 := Kn.of_new U38
        show Go p.tables e below P (T38.setTop (mkF m 71 #[.val (.int p0), .val (.int p1), .val (.int p2), .val (.int p3), .val (.int ph), .val (.ref aP), .val (.int r), .unset] [(.ref b38)]))
        refine Go.s (fun kz => XS.dup X38.here hx rfl (hb hby at_71) rfl rfl kz) ?_
        show Go p.tables e below P (T38.setTop (mkF m 72 #[.val (.int p0), .val (.int p1), .val (.int p2), .val (.int p3), .val (.int ph), .val (.ref aP), .val (.int r), .unset] [(.ref b38), (.ref b38)]))
        refine Go.s (fun kz => XS.iloadN X38.here hx rfl (hb hby at_72) rfl kz) ?_
        show Go p.tables e below P (T38.setTop (mkF m 73 #[.val (.int p0), .val (.int p1), .val (.int p2), .val (.int p3), .val (.int ph), .val (.ref aP), .val (.int r), .unset] [(.int p2), (.ref b38), (.ref b38)]))
        refine Go.s (fun kz => XS.iload X38.here hx rfl (hb hby at_73) rfl kz) ?_
        show Go p.tables e below P (T38.setTop (mkF m 75 #[.val (.int p0), .val (.int p1), .val (.int p2), .val (.int p3), .val (.int ph), .val (.ref aP), .val (.int r), .unset] [(.int ph), (.int p2), (.ref b38), (.ref b38)]))
        refine Go.s (fun kz => XS.iconst X38.here hx rfl (hb hby at_75) kz) ?_
        show Go p.tables e below P (T38.setTop (mkF m 76 #[.val (.int p0), .val (.int p1), .val (.int p2), .val (.int p3), .val (.int ph), .val (.ref aP), .val (.int r), .unset] [(.int (1 : Int32)), (.int ph), (.int p2), (.ref b38), (.ref b38)]))
        refine Go.s (fun kz => XS.isub X38.here hx rfl (hb hby at_76) rfl kz) ?_
        show Go p.tables e below P (T38.setTop (mkF m 77 #[.val (.int p0), .val (.int p1), .val (.int p2), .val (.int p3), .val (.int ph), .val (.ref aP), .val (.int r), .unset] [(.int (ph - (1 : Int32))), (.int p2), (.ref b38), (.ref b38)]))
        refine Go.s (fun kz => XS.iloadN X38.here hx rfl (hb hby at_77) rfl kz) ?_
        show Go p.tables e below P (T38.setTop (mkF m 78 #[.val (.int p0), .val (.int p1), .val (.int p2), .val (.int p3), .val (.int ph), .val (.ref aP), .val (.int r), .unset] [(.int p0), (.int (ph - (1 : Int32))), (.int p2), (.ref b38), (.ref b38)]))
        refine Go.s (fun kz => XS.iconst X38.here hx rfl (hb hby at_78) kz) ?_
        show Go p.tables e below P (T38.setTop (mkF m 79 #[.val (.int p0), .val (.int p1), .val (.int p2), .val (.int p3), .val (.int ph), .val (.ref aP), .val (.int r), .unset] [(.int (1 : Int32)), (.int p0), (.int (ph - (1 : Int32))), (.int p2), (.ref b38), (.ref b38)]))
        refine Go.s (fun kz => XT.ishr X38.here hx rfl (hb hby at_79) rfl kz) ?_
        show Go p.tables e below P (T38.setTop (mkF m 80 #[.val (.int p0), .val (.int p1), .val (.int p2), .val (.int p3), .val (.int ph), .val (.ref aP), .val (.int r), .unset] [(.int (p0 >>> ((1 : Int32) &&& 31))), (.int (ph - (1 : Int32))), (.int p2), (.ref b38), (.ref b38)]))
        refine Go.s (fun kz => XS.aload X38.here hx rfl (hb hby at_80) rfl rfl kz) ?_
        show Go p.tables e below P (T38.setTop (mkF m 82 #[.val (.int p0), .val (.int p1), .val (.int p2), .val (.int p3), .val (.int ph), .val (.ref aP), .val (.int r), .unset] [(.ref aP), (.int (p0 >>> ((1 : Int32) &&& 31))), (.int (ph - (1 : Int32))), (.int p2), (.ref b38), (.ref b38)]))
        obtain ⟨v45, T45, L45, X45, Q45, st45⟩ := Con.special (own_rm1 l Z a0 hw [] b38 p2 (ph - (1 : Int32)) (p0 >>> ((1 : Int32) &&& 31)) (.ref aP) H38 n0 Zs38 A38 Kn38 G_b38 rfl ) rfl X38 hx hZ (W := 1) hown (hw _ (List.mem_of_getElem? (i := 7) rfl)) (hw _ (List.mem_of_getElem? (i := 8) rfl)) (hw _ (List.mem_of_getElem? (i := 6) rfl)) (hw _ (List.mem_of_getElem? (i := 9) rfl)) (by decide) (by decide) (by decide) (by decide) (by decide) e38 (g := (mkF m 82 #[.val (.int p0), .val (.int p1), .val (.int p2), .val (.int p3), .val (.int ph), .val (.ref aP), .val (.int r), .unset] [(.ref aP), (.int (p0 >>> ((1 : Int32) &&& 31))), (.int (ph - (1 : Int32))), (.int p2), (.ref b38), (.ref b38)])) rfl (by rw [hml]; rfl) (argsL := [(.int p2), (.int (ph - (1 : Int32))), (.int (p0 >>> ((1 : Int32) &&& 31))), (.ref aP)]) (rest := [(.ref b38)]) rfl (lenOf own_pd_1 rfl) rfl (by show 2 * 0 + _ ≤ _; exact Nat.le_of_eq rfl) (hb hby at_82)
        obtain ⟨H45, e45⟩ : ∃ z, T45.heap = z := ⟨_, rfl⟩
        rw [e45] at Q45
        obtain ⟨rfl, Nq45, Kq45, Fq45_hops, Fq45_phase⟩ := Q45
        have N45 := Fr.app N37 Nq45
        have Zs45 := Nat.le_trans Zs38 Kq45.1
        have S_NEXT_46 := Sta.own_keep S_NEXT_39 Kq45 (allS ⟨_, A38⟩ all0)
        have S_PREVIOUS_47 := Sta.own_keep S_PREVIOUS_40 Kq45 (allS ⟨_, A38⟩ all0)
        have A29_48 := Exa.keep A29_41 Kq45
        have Kn29_49 := Kn.keep Kn29_42 Kq45
        have Fq32_hops_50 := Fld.keep Fq32_hops_43 Kq45 (ninS ne_b29_b38 nin0)
        have Fq32_phase_51 := Fld.keep Fq32_phase_44 Kq45 (ninS ne_b29_b38 nin0)
        have A38_52 := Exa.keep A38 Kq45
        have Kn38_53 := Kn.keep Kn38 Kq45
        refine Go.s (fun {t} => st45) ?_
        show Go p.tables e below P (T45.setTop (mkF m 85 #[.val (.int p0), .val (.int p1), .val (.int p2), .val (.int p3), .val (.int ph), .val (.ref aP), .val (.int r), .unset] [(.ref b38)]))
        obtain ⟨v54, T54, L54, X54, Q54, st54⟩ := Con.virtual (own_rm4 l Z a0 hw [] b38 (p0 >>> ((1 : Int32) &&& 31)) (ph - (1 : Int32)) H45 n0 Zs45 Fq45_hops Fq45_phase ) X45 hx hZ (W := 0) hown (hw _ (List.mem_of_getElem? (i := 26) rfl)) (hw _ (List.mem_of_getElem? (i := 27) rfl)) (hw _ (List.mem_of_getElem? (i := 29) rfl)) (hw _ (List.mem_of_getElem? (i := 28) rfl)) (hw _ (List.mem_of_getElem? (i := 6) rfl)) (hw _ (List.mem_of_getElem? (i := 30) rfl)) (by decide) (by decide) (by decide) (by decide) (by decide) e45 (g := (mkF m 85 #[.val (.int p0), .val (.int p1), .val (.int p2), .val (.int p3), .val (.int ph), .val (.ref aP), .val (.int r), .unset] [(.ref b38)])) rfl (by rw [hml]; rfl) A38_52 (argsL := []) (rest := []) rfl (lenOf own_pd_2 rfl) rfl (by show 2 * 0 + _ ≤ _; exact Nat.le_of_eq rfl) (hb hby at_85)
        obtain ⟨rfl, Nq54, e54⟩ := Q54
        have N54 := Fr.app N45 Nq54
        refine Go.s (fun {t} => st54) ?_
        show Go p.tables e below P (T54.setTop (mkF m 88 #[.val (.int p0), .val (.int p1), .val (.int p2), .val (.int p3), .val (.int ph), .val (.ref aP), .val (.int r), .unset] [(.int (own_f4 (p0 >>> ((1 : Int32) &&& 31)) (ph - (1 : Int32))))]))
        refine Go.s (fun kz => XS.istore X54.here hx rfl (hb hby at_88) rfl (l' := #[.val (.int p0), .val (.int p1), .val (.int p2), .val (.int p3), .val (.int ph), .val (.ref aP), .val (.int r), .val (.int (own_f4 (p0 >>> ((1 : Int32) &&& 31)) (ph - (1 : Int32))))]) rfl kz) ?_
        show Go p.tables e below P (T54.setTop (mkF m 90 #[.val (.int p0), .val (.int p1), .val (.int p2), .val (.int p3), .val (.int ph), .val (.ref aP), .val (.int r), .val (.int (own_f4 (p0 >>> ((1 : Int32) &&& 31)) (ph - (1 : Int32))))] []))
        refine Go.s (fun kz => XS.iload X54.here hx rfl (hb hby at_90) rfl kz) ?_
        show Go p.tables e below P (T54.setTop (mkF m 92 #[.val (.int p0), .val (.int p1), .val (.int p2), .val (.int p3), .val (.int ph), .val (.ref aP), .val (.int r), .val (.int (own_f4 (p0 >>> ((1 : Int32) &&& 31)) (ph - (1 : Int32))))] [(.int r)]))
        refine Go.s (fun kz => XS.iload X54.here hx rfl (hb hby at_92) rfl kz) ?_
        show Go p.tables e below P (T54.setTop (mkF m 94 #[.val (.int p0), .val (.int p1), .val (.int p2), .val (.int p3), .val (.int ph), .val (.ref aP), .val (.int r), .val (.int (own_f4 (p0 >>> ((1 : Int32) &&& 31)) (ph - (1 : Int32))))] [(.int (own_f4 (p0 >>> ((1 : Int32) &&& 31)) (ph - (1 : Int32)))), (.int r)]))
        refine Go.s (fun kz => XS.icmpNo X54.here hx rfl (hb hby at_94) rfl (XT.ii_ne_f (own_half p0 ph r hr h1 hc62)) kz) ?_
        show Go p.tables e below P (T54.setTop (mkF m 97 #[.val (.int p0), .val (.int p1), .val (.int p2), .val (.int p3), .val (.int ph), .val (.ref aP), .val (.int r), .val (.int (own_f4 (p0 >>> ((1 : Int32) &&& 31)) (ph - (1 : Int32))))] []))
        refine Go.s (fun kz => XS.iconst X54.here hx rfl (hb hby at_97) kz) ?_
        show Go p.tables e below P (T54.setTop (mkF m 98 #[.val (.int p0), .val (.int p1), .val (.int p2), .val (.int p3), .val (.int ph), .val (.ref aP), .val (.int r), .val (.int (own_f4 (p0 >>> ((1 : Int32) &&& 31)) (ph - (1 : Int32))))] [(.int (1 : Int32))]))
        refine Go.s (fun kz => XS.goto X54.here hx rfl (pc0 := 98) (pc' := 102) rfl (hb hby at_98) (by decide) (by decide) kz) ?_
        show Go p.tables e below P (T54.setTop (mkF m 102 #[.val (.int p0), .val (.int p1), .val (.int p2), .val (.int p3), .val (.int ph), .val (.ref aP), .val (.int r), .val (.int (own_f4 (p0 >>> ((1 : Int32) &&& 31)) (ph - (1 : Int32))))] [(.int (1 : Int32))]))
        exact Go.retZ X54 hx hlk hret (by decide) (hb hby at_102) (fun U hU hF => hP U _ _ ⟨rfl, N54⟩ ⟨hF.1, hF.2.1, hF.2.2.mono (by decide) (by decide)⟩)
set_option maxRecDepth 65536 in
set_option maxHeartbeats 40000000 in
theorem own_comes {Post : Tables → Env → Array Value → State → Outcome → State → Prop} (hpost : ∀ tb e args s v u, (limb_1_1.after args s (.returned v) u = true ∧ limb_1_2.after args s (.returned v) u = true ∧ True) → FrameEnd s (.returned v) u (Jvm.fieldLocs frame_1_writes args s ++ Jvm.arrayLocs frame_1_arrays args s ++ Jvm.staticLocs frame_1_statics s) 16 128 → Post tb e args s (.returned v) u) :
    ArmFor flags0 classFile x code maxLocals ret World_1 tables_1 room_1 Calls_1 rest_1 Pre_1 Post := by
  intro l hfl _ _ p e ha hc hk s m args below hf hA hF happ hP
  obtain ⟨hcalls, hrest, hpre⟩ := hP
  obtain ⟨-, -, -, hnamed, -, -, -, hat⟩ := (Spec.applies_iff hf).mp happ
  obtain ⟨hg, hn⟩ := and_e (Cond.before_iff.mp (show (Jvm.Cond.and given_1 narrow_1).before args s = true from hpre))
  obtain ⟨h1, g1⟩ := and_e hg
  obtain ⟨w0, w1, w2, w3, rfl⟩ : ∃ w0 w1 w2 w3 : Value, args = #[w0, w1, w2, w3] := by
    have hs : args.size = 4 := by simpa [Cond.value, given_1] using h1
    obtain ⟨L⟩ := args
    match L, hs with
    | [w0, w1, w2, w3], _ => exact ⟨w0, w1, w2, w3, rfl⟩
  have hw := fun d (hd : d ∈ tables_1) => atoms_spec (ws := Jvm.Cond.code x code maxLocals ret :: tables_1) hat d (List.mem_cons_of_mem _ hd)
  have hfit : Fit s := fun {y c} hc i hi => by
    obtain ⟨ha, rfl⟩ := Array.getElem?_eq_some_iff.mp hc
    have q := List.all_eq_true.mp ((Array.all_eq_true_iff_forall_mem.mp hF) _ (Array.getElem_mem ha)) i (List.mem_range.mpr hi)
    simpa [Array.getElem?_eq_getElem hi] using q
  obtain ⟨a0, g2⟩ := and_e g1
  obtain ⟨i0, ee0⟩ := is_v a0
  obtain rfl : w0 = (.int i0) := Option.some.inj ee0
  obtain ⟨a1, g3⟩ := and_e g2
  obtain ⟨i1, ee1⟩ := is_v a1
  obtain rfl : w1 = (.int i1) := Option.some.inj ee1
  obtain ⟨a2, g4⟩ := and_e g3
  obtain ⟨i2, ee2⟩ := is_v a2
  obtain rfl : w2 = (.int i2) := Option.some.inj ee2
  obtain ⟨i3, ee3⟩ := is_v g4
  obtain rfl : w3 = (.int i3) := Option.some.inj ee3
  obtain ⟨n1, n2⟩ := and_e hn
  obtain ⟨aP, eP⟩ := exa_v n1
  obtain ⟨aN, eN⟩ := exa_v n2
  have SP := Sta.start eP (Or.inr ⟨(hw _ (List.mem_of_getElem? (i := 2) rfl)), (hw _ (List.mem_of_getElem? (i := 3) rfl))⟩)
  have SN := Sta.start eN (Or.inr ⟨(hw _ (List.mem_of_getElem? (i := 2) rfl)), (hw _ (List.mem_of_getElem? (i := 32) rfl))⟩)
  obtain ⟨n, o, h1, h2, h3, _, L, rfl, ⟨rfl, N⟩, hq⟩ := own_rm0 l s _ hw tables_1 i0 i1 i2 i3 aN aP s.heap s.heap.size (Nat.le_refl _) SN SP p e ha hc hk s m _ below hf ((Spec.applies_iff_loose hf).mp happ).1 ⟨rfl, State.Warmed39.refl s, rfl⟩ trivial
  refine ⟨n, _, h1, h2, h3, hpost _ _ _ _ _ _ ⟨Cond.after_iff.mpr rfl, Cond.after_iff.mpr (eq_i res_at (Term.int_eval (1)) rfl), trivial⟩ ⟨hq.1, hq.2.1, (hq.2.2.sift fun y hy => Or.inr (N y hy)).mono (by decide) (by decide)⟩⟩
theorem main_1_1 : Claimed_1_1 := own_comes fun _ _ _ _ _ _ h hF => ⟨h.1, hF⟩
theorem main_1_2 : Claimed_1_2 := own_comes fun _ _ _ _ _ _ h hF => ⟨h.2.1, hF⟩
end Jvm.Pilot.@@N@@
namespace Jvm.Pilot.@@N@@
open Jvm Jvm.ClassFile Sem Op Lib Jvm.Free Jvm.Stand Jvm.Pilot.@@N@@.Jvm.D
/-! MADE BY PROGRAM (witnessworld.py) out of the Statement's table words and the real class files: 16 classes; the members and pool entries that the words name. The judged class is class 1, her method 1. -/
namespace start1
open Jvm.ClassFile
def u (s : String) : CpInfo := .utf8 (stringToUtf16 s)
/-- a pool by its gaps: so many unusable entries, then the entry; so many at the end -/
def gap : Nat → List CpInfo → List CpInfo
  | 0, r => r
  | n + 1, r => .unusable :: gap n r
def poolList (es : List (Nat × CpInfo)) (last : Nat) : List CpInfo := es.foldr (fun e r => gap e.1 (e.2 :: r)) (gap last [])
def pool (es : List (Nat × CpInfo)) (last : Nat) : Array CpInfo := ⟨poolList es last⟩
def fileOf (pool : Array CpInfo) (this : Nat) (attrs : Array Attribute := #[]) (ms : Array MethodInfo := #[]) (fl : Nat := 33) (sup : Nat := 0) (ifs : Array Nat := #[]) (fds : Array FieldInfo := #[]) : ClassFile where
  minorVersion := 0
  majorVersion := 65
  constantPool := pool
  accessFlags := fl
  thisClass := this
  superClass := sup
  interfaces := ifs
  fields := fds
  methods := ms
  attributes := attrs
def plain (name : String) (sup : Option ClassId) : Class where
  name := name
  kind := .ordinary
  loader := none
  accessFlags := 33
  super := sup
  interfaces := #[]
  cf := none
  fields := #[]
  methods := #[]
  instanceTypes := #[]
  staticTypes := #[]
  resolved := #[]
  callSites := []
  init := .initialized
  statics := none
  mirror := none

def pool0 : Array CpInfo := pool [(5, u "<init>"), (0, u "()V"), (1, .class_ 10), (1, u "java/lang/Object")] 113

def k0c0 : Code := { maxStack := 0, maxLocals := 1, code := object_method_1_code, exceptionTable := #[], attributes := #[] }
def k0m0 : Method := { name := "<init>", desc := "()V", sig := { parameters := [], returnType := none }, accessFlags := 1, code := some k0c0 }
/-- java/lang/Object -/
def k0 : Class := { plain "java/lang/Object" none with
  accessFlags := 33
  interfaces := #[]
  cf := some (fileOf pool0 8 #[] #[{ accessFlags := 1, nameIndex := 5, descriptorIndex := 6, attributes := #[] }] 33 0 #[] #[])
  fields := #[]
  methods := #[k0m0]
  instanceTypes := #[]
  staticTypes := #[]
  resolved := Array.replicate 124 none
  statics := none }

def pool1 : Array CpInfo := pool [(2, .class_ 4), (1, u "java/lang/Object"), (0, u "<init>"), (0, u "()V"), (0, .integer 2147483647), (0, .fieldref 9 10), (0, .class_ 11), (0, .nameAndType 12 13), (0, u "com/example/paperwasp/paperwasp/hs/HsMessage$Way"), (0, u "NEXT"), (0, u "Lcom/example/paperwasp/paperwasp/hs/HsMessage$Way;"), (0, .fieldref 9 15), (0, .nameAndType 16 13), (0, u "PREVIOUS"), (0, .class_ 18), (0, u "com/example/paperwasp/paperwasp/hs/HsMessage$Probe"), (0, .methodref 17 20), (0, .nameAndType 5 21), (0, u "(IIILcom/example/paperwasp/paperwasp/hs/HsMessage$Way;)V"), (0, .methodref 17 23), (0, .nameAndType 24 25), (0, u "reached"), (0, u "()Z"), (0, .class_ 27), (0, u "com/example/paperwasp/paperwasp/hs/ProbeReachedPinLaw"), (2, u "law"), (0, u "(IIII)Z")] 8

def k1m0 : Method := { name := "<init>", desc := "()V", sig := { parameters := [], returnType := none }, accessFlags := 1, code := none }
def k1c1 : Code := { maxStack := 6, maxLocals := 8, code := code, exceptionTable := #[], attributes := #[] }
def k1m1 : Method := { name := "law", desc := "(IIII)Z", sig := { parameters := [.int, .int, .int, .int], returnType := some .boolean }, accessFlags := 9, code := some k1c1 }
/-- com/example/paperwasp/paperwasp/hs/ProbeReachedPinLaw -/
def k1 : Class := { plain "com/example/paperwasp/paperwasp/hs/ProbeReachedPinLaw" (some 0) with
  accessFlags := 49
  interfaces := #[]
  cf := some (fileOf pool1 26 #[] #[{ accessFlags := 1, nameIndex := 5, descriptorIndex := 6, attributes := #[] }, { accessFlags := 9, nameIndex := 30, descriptorIndex := 31, attributes := #[] }] 49 2 #[] #[])
  fields := #[]
  methods := #[k1m0, k1m1]
  instanceTypes := #[]
  staticTypes := #[]
  resolved := Array.replicate 40 none
  statics := none }

def pool2 : Array CpInfo := pool [(1, .class_ 2), (0, u "java/lang/constant/Constable"), (0, .class_ 4), (0, u "java/lang/Object")] 6

/-- java/lang/constant/Constable -/
def k2 : Class := { plain "java/lang/constant/Constable" (some 0) with
  accessFlags := 1537
  interfaces := #[]
  cf := some (fileOf pool2 1 #[] #[] 1537 3 #[] #[])
  fields := #[]
  methods := #[]
  instanceTypes := #[]
  staticTypes := #[]
  resolved := Array.replicate 11 none
  statics := none }

def pool3 : Array CpInfo := pool [(1, .class_ 2), (0, u "java/lang/Comparable"), (0, .class_ 4), (0, u "java/lang/Object")] 7

/-- java/lang/Comparable -/
def k3 : Class := { plain "java/lang/Comparable" (some 0) with
  accessFlags := 1537
  interfaces := #[]
  cf := some (fileOf pool3 1 #[] #[] 1537 3 #[] #[])
  fields := #[]
  methods := #[]
  instanceTypes := #[]
  staticTypes := #[]
  resolved := Array.replicate 12 none
  statics := none }

def pool4 : Array CpInfo := pool [(1, .class_ 2), (0, u "java/io/Serializable"), (0, .class_ 4), (0, u "java/lang/Object")] 2

/-- java/io/Serializable -/
def k4 : Class := { plain "java/io/Serializable" (some 0) with
  accessFlags := 1537
  interfaces := #[]
  cf := some (fileOf pool4 1 #[] #[] 1537 3 #[] #[])
  fields := #[]
  methods := #[]
  instanceTypes := #[]
  staticTypes := #[]
  resolved := Array.replicate 7 none
  statics := none }

def pool5 : Array CpInfo := pool [(2, .class_ 4), (1, u "java/lang/Enum"), (0, u "name"), (0, u "Ljava/lang/String;"), (2, u "ordinal"), (0, u "I"), (1, .class_ 14), (1, u "java/lang/Object"), (4, u "hash"), (86, .class_ 108), (1, u "java/lang/Enum$EnumDesc"), (2, .class_ 112), (0, u "java/lang/constant/Constable"), (0, .class_ 114), (0, u "java/lang/Comparable"), (0, .class_ 116), (0, u "java/io/Serializable")] 87

/-- java/lang/Enum -/
def k5 : Class := { plain "java/lang/Enum" (some 0) with
  accessFlags := 1057
  interfaces := #[2, 3, 4]
  cf := some (fileOf pool5 2 #[.nestMembers #[106]] #[] 1057 12 #[111, 113, 115] #[{ accessFlags := 18, nameIndex := 5, descriptorIndex := 6, attributes := #[] }, { accessFlags := 18, nameIndex := 9, descriptorIndex := 10, attributes := #[] }, { accessFlags := 2, nameIndex := 19, descriptorIndex := 10, attributes := #[] }])
  fields := #[{ name := "name", type := (.object "java/lang/String"), accessFlags := 18, slot := 0, constantValue := 0 }, { name := "ordinal", type := .int, accessFlags := 18, slot := 1, constantValue := 0 }, { name := "hash", type := .int, accessFlags := 2, slot := 2, constantValue := 0 }]
  methods := #[]
  instanceTypes := #[(.object "java/lang/String"), .int, .int]
  staticTypes := #[]
  resolved := Array.replicate 204 none
  statics := none }

def pool6 : Array CpInfo := pool [(1, .class_ 2), (0, u "com/example/paperwasp/paperwasp/hs/HsMessage$Way"), (2, u "NEXT"), (0, u "Lcom/example/paperwasp/paperwasp/hs/HsMessage$Way;"), (2, u "PREVIOUS"), (2, u "$VALUES"), (0, u "[Lcom/example/paperwasp/paperwasp/hs/HsMessage$Way;"), (6, .class_ 22), (1, u "java/lang/Enum"), (97, .class_ 121), (0, u "com/example/paperwasp/paperwasp/hs/HsMessage")] 35

/-- com/example/paperwasp/paperwasp/hs/HsMessage$Way -/
def k6 : Class := { plain "com/example/paperwasp/paperwasp/hs/HsMessage$Way" (some 5) with
  accessFlags := 16433
  interfaces := #[]
  cf := some (fileOf pool6 1 #[.nestHost 120] #[] 16433 20 #[] #[{ accessFlags := 16409, nameIndex := 5, descriptorIndex := 6, attributes := #[] }, { accessFlags := 16409, nameIndex := 9, descriptorIndex := 6, attributes := #[] }, { accessFlags := 4122, nameIndex := 12, descriptorIndex := 13, attributes := #[] }])
  fields := #[{ name := "NEXT", type := (.object "com/example/paperwasp/paperwasp/hs/HsMessage$Way"), accessFlags := 16409, slot := 0, constantValue := 0 }, { name := "PREVIOUS", type := (.object "com/example/paperwasp/paperwasp/hs/HsMessage$Way"), accessFlags := 16409, slot := 1, constantValue := 0 }, { name := "$VALUES", type := (.array (.object "com/example/paperwasp/paperwasp/hs/HsMessage$Way")), accessFlags := 4122, slot := 2, constantValue := 0 }]
  methods := #[]
  instanceTypes := #[(.object "java/lang/String"), .int, .int]
  staticTypes := #[(.object "com/example/paperwasp/paperwasp/hs/HsMessage$Way"), (.object "com/example/paperwasp/paperwasp/hs/HsMessage$Way"), (.array (.object "com/example/paperwasp/paperwasp/hs/HsMessage$Way"))]
  resolved := Array.replicate 157 none
  statics := some 0 }

def pool7 : Array CpInfo := pool [(1, .methodref 2 3), (0, .class_ 4), (0, .nameAndType 5 6), (0, u "java/lang/Object"), (0, u "<init>"), (0, u "()V"), (0, .class_ 8), (0, u "java/lang/Record")] 13

def k7c0 : Code := { maxStack := 1, maxLocals := 1, code := jdk_30_method_1_code, exceptionTable := #[], attributes := #[] }
def k7m0 : Method := { name := "<init>", desc := "()V", sig := { parameters := [], returnType := none }, accessFlags := 4, code := some k7c0 }
/-- java/lang/Record -/
def k7 : Class := { plain "java/lang/Record" (some 0) with
  accessFlags := 1057
  interfaces := #[]
  cf := some (fileOf pool7 7 #[] #[{ accessFlags := 4, nameIndex := 5, descriptorIndex := 6, attributes := #[] }] 1057 2 #[] #[])
  fields := #[]
  methods := #[k7m0]
  instanceTypes := #[]
  staticTypes := #[]
  resolved := Array.replicate 22 none
  statics := none }

def pool8 : Array CpInfo := pool [(1, .class_ 2), (0, u "com/example/paperwasp/paperwasp/member/Message"), (0, .class_ 4), (0, u "java/lang/Object")] 5

/-- com/example/paperwasp/paperwasp/member/Message -/
def k8 : Class := { plain "com/example/paperwasp/paperwasp/member/Message" (some 0) with
  accessFlags := 1537
  interfaces := #[]
  cf := some (fileOf pool8 1 #[] #[] 1537 3 #[] #[])
  fields := #[]
  methods := #[]
  instanceTypes := #[]
  staticTypes := #[]
  resolved := Array.replicate 10 none
  statics := none }

def pool9 : Array CpInfo := pool [(1, .class_ 2), (0, u "com/example/paperwasp/paperwasp/hs/HsMessage"), (0, .class_ 4), (0, u "java/lang/Object"), (0, .class_ 6), (0, u "com/example/paperwasp/paperwasp/member/Message"), (3, .class_ 11), (0, u "com/example/paperwasp/paperwasp/hs/HsMessage$Elected"), (0, .class_ 13), (0, u "com/example/paperwasp/paperwasp/hs/HsMessage$Reply"), (0, .class_ 15), (0, u "com/example/paperwasp/paperwasp/hs/HsMessage$Probe"), (0, .class_ 17), (0, u "com/example/paperwasp/paperwasp/hs/HsMessage$Way")] 6

/-- com/example/paperwasp/paperwasp/hs/HsMessage -/
def k9 : Class := { plain "com/example/paperwasp/paperwasp/hs/HsMessage" (some 0) with
  accessFlags := 1536
  interfaces := #[8]
  cf := some (fileOf pool9 1 #[.nestMembers #[10, 12, 14, 16]] #[] 1536 3 #[5] #[])
  fields := #[]
  methods := #[]
  instanceTypes := #[]
  staticTypes := #[]
  resolved := Array.replicate 24 none
  statics := none }

def pool10 : Array CpInfo := pool [(1, .methodref 2 3), (0, .class_ 4), (0, .nameAndType 5 6), (0, u "java/lang/Record"), (0, u "<init>"), (0, u "()V"), (0, .fieldref 8 9), (0, .class_ 10), (0, .nameAndType 11 12), (0, u "com/example/paperwasp/paperwasp/hs/HsMessage$Probe"), (0, u "candidate"), (0, u "I"), (0, .fieldref 8 14), (0, .nameAndType 15 12), (0, u "phase"), (0, .fieldref 8 17), (0, .nameAndType 18 12), (0, u "hops"), (0, .fieldref 8 20), (0, .nameAndType 21 22), (0, u "way"), (0, u "Lcom/example/paperwasp/paperwasp/hs/HsMessage$Way;"), (2, u "(IIILcom/example/paperwasp/paperwasp/hs/HsMessage$Way;)V"), (24, .class_ 51), (0, u "com/example/paperwasp/paperwasp/hs/HsMessage"), (3, u "reached"), (0, u "()Z")] 42

def k10c0 : Code := { maxStack := 2, maxLocals := 5, code := prog_26_method_1_code, exceptionTable := #[], attributes := #[] }
def k10m0 : Method := { name := "<init>", desc := "(IIILcom/example/paperwasp/paperwasp/hs/HsMessage$Way;)V", sig := { parameters := [.int, .int, .int, (.object "com/example/paperwasp/paperwasp/hs/HsMessage$Way")], returnType := none }, accessFlags := 1, code := some k10c0 }
def k10c1 : Code := { maxStack := 5, maxLocals := 1, code := prog_26_method_2_code, exceptionTable := #[], attributes := #[] }
def k10m1 : Method := { name := "reached", desc := "()Z", sig := { parameters := [], returnType := some .boolean }, accessFlags := 0, code := some k10c1 }
/-- com/example/paperwasp/paperwasp/hs/HsMessage$Probe -/
def k10 : Class := { plain "com/example/paperwasp/paperwasp/hs/HsMessage$Probe" (some 7) with
  accessFlags := 49
  interfaces := #[9]
  cf := some (fileOf pool10 8 #[.nestHost 50] #[{ accessFlags := 1, nameIndex := 5, descriptorIndex := 25, attributes := #[] }, { accessFlags := 0, nameIndex := 55, descriptorIndex := 56, attributes := #[] }] 49 2 #[50] #[{ accessFlags := 18, nameIndex := 11, descriptorIndex := 12, attributes := #[] }, { accessFlags := 18, nameIndex := 15, descriptorIndex := 12, attributes := #[] }, { accessFlags := 18, nameIndex := 18, descriptorIndex := 12, attributes := #[] }, { accessFlags := 18, nameIndex := 21, descriptorIndex := 22, attributes := #[] }])
  fields := #[{ name := "candidate", type := .int, accessFlags := 18, slot := 0, constantValue := 0 }, { name := "phase", type := .int, accessFlags := 18, slot := 1, constantValue := 0 }, { name := "hops", type := .int, accessFlags := 18, slot := 2, constantValue := 0 }, { name := "way", type := (.object "com/example/paperwasp/paperwasp/hs/HsMessage$Way"), accessFlags := 18, slot := 3, constantValue := 0 }]
  methods := #[k10m0, k10m1]
  instanceTypes := #[.int, .int, .int, (.object "com/example/paperwasp/paperwasp/hs/HsMessage$Way")]
  staticTypes := #[]
  resolved := Array.replicate 99 none
  statics := none }

def pool11 : Array CpInfo := pool [(1, u "java/lang/Cloneable"), (0, .class_ 1), (0, u "java/lang/Object"), (0, .class_ 3)] 3

/-- java/lang/Cloneable -/
def k11 : Class := { plain "java/lang/Cloneable" (some 0) with
  accessFlags := 1537
  interfaces := #[]
  cf := some (fileOf pool11 2 #[] #[] 1537 4 #[] #[])
  fields := #[]
  methods := #[]
  instanceTypes := #[]
  staticTypes := #[]
  resolved := Array.replicate 8 none
  statics := none }

/-- the primitive byte -/
def k12 : Class := { plain "byte" none with kind := .primitive 'B', accessFlags := 0x411 }
/-- [B -/
def k13 : Class := { plain "[B" (some 0) with kind := .array 12 .byte, interfaces := #[11, 4], accessFlags := 1041 }

/-- the primitive int -/
def k14 : Class := { plain "int" none with kind := .primitive 'I', accessFlags := 0x411 }
/-- [I -/
def k15 : Class := { plain "[I" (some 0) with kind := .array 14 .int, interfaces := #[11, 4], accessFlags := 1041 }

def heap : Heap := #[{ cls := 6, slots := #[.ref 1, .ref 2, .null], vm := .statics 6 },
  { cls := 6, slots := #[.null, .int 0, .int 0], vm := .none },
  { cls := 6, slots := #[.null, .int 1, .int 0], vm := .none }]
def classes : Array Class := #[k0, k1, k2, k3, k4, k5, k6, k7, k8, k9, k10, k11, k12, k13, k14, k15]
def interned : List (Array UInt16 × Addr) := []
def slotsUsed : Nat := 9
def theMethod : MethodId := ⟨1, 1⟩
def args0 : Array Value := #[.int 5, .int 7, .int 8, .int 1]
def aboutOver (below : List Frame) : State where
  vm := { classes := classes, interned := interned.toArray }
  heap := heap
  slotsUsed := slotsUsed
  threads := #[{ frames := .invoking theMethod args0 :: below }]
def below0 : List Frame := [.native { method := ⟨0, 0⟩, args := #[] }]
def about1 : State := aboutOver below0
def p0 : Program := .bare "" "" ""
def e0 : Env := launch0.env 0 0 0
theorem w_frames : about1.frames = Frame.invoking theMethod args0 :: below0 := rfl
set_option maxRecDepth 65536 in
theorem w_args : argsFit about1.vm theMethod args0 = true := by decide +kernel
set_option maxRecDepth 65536 in
theorem w_heap : heapFits about1 = true := by decide +kernel
set_option maxRecDepth 65536 in
theorem w_runnable : about1.curStatus? = some .runnable := by decide +kernel
set_option maxRecDepth 65536 in
theorem w_alone : about1.alone = true := by decide +kernel
set_option maxRecDepth 65536 in
theorem w_named : about1.methodNamed? x = some theMethod := by decide +kernel
set_option maxRecDepth 65536 in
theorem w_hears : about1.hears theMethod below0 = true := by decide +kernel
set_option maxRecDepth 65536 in
theorem w_ripe : about1.ripe theMethod args0 below0 = true := by decide +kernel
theorem w_running : about1.status = .running := rfl
set_option maxRecDepth 65536 in
theorem w_room : about1.hasRoom e0.platform room_1 = true :=
  launch0.hasRoom_least _ room_1 (by decide +kernel) (by decide +kernel) (by decide +kernel) (by decide +kernel) (by decide +kernel) (by decide +kernel)
theorem allAtoms_all (ts : List Jvm.Cond) (a : Array Jvm.Value) (st : Jvm.State) : (allAtoms ts).before a st = ts.all (fun c => c.before a st) := by
  induction ts with
  | nil => rfl
  | cons c t ih =>
    show (Jvm.Cond.and c (allAtoms t)).before a st = _
    rw [Jvm.Cond.before_and, ih, List.all_cons]
def words1 : List Jvm.Cond := Jvm.Cond.code x code maxLocals ret :: tables_1
/-- a 'code' word, met by the world's own term for the bytes: nothing is compared byte by byte -/
theorem code_word {y : MethodName} {bytes : ByteArray} {mx : Nat} {rt : Option FieldType} {a : Array Value} {s : State} {m : MethodId} {meth : Method} {c : Code} (h1 : s.methodNamed? y = some m) (h2 : s.vm.method? m = some meth) (h3 : meth.code = some c) (h4 : c.code = bytes)
    (h5 : (c.maxLocals == mx && c.exceptionTable.isEmpty && decide (c.maxStack ≤ mostOperands) && decide (meth.sig.returnType = rt) && !meth.locks && decide (parseMethodDescriptor y.desc = some meth.sig)) = true) : (Jvm.Cond.code y bytes mx rt).before a s = true := by
  simp only [Bool.and_eq_true, beq_iff_eq, Bool.not_eq_true', decide_eq_true_eq] at h5
  obtain ⟨⟨⟨⟨⟨g1, g2⟩, g3⟩, g4⟩, g5⟩, g6⟩ := h5
  simp [Cond.before, Cond.holds, Cond.value, h1, h2, h3, h4, g1, g2, g3, g4, g5, g6]
def isCode : Jvm.Cond → Bool
  | .code _ _ _ _ => true
  | _ => false
theorem all_split {L : List Jvm.Cond} {P : Jvm.Cond → Bool} (h1 : L.all (fun c => isCode c || P c) = true) (h2 : ∀ c ∈ L.filter isCode, P c = true) : L.all P = true := by
  refine List.all_eq_true.mpr fun c hc => ?_
  have h := List.all_eq_true.mp h1 c hc
  rcases Bool.eq_false_or_eq_true (isCode c) with hi | hi
  · exact h2 c (List.mem_filter.mpr ⟨hc, hi⟩)
  · simpa [hi] using h
set_option maxRecDepth 65536 in
theorem w_c0 : (Jvm.Cond.code x code maxLocals ret).before args0 about1 = true := code_word (m := ⟨1, 1⟩) (meth := k1m1) (c := k1c1) (by decide +kernel) rfl rfl rfl (by decide +kernel)
set_option maxRecDepth 65536 in
theorem w_c1 : (Jvm.Cond.code ({ cls := "com/example/paperwasp/paperwasp/hs/HsMessage$Probe", name := "<init>", desc := "(IIILcom/example/paperwasp/paperwasp/hs/HsMessage$Way;)V" } : Jvm.MethodName) prog_26_method_1_code (5 : Nat) (Option.none : Option Jvm.ClassFile.FieldType)).before args0 about1 = true := code_word (m := ⟨10, 0⟩) (meth := k10m0) (c := k10c0) (by decide +kernel) rfl rfl rfl (by decide +kernel)
set_option maxRecDepth 65536 in
theorem w_c2 : (Jvm.Cond.code ({ cls := "java/lang/Record", name := "<init>", desc := "()V" } : Jvm.MethodName) jdk_30_method_1_code (1 : Nat) (Option.none : Option Jvm.ClassFile.FieldType)).before args0 about1 = true := code_word (m := ⟨7, 0⟩) (meth := k7m0) (c := k7c0) (by decide +kernel) rfl rfl rfl (by decide +kernel)
set_option maxRecDepth 65536 in
theorem w_c3 : (Jvm.Cond.code ({ cls := "java/lang/Object", name := "<init>", desc := "()V" } : Jvm.MethodName) object_method_1_code (1 : Nat) (Option.none : Option Jvm.ClassFile.FieldType)).before args0 about1 = true := code_word (m := ⟨0, 0⟩) (meth := k0m0) (c := k0c0) (by decide +kernel) rfl rfl rfl (by decide +kernel)
set_option maxRecDepth 65536 in
theorem w_c4 : (Jvm.Cond.code ({ cls := "com/example/paperwasp/paperwasp/hs/HsMessage$Probe", name := "reached", desc := "()Z" } : Jvm.MethodName) prog_26_method_2_code (1 : Nat) (Option.some Jvm.ClassFile.FieldType.boolean)).before args0 about1 = true := code_word (m := ⟨10, 1⟩) (meth := k10m1) (c := k10c1) (by decide +kernel) rfl rfl rfl (by decide +kernel)
def codes1 : List Jvm.Cond := [Jvm.Cond.code x code maxLocals ret, Jvm.Cond.code ({ cls := "com/example/paperwasp/paperwasp/hs/HsMessage$Probe", name := "<init>", desc := "(IIILcom/example/paperwasp/paperwasp/hs/HsMessage$Way;)V" } : Jvm.MethodName) prog_26_method_1_code (5 : Nat) (Option.none : Option Jvm.ClassFile.FieldType), Jvm.Cond.code ({ cls := "java/lang/Record", name := "<init>", desc := "()V" } : Jvm.MethodName) jdk_30_method_1_code (1 : Nat) (Option.none : Option Jvm.ClassFile.FieldType), Jvm.Cond.code ({ cls := "java/lang/Object", name := "<init>", desc := "()V" } : Jvm.MethodName) object_method_1_code (1 : Nat) (Option.none : Option Jvm.ClassFile.FieldType), Jvm.Cond.code ({ cls := "com/example/paperwasp/paperwasp/hs/HsMessage$Probe", name := "reached", desc := "()Z" } : Jvm.MethodName) prog_26_method_2_code (1 : Nat) (Option.some Jvm.ClassFile.FieldType.boolean)]
set_option maxRecDepth 65536 in
theorem codes_eq : words1.filter isCode = codes1 := rfl
theorem w_codes : ∀ c ∈ words1.filter isCode, c.before args0 about1 = true := by
  rw [codes_eq]
  intro c hc
  simp only [codes1, List.mem_cons, List.not_mem_nil, or_false] at hc
  rcases hc with rfl | rfl | rfl | rfl | rfl
  · exact w_c0
  · exact w_c1
  · exact w_c2
  · exact w_c3
  · exact w_c4
set_option maxRecDepth 65536 in
theorem w_t1 : (words1.take 24).all (fun c => isCode c || c.before args0 about1) = true := by decide +kernel
set_option maxRecDepth 65536 in
theorem w_t2 : (words1.drop 24).all (fun c => isCode c || c.before args0 about1) = true := by decide +kernel
theorem w_tables : (allAtoms (Jvm.Cond.code x code maxLocals ret :: tables_1)).before args0 about1 = true := by
  rw [allAtoms_all]
  show words1.all (fun c => c.before args0 about1) = true
  refine all_split ?_ w_codes
  rw [← List.take_append_drop 24 words1, List.all_append, w_t1, w_t2]
  rfl
set_option maxRecDepth 65536 in
theorem w_case : (Jvm.Cond.and given_1 narrow_1).before args0 about1 = true := by decide +kernel
theorem w_applies : (headSpec (Jvm.Cond.code x code maxLocals ret :: tables_1) room_1).applies x e0.platform about1 = true :=
  (Spec.applies_iff w_frames).mpr ⟨w_running, w_runnable, w_alone, w_named, w_hears, w_ripe, w_room, w_tables⟩
theorem atStart : AtStart classFile x code maxLocals ret World_1 tables_1 room_1 Calls_1 rest_1 Pre_1 launch0 p0 e0 about1 theMethod args0 below0 :=
  ⟨lists_1, trivial, launch0.admits_env _ _ _, launch0.least_env, fairChoices_fair.cas, fairChoices_fair.clock, w_frames, w_args, w_heap, w_applies, trivial, trivial, w_case⟩
end start1
theorem witness_1 : WitnessClaimed_1 := ⟨start1.p0, start1.e0, start1.about1, start1.theMethod, start1.args0, start1.below0, start1.atStart⟩
end Jvm.Pilot.@@N@@
