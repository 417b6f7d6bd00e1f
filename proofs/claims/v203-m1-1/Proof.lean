import JvmDerived
import JvmDerived.Pilot.@@N@@Statement
import JvmDerived.Pilot.@@N@@Code
set_option linter.unusedVariables false
set_option linter.unusedSimpArgs false
@@BLOCK:NumsL.lean.txt@@
namespace Jvm.OwnKit
open Sem ClassFile Op Lib Jvm.Stand Jvm.Free Jvm.LawKit Jvm.RoadKit
def Go (tb : Tables) (e : Env) (below : List Frame) (P : State → Outcome → Prop) (S : State) : Prop := ∃ U o, Steps tb e below S U ∧ U.status = .running ∧ Ended U below o ∧ P U o
theorem Go.s {tb : Tables} {e : Env} {below : List Frame} {P : State → Outcome → Prop} {S S' : State} (k : ∀ {t : State}, Steps tb e below S' t → Steps tb e below S t) (f : Go tb e below P S') : Go tb e below P S := by
  obtain ⟨U, o, h1, h2⟩ := f
  exact ⟨U, o, k h1, h2⟩
theorem Go.cast {tb : Tables} {e : Env} {below : List Frame} {P : State → Outcome → Prop} {T : State} {g g' : JFrame} (q : g = g') (f : Go tb e below P (T.setTop g')) : Go tb e below P (T.setTop g) := q ▸ f
/-- the contract of a body, at one heap and one list of arguments -/
def Con (l : Launch) (Z : State) (y : MethodName) (bytes : ByteArray) (maxL : Nat) (ret : Option FieldType) (ws : List Jvm.Cond) (rm : Room) (as' : Array Value) (h : Heap) (Q : Option Value → Heap → List Loc → Prop) : Prop :=
  MetFree l y (head1 (Cond.code y bytes maxL ret :: ws) rm) (fun a U => a = as' ∧ Z.Warmed39 U.vm ∧ U.heap = h) (fun _ _ _ _ _ => True) (fun _ U o U' => ∃ v L, o = .returned v ∧ Q v U'.heap L ∧ FrameEnd U o U' L rm.cells rm.slots)
theorem Con.intro {l : Launch} {Z : State} {y : MethodName} {bytes : ByteArray} {maxL : Nat} {ret : Option FieldType} {ws : List Jvm.Cond} {rm : Room} {as' : Array Value} {h : Heap} {Q : Option Value → Heap → List Loc → Prop} (hpn : plainFor y = true)
    (body : ∀ (p : Program) (e : Env) (s : State) (m : MethodId) (below : List Frame) (meth : Method) (c : Code) (s₁ : State) (P : State → Outcome → Prop), p.tables.exec = Jvm.exec → c.code = bytes → c.maxLocals = maxL → s.vm.findClass y.cls = some m.cls → meth.name = y.name → meth.sig.returnType = ret → meth.locks = false → Z.Warmed39 s.vm →
      Stand p l e rm s m as' below meth c s₁ [] 0 0 → s₁.heap = h → (∀ U v L, Q v U.heap L → FrameEnd s (.returned v) U L rm.cells rm.slots → P U (.returned v)) → Go p.tables e below P (s₁.setTop (entryFrame m as' maxL))) :
    Con l Z y bytes maxL ret ws rm as' h Q := by
  refine MetFree.of_bodySF hpn hisR ?_
  intro p e s m args below meth c s₁ Bd hml0 hP hK
  obtain ⟨rfl, hZ, hh⟩ := hP
  exact body p e s m below meth c s₁ _ Bd.exec Bd.bytes hml0 (findClass_of_methodNamed Bd.named) (name_of_methodNamed Bd.named Bd.method).1 Bd.returns (BodyLoose.notSynchronized Bd) hZ (Stand.of_body Bd) (by rw [← hh, Bd.state]; rfl) fun U v L q f => ⟨v, L, rfl, q, f⟩
theorem Con.mono {l : Launch} {Z : State} {y : MethodName} {bytes : ByteArray} {maxL : Nat} {ret : Option FieldType} {ws : List Jvm.Cond} {rm : Room} {as' : Array Value} {h : Heap} {Q Q' : Option Value → Heap → List Loc → Prop} (C : Con l Z y bytes maxL ret ws rm as' h Q) (q : ∀ v h L, Q v h L → Q' v h L) : Con l Z y bytes maxL ret ws rm as' h Q' := by
  intro p e ha hc hk s m args below hf happ hP hK
  obtain ⟨n, o, h1, h2, h3, v, L, h4, h5, h6⟩ := C p e ha hc hk s m args below hf happ hP hK
  exact ⟨n, o, h1, h2, h3, v, L, h4, q _ _ _ h5, h6⟩
def ConH (l : Launch) (Z : State) (y : MethodName) (bytes : ByteArray) (maxL : Nat) (ret : Option FieldType) (hs : List (Nat × Nat × Nat × Nat)) (ws : List Jvm.Cond) (rm : Room) (as' : Array Value) (h : Heap) (Q : Option Value → Heap → List Loc → Prop) : Prop :=
  MetFree l y (head1 (Cond.codeWith y bytes maxL ret hs :: ws) rm) (fun a U => a = as' ∧ Z.Warmed39 U.vm ∧ U.heap = h) (fun _ _ _ _ _ => True) (fun _ U o U' => ∃ v L, o = .returned v ∧ Q v U'.heap L ∧ FrameEnd U o U' L rm.cells rm.slots)
theorem ConH.intro {l : Launch} {Z : State} {y : MethodName} {bytes : ByteArray} {maxL : Nat} {ret : Option FieldType} {hs : List (Nat × Nat × Nat × Nat)} {ws : List Jvm.Cond} {rm : Room} {as' : Array Value} {h : Heap} {Q : Option Value → Heap → List Loc → Prop} (hpn : plainFor y = true)
    (body : ∀ (p : Program) (e : Env) (s : State) (m : MethodId) (below : List Frame) (meth : Method) (c : Code) (s₁ : State) (P : State → Outcome → Prop), p.tables.exec = Jvm.exec → c.code = bytes → c.maxLocals = maxL → s.vm.findClass y.cls = some m.cls → meth.name = y.name → meth.sig.returnType = ret → meth.locks = false → Z.Warmed39 s.vm →
      Stand p l e rm s m as' below meth c s₁ [] 0 0 → s₁.heap = h → (∀ U v L, Q v U.heap L → FrameEnd s (.returned v) U L rm.cells rm.slots → P U (.returned v)) → Go p.tables e below P (s₁.setTop (entryFrame m as' maxL))) :
    ConH l Z y bytes maxL ret hs ws rm as' h Q := by
  refine MetFree.of_bodySF hpn hisWith ?_
  intro p e s m args below meth c s₁ Bd hml0 hP hK
  obtain ⟨rfl, hZ, hh⟩ := hP
  exact body p e s m below meth c s₁ _ Bd.exec Bd.bytes hml0 (findClass_of_methodNamed Bd.named) (name_of_methodNamed Bd.named Bd.method).1 Bd.returns (BodyLoose.notSynchronized Bd) hZ (Stand.of_body Bd) (by rw [← hh, Bd.state]; rfl) fun U v L q f => ⟨v, L, rfl, q, f⟩
section Walk
variable {p : Program} {l : Launch} {e : Env} {R : Room} {s : State} {m : MethodId} {args : Array Value} {below : List Frame} {meth : Method} {c : Code} {T : State} {locs : List Loc} {cells slots : Nat} {P : State → Outcome → Prop} {Z : State} {a0 : Array Value} {h : Heap}
theorem Go.ret (X : Stand p l e R s m args below meth c T locs cells slots) (hx : p.tables.exec = Jvm.exec) (hlk : meth.locks = false) {pc : Nat} {Ls : Array Slot} {w : Value} {t : FieldType} {i : Instr} {rest : List Value} (hret : meth.sig.returnType = some t) (hn : narrow t w = w)
    (hi : (i = .ireturn ∧ (t = .int ∨ t = .boolean ∨ t = .byte ∨ t = .char ∨ t = .short) ∧ ∃ z, w = .int z) ∨ (i = .lreturn ∧ t = .long ∧ ∃ z, w = .long z) ∨ (i = .dreturn ∧ t = .double ∧ ∃ z, w = .double z) ∨ (i = .freturn ∧ t = .float ∧ ∃ z, w = .float z) ∨ (i = .areturn ∧ t.isReference = true ∧ w.isRef = true))
    (hd : decode c.code pc = .ok (i, 1)) (hP : ∀ U : State, U.heap = T.heap → FrameEnd s (.returned (some w)) U locs cells slots → P U (.returned (some w))) : Go p.tables e below P (T.setTop (mkF m pc Ls (w :: rest))) := by
  obtain ⟨fs, hr, hrun, hended, hW, hsame⟩ := X.leave (v := some w) (fun h => by rw [hret] at h; cases h) hlk
  exact ⟨_, _, retOut X hx hret hn hi hd hr, hrun, hended, hP _ rfl ⟨⟨_, rfl⟩, hW, hsame⟩⟩
theorem Go.retI (X : Stand p l e R s m args below meth c T locs cells slots) (hx : p.tables.exec = Jvm.exec) (hlk : meth.locks = false) {pc : Nat} {Ls : Array Slot} {z : Int32} {rest : List Value} (hret : meth.sig.returnType = some .int)
    (hd : decode c.code pc = .ok (.ireturn, 1)) (hP : ∀ U : State, U.heap = T.heap → FrameEnd s (.returned (some (.int z))) U locs cells slots → P U (.returned (some (.int z)))) : Go p.tables e below P (T.setTop (mkF m pc Ls (.int z :: rest))) :=
  Go.ret X hx hlk hret rfl (Or.inl ⟨rfl, Or.inl rfl, _, rfl⟩) hd hP
theorem Go.retZ (X : Stand p l e R s m args below meth c T locs cells slots) (hx : p.tables.exec = Jvm.exec) (hlk : meth.locks = false) {pc : Nat} {Ls : Array Slot} {z : Int32} {rest : List Value} (hret : meth.sig.returnType = some .boolean) (hz : z = 0 ∨ z = 1)
    (hd : decode c.code pc = .ok (.ireturn, 1)) (hP : ∀ U : State, U.heap = T.heap → FrameEnd s (.returned (some (.int z))) U locs cells slots → P U (.returned (some (.int z)))) : Go p.tables e below P (T.setTop (mkF m pc Ls (.int z :: rest))) :=
  Go.ret X hx hlk hret (by rcases hz with rfl | rfl <;> rfl) (Or.inl ⟨rfl, Or.inr (Or.inl rfl), _, rfl⟩) hd hP
theorem Go.retJ (X : Stand p l e R s m args below meth c T locs cells slots) (hx : p.tables.exec = Jvm.exec) (hlk : meth.locks = false) {pc : Nat} {Ls : Array Slot} {z : Int64} {rest : List Value} (hret : meth.sig.returnType = some .long)
    (hd : decode c.code pc = .ok (.lreturn, 1)) (hP : ∀ U : State, U.heap = T.heap → FrameEnd s (.returned (some (.long z))) U locs cells slots → P U (.returned (some (.long z)))) : Go p.tables e below P (T.setTop (mkF m pc Ls (.long z :: rest))) :=
  Go.ret X hx hlk hret rfl (Or.inr (Or.inl ⟨rfl, rfl, _, rfl⟩)) hd hP
theorem Go.retR (X : Stand p l e R s m args below meth c T locs cells slots) (hx : p.tables.exec = Jvm.exec) (hlk : meth.locks = false) {pc : Nat} {Ls : Array Slot} {w : Value} {t : FieldType} {rest : List Value} (hret : meth.sig.returnType = some t) (ht : t.isReference = true) (hw : w.isRef = true)
    (hd : decode c.code pc = .ok (.areturn, 1)) (hP : ∀ U : State, U.heap = T.heap → FrameEnd s (.returned (some w)) U locs cells slots → P U (.returned (some w))) : Go p.tables e below P (T.setTop (mkF m pc Ls (w :: rest))) :=
  Go.ret X hx hlk hret (by rcases ref_cases hw with rfl | ⟨z, rfl⟩ <;> cases t <;> first | rfl | (cases ht)) (Or.inr (Or.inr (Or.inr (Or.inr ⟨rfl, ht, hw⟩)))) hd hP
theorem Go.retV (X : Stand p l e R s m args below meth c T locs cells slots) (hx : p.tables.exec = Jvm.exec) (hlk : meth.locks = false) {pc : Nat} {Ls : Array Slot} (hret : meth.sig.returnType = none)
    (hd : decode c.code pc = .ok (.return_, 1)) (hP : ∀ U : State, U.heap = T.heap → FrameEnd s (.returned none) U locs cells slots → P U (.returned none)) : Go p.tables e below P (T.setTop (mkF m pc Ls [])) := by
  obtain ⟨fs, hr, hrun, hended, hW, hsame⟩ := X.leave (v := none) (fun _ => rfl) hlk
  exact ⟨_, _, X.returnOut hx hret hd hr, hrun, hended, hP _ rfl ⟨⟨_, rfl⟩, hW, hsame⟩⟩
theorem Con.static {y : MethodName} {bytes : ByteArray} {maxL : Nat} {ret : Option FieldType} {rm : Room} {as' : Array Value} {Q : Option Value → Heap → List Loc → Prop} (C : Con l Z y bytes maxL ret [] rm as' h Q)
    (X : Stand p l e R s m args below meth c T locs cells slots) (hx : p.tables.exec = Jvm.exec) (hZ : Z.Warmed39 s.vm) {own : String} {index W : Nat} (hown : s.vm.findClass own = some m.cls)
    (wl : (Cond.methodLink own index y).before a0 Z = true) (wst : (Cond.static y).before a0 Z = true) (wz : (Cond.initialized y.cls).before a0 Z = true) (wc : (Cond.code y bytes maxL ret).before a0 Z = true)
    (hy : y.cls ≠ "java/lang/invoke/MethodHandle" ∧ y.cls ≠ "java/lang/invoke/VarHandle") (hf : rm.frames + 1 ≤ R.frames) (hl : W + (maxL + 11) + rm.locals ≤ R.locals) (hce : cells + rm.cells ≤ R.cells) (hsl : slots + rm.slots ≤ R.slots) (eT : T.heap = h)
    {g : JFrame} (hg : g.method = m) (hsize : g.locals.size = c.maxLocals) {argsL rest : List Value} (has : argsL.toArray = as') (hlen : ∀ sig, parseMethodDescriptor y.desc = some sig → argsL.length = sig.parameters.length)
    (hstack : g.stack = argsL.reverse ++ rest) (hW : 2 * g.monitorRoom + (rest.map fun v => v.category).sum ≤ W) (hdg : decode c.code g.pc = .ok (.invokestatic index, 3)) :
    ∃ (v : Option Value) (T' : State) (L : List Loc), Stand p l e R s m args below meth c T' (locs ++ L) (cells + rm.cells) (slots + rm.slots) ∧ Q v T'.heap L ∧
      ∀ {t : State}, Steps p.tables e below (T'.setTop { g with pc := g.pc + 3, stack := v.toList ++ rest }) t → Steps p.tables e below (T.setTop g) t := by
  obtain ⟨v, vm₁, ⟨T', L', k', n'⟩, -, X', ⟨L, hQ, e1, e2, e3⟩, st⟩ := Jvm.LawKit.callS X hx hown (mvT hZ wl) (mvT hZ wst) (mvT hZ wz) (mvT hZ wc) hy (backOf (W := W) C hZ wc wz hf hl) hg hsize hlen hstack hW hdg (fun _ _ => ⟨has, eT, hce, hsl⟩)
  dsimp only [Pt.U, Pt.locs, Pt.cells, Pt.slots] at X' e1 e2 e3 st hQ
  subst e1 e2 e3
  exact ⟨v, T', L, X', hQ, fun {t} k => st t k⟩
theorem Con.special {y : MethodName} {bytes : ByteArray} {maxL : Nat} {rm : Room} {as' : Array Value} {Q : Option Value → Heap → List Loc → Prop} (C : Con l Z y bytes maxL none [] rm as' h Q) (hy1 : y.name = "<init>")
    (X : Stand p l e R s m args below meth c T locs cells slots) (hx : p.tables.exec = Jvm.exec) (hZ : Z.Warmed39 s.vm) {own : String} {index W : Nat} (hown : s.vm.findClass own = some m.cls)
    (wl : (Cond.methodLink own index y).before a0 Z = true) (wi : (Cond.instanceMethod y).before a0 Z = true) (wz : (Cond.initialized y.cls).before a0 Z = true) (wc : (Cond.code y bytes maxL none).before a0 Z = true)
    (hy : y.cls ≠ "java/lang/invoke/MethodHandle" ∧ y.cls ≠ "java/lang/invoke/VarHandle") (hf : rm.frames + 1 ≤ R.frames) (hl : W + (maxL + 11) + rm.locals ≤ R.locals) (hce : cells + rm.cells ≤ R.cells) (hsl : slots + rm.slots ≤ R.slots) (eT : T.heap = h)
    {g : JFrame} (hg : g.method = m) (hsize : g.locals.size = c.maxLocals) {a : Addr} {argsL rest : List Value} (has : (Value.ref a :: argsL).toArray = as') (hlen : ∀ sig, parseMethodDescriptor y.desc = some sig → argsL.length = sig.parameters.length)
    (hstack : g.stack = argsL.reverse ++ .ref a :: rest) (hW : 2 * g.monitorRoom + (rest.map fun v => v.category).sum ≤ W) (hdg : decode c.code g.pc = .ok (.invokespecial index, 3)) :
    ∃ (v : Option Value) (T' : State) (L : List Loc), Stand p l e R s m args below meth c T' (locs ++ L) (cells + rm.cells) (slots + rm.slots) ∧ Q v T'.heap L ∧
      ∀ {t : State}, Steps p.tables e below (T'.setTop { g with pc := g.pc + 3, stack := v.toList ++ rest }) t → Steps p.tables e below (T.setTop g) t := by
  obtain ⟨v, vm₁, ⟨T', L', k', n'⟩, -, X', ⟨L, hQ, e1, e2, e3⟩, st⟩ := X.specialBack hx hy1 hown (mvT hZ wl) (mvT hZ wi) (mvT hZ wc) hy (backOf (W := W) C hZ wc wz hf hl) hg hsize (Steps.refl _) hlen hstack hW hdg (fun _ _ => ⟨has, eT, hce, hsl⟩)
  dsimp only [Pt.U, Pt.locs, Pt.cells, Pt.slots] at X' e1 e2 e3 st hQ
  subst e1 e2 e3
  exact ⟨v, T', L, X', hQ, fun {t} k => st.trans k⟩
theorem ConH.special {y : MethodName} {bytes : ByteArray} {maxL : Nat} {rm : Room} {as' : Array Value} {Q : Option Value → Heap → List Loc → Prop} {hs : List (Nat × Nat × Nat × Nat)} (C : ConH l Z y bytes maxL none hs [] rm as' h Q) (hy1 : y.name = "<init>")
    (X : Stand p l e R s m args below meth c T locs cells slots) (hx : p.tables.exec = Jvm.exec) (hZ : Z.Warmed39 s.vm) {own : String} {index W : Nat} (hown : s.vm.findClass own = some m.cls)
    (wl : (Cond.methodLink own index y).before a0 Z = true) (wi : (Cond.instanceMethod y).before a0 Z = true) (wz : (Cond.initialized y.cls).before a0 Z = true) (wc : (Cond.codeWith y bytes maxL none hs).before a0 Z = true)
    (hy : y.cls ≠ "java/lang/invoke/MethodHandle" ∧ y.cls ≠ "java/lang/invoke/VarHandle") (hf : rm.frames + 1 ≤ R.frames) (hl : W + (maxL + 11) + rm.locals ≤ R.locals) (hce : cells + rm.cells ≤ R.cells) (hsl : slots + rm.slots ≤ R.slots) (eT : T.heap = h)
    {g : JFrame} (hg : g.method = m) (hsize : g.locals.size = c.maxLocals) {a : Addr} {argsL rest : List Value} (has : (Value.ref a :: argsL).toArray = as') (hlen : ∀ sig, parseMethodDescriptor y.desc = some sig → argsL.length = sig.parameters.length)
    (hstack : g.stack = argsL.reverse ++ .ref a :: rest) (hW : 2 * g.monitorRoom + (rest.map fun v => v.category).sum ≤ W) (hdg : decode c.code g.pc = .ok (.invokespecial index, 3)) :
    ∃ (v : Option Value) (T' : State) (L : List Loc), Stand p l e R s m args below meth c T' (locs ++ L) (cells + rm.cells) (slots + rm.slots) ∧ Q v T'.heap L ∧
      ∀ {t : State}, Steps p.tables e below (T'.setTop { g with pc := g.pc + 3, stack := v.toList ++ rest }) t → Steps p.tables e below (T.setTop g) t := by
  obtain ⟨v, vm₁, ⟨T', L', k', n'⟩, -, X', ⟨L, hQ, e1, e2, e3⟩, st⟩ := X.specialBackH hx hy1 hown (mvT hZ wl) (mvT hZ wi) (mvT hZ wc) hy (backOfWith (W := W) C hZ wc wz hf hl) hg hsize (Steps.refl _) hlen hstack hW hdg (fun _ _ => ⟨has, eT, hce, hsl⟩)
  dsimp only [Pt.U, Pt.locs, Pt.cells, Pt.slots] at X' e1 e2 e3 st hQ
  subst e1 e2 e3
  exact ⟨v, T', L, X', hQ, fun {t} k => st.trans k⟩
theorem Con.virtual {y : MethodName} {bytes : ByteArray} {maxL : Nat} {ret : Option FieldType} {rm : Room} {as' : Array Value} {Q : Option Value → Heap → List Loc → Prop} (K : Con l Z y bytes maxL ret [] rm as' h Q)
    (X : Stand p l e R s m args below meth c T locs cells slots) (hx : p.tables.exec = Jvm.exec) (hZ : Z.Warmed39 s.vm) {own C : String} {index W : Nat} (hown : s.vm.findClass own = some m.cls)
    (wl : (Cond.methodLink own index y).before a0 Z = true) (wd : (Cond.declares y).before a0 Z = true) (wsel : (Cond.selects C y y).before a0 Z = true) (wi : (Cond.instanceMethod y).before a0 Z = true) (wz : (Cond.initialized y.cls).before a0 Z = true) (wc : (Cond.code y bytes maxL ret).before a0 Z = true)
    (hy : y.cls ≠ "java/lang/invoke/MethodHandle" ∧ y.cls ≠ "java/lang/invoke/VarHandle") (hf : rm.frames + 1 ≤ R.frames) (hl : W + (maxL + 11) + rm.locals ≤ R.locals) (hce : cells + rm.cells ≤ R.cells) (hsl : slots + rm.slots ≤ R.slots) (eT : T.heap = h)
    {g : JFrame} (hg : g.method = m) (hsize : g.locals.size = c.maxLocals) {a : Addr} (E : Exa Z h a C) {argsL rest : List Value} (has : (Value.ref a :: argsL).toArray = as') (hlen : ∀ sig, parseMethodDescriptor y.desc = some sig → argsL.length = sig.parameters.length)
    (hstack : g.stack = argsL.reverse ++ .ref a :: rest) (hW : 2 * g.monitorRoom + (rest.map fun v => v.category).sum ≤ W) (hdg : decode c.code g.pc = .ok (.invokevirtual index, 3)) :
    ∃ (v : Option Value) (T' : State) (L : List Loc), Stand p l e R s m args below meth c T' (locs ++ L) (cells + rm.cells) (slots + rm.slots) ∧ Q v T'.heap L ∧
      ∀ {t : State}, Steps p.tables e below (T'.setTop { g with pc := g.pc + 3, stack := v.toList ++ rest }) t → Steps p.tables e below (T.setTop g) t := by
  obtain ⟨cq, kq, qa, qb, qc⟩ := isOf hZ eT E
  obtain ⟨v, vm₁, ⟨T', L', k', n'⟩, -, X', ⟨L, hQ, e1, e2, e3⟩, st⟩ := X.virtualBack hx hown (mvT hZ wl) (mvT hZ wd) (notFace_of_selects (args := #[]) (mvT hZ wsel)) (mvT hZ wsel) (mvT hZ wi) hy (backOf (W := W) K hZ wc wz hf hl) qa qc hg hsize (Steps.refl _) hlen hstack hW hdg (fun _ _ => ⟨has, eT, hce, hsl⟩)
  dsimp only [Pt.U, Pt.locs, Pt.cells, Pt.slots] at X' e1 e2 e3 st hQ
  subst e1 e2 e3
  exact ⟨v, T', L, X', hQ, fun {t} k => st.trans k⟩
theorem Con.priv {y : MethodName} {bytes : ByteArray} {maxL : Nat} {ret : Option FieldType} {rm : Room} {as' : Array Value} {Q : Option Value → Heap → List Loc → Prop} (K : Con l Z y bytes maxL ret [] rm as' h Q)
    (X : Stand p l e R s m args below meth c T locs cells slots) (hx : p.tables.exec = Jvm.exec) (hZ : Z.Warmed39 s.vm) {own C : String} {index W kk : Nat} (hown : s.vm.findClass own = some m.cls)
    (wl : (Cond.methodLink own index y).before a0 Z = true) (wn : (Cond.instantiable y.cls kk).before a0 Z = true) (wp : (Cond.privateMethod y).before a0 Z = true) (wi : (Cond.instanceMethod y).before a0 Z = true) (wz : (Cond.initialized y.cls).before a0 Z = true) (wc : (Cond.code y bytes maxL ret).before a0 Z = true)
    (hy : y.cls ≠ "java/lang/invoke/MethodHandle" ∧ y.cls ≠ "java/lang/invoke/VarHandle") (hf : rm.frames + 1 ≤ R.frames) (hl : W + (maxL + 11) + rm.locals ≤ R.locals) (hce : cells + rm.cells ≤ R.cells) (hsl : slots + rm.slots ≤ R.slots) (eT : T.heap = h)
    {g : JFrame} (hg : g.method = m) (hsize : g.locals.size = c.maxLocals) {a : Addr} (E : Exa Z h a C) {argsL rest : List Value} (has : (Value.ref a :: argsL).toArray = as') (hlen : ∀ sig, parseMethodDescriptor y.desc = some sig → argsL.length = sig.parameters.length)
    (hstack : g.stack = argsL.reverse ++ .ref a :: rest) (hW : 2 * g.monitorRoom + (rest.map fun v => v.category).sum ≤ W) (hdg : decode c.code g.pc = .ok (.invokevirtual index, 3)) :
    ∃ (v : Option Value) (T' : State) (L : List Loc), Stand p l e R s m args below meth c T' (locs ++ L) (cells + rm.cells) (slots + rm.slots) ∧ Q v T'.heap L ∧
      ∀ {t : State}, Steps p.tables e below (T'.setTop { g with pc := g.pc + 3, stack := v.toList ++ rest }) t → Steps p.tables e below (T.setTop g) t := by
  have hpa : s.PrivateAt y := Cond.privateMethod_at (mvP hZ wp (args := args))
  have win : (Cond.instanceMethod y).before args s = true := mvT hZ wi
  have wnn : (Cond.instantiable y.cls kk).before args s = true := mvT hZ wn
  obtain ⟨ci, ki, i1, i2, i3, i4, -⟩ := Cond.instantiable_spec wnn
  have hni : ki.isInterface = false := (Bool.or_eq_false_iff.mp i4).1
  obtain ⟨cl, hcl, hob⟩ := E.cell
  obtain ⟨v, vm₁, ⟨T', L', k', n'⟩, -, X', ⟨L, hQ, e1, e2, e3⟩, st⟩ := X.privateBack hx hown (mvT hZ wl) win (selects_self_of_private i1 i2 hni hpa win hy) hpa (mvT hZ wc) hy (backOf (W := W) K hZ wc wz hf hl) hg hsize (Steps.refl _) (by rw [eT]; exact hcl) hob hlen hstack hW hdg (fun _ _ => ⟨has, eT, hce, hsl⟩)
  dsimp only [Pt.U, Pt.locs, Pt.cells, Pt.slots] at X' e1 e2 e3 st hQ
  subst e1 e2 e3
  exact ⟨v, T', L, X', hQ, fun {t} k => st.trans k⟩
theorem Con.virtualUp {x z : MethodName} {bytes : ByteArray} {maxL : Nat} {ret : Option FieldType} {rm : Room} {as' : Array Value} {Q : Option Value → Heap → List Loc → Prop} (K : Con l Z z bytes maxL ret [] rm as' h Q)
    (X : Stand p l e R s m args below meth c T locs cells slots) (hx : p.tables.exec = Jvm.exec) (hZ : Z.Warmed39 s.vm) {own C owner : String} {index W : Nat} (hown : s.vm.findClass own = some m.cls)
    (wl : (Cond.methodLink own index x).before a0 Z = true) (wsm : (Cond.sameMethod x.cls owner x.name x.desc).before a0 Z = true) (wd : (Cond.declares ⟨owner, x.name, x.desc⟩).before a0 Z = true) (wsel : (Cond.selects C x z).before a0 Z = true) (wi : (Cond.instanceMethod z).before a0 Z = true) (wz : (Cond.initialized z.cls).before a0 Z = true) (wc : (Cond.code z bytes maxL ret).before a0 Z = true)
    (ho : owner ≠ "java/lang/invoke/MethodHandle" ∧ owner ≠ "java/lang/invoke/VarHandle") (hf : rm.frames + 1 ≤ R.frames) (hl : W + (maxL + 11) + rm.locals ≤ R.locals) (hce : cells + rm.cells ≤ R.cells) (hsl : slots + rm.slots ≤ R.slots) (eT : T.heap = h)
    {g : JFrame} (hg : g.method = m) (hsize : g.locals.size = c.maxLocals) {a : Addr} (E : Exa Z h a C) {argsL rest : List Value} (has : (Value.ref a :: argsL).toArray = as') (hlen : ∀ sig, parseMethodDescriptor x.desc = some sig → argsL.length = sig.parameters.length)
    (hstack : g.stack = argsL.reverse ++ .ref a :: rest) (hW : 2 * g.monitorRoom + (rest.map fun v => v.category).sum ≤ W) (hdg : decode c.code g.pc = .ok (.invokevirtual index, 3)) :
    ∃ (v : Option Value) (T' : State) (L : List Loc), Stand p l e R s m args below meth c T' (locs ++ L) (cells + rm.cells) (slots + rm.slots) ∧ Q v T'.heap L ∧
      ∀ {t : State}, Steps p.tables e below (T'.setTop { g with pc := g.pc + 3, stack := v.toList ++ rest }) t → Steps p.tables e below (T.setTop g) t := by
  obtain ⟨cq, kq, qa, qb, qc⟩ := isOf hZ eT E
  obtain ⟨v, vm₁, ⟨T', L', k', n'⟩, -, X', ⟨L, hQ, e1, e2, e3⟩, st⟩ := X.virtualBackUp hx hown (mvT hZ wl) (mvT hZ wsm) (mvT hZ wd) ho (mvT hZ wsel) (mvT hZ wi) (backOf (W := W) K hZ wc wz hf hl) qa qc hg hsize (Steps.refl _) hlen hstack hW hdg (fun _ _ => ⟨has, eT, hce, hsl⟩)
  dsimp only [Pt.U, Pt.locs, Pt.cells, Pt.slots] at X' e1 e2 e3 st hQ
  subst e1 e2 e3
  exact ⟨v, T', L, X', hQ, fun {t} k => st.trans k⟩
/-- the cell of an object is one that the model knows -/
def Kn (h : Heap) (a : Addr) : Prop := ∃ cell : Cell, h[a]? = some cell ∧ cell.vm ≠ .unknown
theorem Kn.of_new {h' : Heap} {a : Addr} (u : ∃ cell : Cell, h'[a]? = some cell ∧ cell.vm = .none ∧ cell.monitor = {}) : Kn h' a := by obtain ⟨c, h1, h2, -⟩ := u; exact ⟨c, h1, by rw [h2]; simp⟩
theorem Kn.ext {h h' : Heap} {a : Addr} (F : Kn h a) (E : Ext h h') : Kn h' a := by obtain ⟨c, h1, h2⟩ := F; exact ⟨c, E.2 _ _ h1, h2⟩
theorem Kn.keep {h h' : Heap} {a : Addr} {ws : List Addr} (F : Kn h a) (K : Keep h h' ws) : Kn h' a := by
  obtain ⟨c, h1, h2⟩ := F; obtain ⟨c', q, -, q2, -⟩ := K.2.2 a c h1; exact ⟨c', q, by rw [q2]; exact h2⟩
theorem Kn.wr {h h' : Heap} {a b : Addr} {sl : Nat} {v : Value} (F : Kn h a) (W : Wr h h' b sl v) : Kn h' a := F.keep (Keep.of_wr W)
theorem Kn.fld {h : Heap} {a : Addr} {O n d : String} {v : Value} {Z : State} (F : Fld Z h a O n d v) : Kn h a := by obtain ⟨c, _, _, _, _, h1, -, -, h4, -⟩ := F; exact ⟨c, h1, h4⟩
theorem lremM {g : JFrame} {target : State} (X : Stand p l e R s m args below meth c T locs cells slots) (hx : p.tables.exec = Jvm.exec) (hg : g.method = m) {x y : Int64} {rest : List Value} (hd : decode c.code g.pc = .ok (.lrem, 1)) (hs : g.stack = .long y :: .long x :: rest) (hy : y ≠ 0)
    (hr : Steps p.tables e below (T.setTop { g with pc := g.pc + 1, stack := .long (x % y) :: rest }) target) : Steps p.tables e below (T.setTop g) target := by
  exact XT.lrem X.here hx hg hd hs hy (by rw [lrem_mod]; exact hr)
theorem Sta.own_keep {Z : State} {h h' : Heap} {C n d : String} {v : Value} {ws : List Addr} (F : Sta Z h C n d v) (K : Keep h h' ws) (q : ∀ a ∈ ws, ∃ C', Exa Z h a C') : Sta Z h' C n d v := by
  obtain ⟨cf, i, k, f, st, cell, h1, h2, h3, h4, h5, h6, h7⟩ := F
  refine ⟨cf, i, k, f, st, cell, h1, h2, h3, h4, K.2.1 st cell h5 fun hm => ?_, h6, h7⟩
  obtain ⟨C', c2, _, g1, -, -, g4, -⟩ := q st hm
  cases h5.symm.trans g1
  rw [h6] at g4; cases g4
theorem own_nar {t : FieldType} {v : Value} (h : v.isRef = true) (ht : t.isReference = true) : narrow t v = v := by
  rcases ref_cases h with rfl | ⟨z, rfl⟩ <;> cases t <;> first | rfl | (cases ht)
theorem own_fit {t : FieldType} {v : Value} (h : v.isRef = true) (ht : t.isReference = true) : fits t v = true := by
  rcases ref_cases h with rfl | ⟨z, rfl⟩ <;> cases t <;> first | rfl | (cases ht)
theorem own_eq_int {t : Term} {k : Int32} {args : Array Value} {first s : State} {o : Option Outcome} {idx : List Nat} (h : (Cond.eq t (Term.int k)).value args first o s idx = some true) : t.eval args first o idx s = some (.int k) := by
  simp only [Cond.value, Term.eval] at h
  cases ht : t.eval args first o idx s with
  | none => simp [ht] at h
  | some x => cases x <;> simp [ht] at h ⊢; exact h
theorem pop2L {g : JFrame} {target : State} (X : Stand p l e R s m args below meth c T locs cells slots) (hx : p.tables.exec = Jvm.exec) (hg : g.method = m) {x : Int64} {rest : List Value} (hd : decode c.code g.pc = .ok (.pop2, 1)) (hs : g.stack = .long x :: rest)
    (hr : Steps p.tables e below (T.setTop { g with pc := g.pc + 1, stack := rest }) target) : Steps p.tables e below (T.setTop g) target := by
  subst hg
  jvm_step X.here [X.here.top, hx, hd, Op.pop2.wp_sem, hs, Value.category]
  exact hr
theorem own_tdiv (D k : Int) : (0 ≤ D ∧ D.tdiv k = D / k) ∨ (D < 0 ∧ D.tdiv k = -((-D) / k)) := by
  rcases Int.lt_or_le D 0 with h | h
  · refine Or.inr ⟨h, ?_⟩
    have e : D.tdiv k = -((-D).tdiv k) := by rw [Int.neg_tdiv]; omega
    rw [e, Int.tdiv_eq_ediv_of_nonneg (by omega)]
  · exact Or.inl ⟨h, Int.tdiv_eq_ediv_of_nonneg h⟩
theorem own_tmod (D k : Int) : (0 ≤ D ∧ D.tmod k = D % k) ∨ (D < 0 ∧ D.tmod k = -((-D) % k)) := by
  rcases Int.lt_or_le D 0 with h | h
  · refine Or.inr ⟨h, ?_⟩
    have e : D.tmod k = -((-D).tmod k) := by rw [Int.neg_tmod]; omega
    rw [e, Int.tmod_eq_emod_of_nonneg (by omega)]
  · exact Or.inl ⟨h, Int.tmod_eq_emod_of_nonneg h⟩
end Walk
end Jvm.OwnKit
namespace Jvm.Pilot.@@N@@
open Jvm Jvm.ClassFile Sem Op Lib Jvm.Free Jvm.Stand Jvm.LawKit Jvm.RoadKit Bundle Jvm.Pilot.@@N@@.Jvm.D Jvm.OwnKit
def own_f3 (od : Int32) : Int32 := od
theorem own_ef3 (m : MethodId) (a : Addr) : entryFrame m #[(.ref a)] 1 = mkF m 0 #[.val (.ref a)] [] := by
  (first | (simp [entryFrame, mkF, argsToLocals, Value.category]; done) | rfl)
theorem own_pn_0 : plainName "java/lang/Enum" = true := by first | (simp [plainName, overriddenIn]; done) | decide +kernel
theorem own_d3_0 : decode jdk_37_method_2_code 0 = .ok (.aload_n 0, 1) := by decide +kernel
theorem own_d3_1 : decode jdk_37_method_2_code 1 = .ok (.getfield 7, 3) := by decide +kernel
theorem own_d3_4 : decode jdk_37_method_2_code 4 = .ok (.ireturn, 1) := by decide +kernel
set_option maxRecDepth 65536 in
set_option maxHeartbeats 40000000 in
theorem own_rm3 (l : Launch) (Z : State) (a0 : Array Value) (hw : ∀ d ∈ tables_1, d.before a0 Z = true) (ws : List Jvm.Cond) (a : Addr) (od : Int32) (h0 : Heap) (n0 : Nat) (Z0 : n0 ≤ h0.size)  (F_ordinal : Fld Z h0 a "java/lang/Enum" "ordinal" "I" (.int od))  :
    Con l Z (⟨"java/lang/Enum", "ordinal", "()I"⟩ : MethodName) jdk_37_method_2_code 1 (some .int) ws ({ frames := 0, cells := 0, slots := 0, locals := 0 } : Room) #[(.ref a)] h0 (fun v h L => v = some (.int (own_f3 od)) ∧ Fr n0 L ∧ h = h0) := by
  refine Con.intro (plainFor_of_name own_pn_0) ?_
  intro p e s m below meth c s₁ P hx hby hml hown hnm hret hlk hZ X0 e0 hP
  have N0 := Fr.nil n0
  have hown : s.vm.findClass "java/lang/Enum" = some m.cls := hown
  refine Go.cast (own_ef3 m a) ?_
  show Go p.tables e below P (s₁.setTop (mkF m 0 #[.val (.ref a)] []))
  refine Go.s (fun kz => XS.aloadN X0.here hx rfl (hb hby own_d3_0) rfl rfl kz) ?_
  show Go p.tables e below P (s₁.setTop (mkF m 1 #[.val (.ref a)] [(.ref a)]))
  obtain ⟨T1, X1, e1, st1⟩ := getF X0 hx hZ hown (host := "") (Or.inl (hw _ (List.mem_of_getElem? (i := 21) rfl))) Via.refl e0 F_ordinal (g := (mkF m 1 #[.val (.ref a)] [(.ref a)])) rfl rfl (hb hby own_d3_1)
  refine Go.s (fun {t} => st1 t) ?_
  show Go p.tables e below P (T1.setTop (mkF m 4 #[.val (.ref a)] [(.int od)]))
  exact Go.retI X1 hx hlk hret (hb hby own_d3_4) (fun U hU hF => hP U _ _ (by rw [hU, e1]; exact ⟨congrArg some (congrArg Value.int (Eq.symm (by rw [own_f3]))), N0, rfl⟩) ⟨hF.1, hF.2.1, hF.2.2.mono (by decide) (by decide)⟩)
def own_f2 (od : Int32) : Int32 := (own_f3 od)
theorem own_ef2 (m : MethodId) (a : Addr) : entryFrame m #[(.ref a)] 1 = mkF m 0 #[.val (.ref a)] [] := by
  (first | (simp [entryFrame, mkF, argsToLocals, Value.category]; done) | rfl)
theorem own_pn_1 : plainName "com/example/fold2/fold2/runtime/CallKind" = true := by first | (simp [plainName, overriddenIn]; done) | decide +kernel
theorem own_d2_0 : decode prog_16_method_4_code 0 = .ok (.aload_n 0, 1) := by decide +kernel
theorem own_pd_0 : parseMethodDescriptor "()I" = some ⟨[], some .int⟩ := by decide +kernel
theorem own_d2_1 : decode prog_16_method_4_code 1 = .ok (.invokevirtual 32, 3) := by decide +kernel
theorem own_d2_4 : decode prog_16_method_4_code 4 = .ok (.ireturn, 1) := by decide +kernel
set_option maxRecDepth 65536 in
set_option maxHeartbeats 40000000 in
theorem own_rm2 (l : Launch) (Z : State) (a0 : Array Value) (hw : ∀ d ∈ tables_1, d.before a0 Z = true) (ws : List Jvm.Cond) (a : Addr) (od : Int32) (h0 : Heap) (n0 : Nat) (Z0 : n0 ≤ h0.size)  (F_ordinal : Fld Z h0 a "java/lang/Enum" "ordinal" "I" (.int od)) (E_a : Exa Z h0 a "com/example/fold2/fold2/runtime/CallKind")  :
    Con l Z (⟨"com/example/fold2/fold2/runtime/CallKind", "code", "()I"⟩ : MethodName) prog_16_method_4_code 1 (some .int) ws ({ frames := 1, cells := 0, slots := 0, locals := 12 } : Room) #[(.ref a)] h0 (fun v h L => v = some (.int (own_f2 od)) ∧ Fr n0 L ∧ h = h0) := by
  refine Con.intro (plainFor_of_name own_pn_1) ?_
  intro p e s m below meth c s₁ P hx hby hml hown hnm hret hlk hZ X0 e0 hP
  have N0 := Fr.nil n0
  have hown : s.vm.findClass "com/example/fold2/fold2/runtime/CallKind" = some m.cls := hown
  refine Go.cast (own_ef2 m a) ?_
  show Go p.tables e below P (s₁.setTop (mkF m 0 #[.val (.ref a)] []))
  refine Go.s (fun kz => XS.aloadN X0.here hx rfl (hb hby own_d2_0) rfl rfl kz) ?_
  show Go p.tables e below P (s₁.setTop (mkF m 1 #[.val (.ref a)] [(.ref a)]))
  obtain ⟨v1, T1, L1, X1, Q1, st1⟩ := Con.virtualUp (own_rm3 l Z a0 hw [] a od h0 n0 Z0 F_ordinal ) X0 hx hZ (W := 0) hown (hw _ (List.mem_of_getElem? (i := 14) rfl)) (hw _ (List.mem_of_getElem? (i := 15) rfl)) (hw _ (List.mem_of_getElem? (i := 16) rfl)) (hw _ (List.mem_of_getElem? (i := 18) rfl)) (hw _ (List.mem_of_getElem? (i := 17) rfl)) (hw _ (List.mem_of_getElem? (i := 19) rfl)) (hw _ (List.mem_of_getElem? (i := 20) rfl)) (by decide) (by decide) (by decide) (by decide) (by decide) e0 (g := (mkF m 1 #[.val (.ref a)] [(.ref a)])) rfl (by rw [hml]; rfl) E_a (argsL := []) (rest := []) rfl (lenOf own_pd_0 rfl) rfl (by show 2 * 0 + _ ≤ _; exact Nat.le_of_eq rfl) (hb hby own_d2_1)
  obtain ⟨rfl, Nq1, e1⟩ := Q1
  have N1 := Fr.app N0 Nq1
  refine Go.s (fun {t} => st1) ?_
  show Go p.tables e below P (T1.setTop (mkF m 4 #[.val (.ref a)] [(.int (own_f3 od))]))
  exact Go.retI X1 hx hlk hret (hb hby own_d2_4) (fun U hU hF => hP U _ _ (by rw [hU, e1]; exact ⟨congrArg some (congrArg Value.int (Eq.symm (by rw [own_f2]))), N1, rfl⟩) ⟨hF.1, hF.2.1, hF.2.2.mono (by decide) (by decide)⟩)
theorem own_ef1 (m : MethodId) (cv : Int32) : entryFrame m #[(.int cv)] 1 = mkF m 0 #[.val (.int cv)] [] := by
  (first | (simp [entryFrame, mkF, argsToLocals, Value.category]; done) | rfl)
theorem own_d1_0 : decode prog_16_method_5_code 0 = .ok (.iload_n 0, 1) := by decide +kernel
theorem own_d1_1 : decode prog_16_method_5_code 1 = .ok (.ifCond .lt 11, 3) := by decide +kernel
theorem own_d1_4 : decode prog_16_method_5_code 4 = .ok (.iload_n 0, 1) := by decide +kernel
theorem own_d1_5 : decode prog_16_method_5_code 5 = .ok (.getstatic 36, 3) := by decide +kernel
theorem own_d1_8 : decode prog_16_method_5_code 8 = .ok (.arraylength, 1) := by decide +kernel
theorem own_d1_9 : decode prog_16_method_5_code 9 = .ok (.if_icmp .lt 17, 3) := by decide +kernel
theorem own_d1_26 : decode prog_16_method_5_code 26 = .ok (.getstatic 36, 3) := by decide +kernel
theorem own_d1_29 : decode prog_16_method_5_code 29 = .ok (.iload_n 0, 1) := by decide +kernel
theorem own_d1_30 : decode prog_16_method_5_code 30 = .ok (.aaload, 1) := by decide +kernel
theorem own_d1_31 : decode prog_16_method_5_code 31 = .ok (.areturn, 1) := by decide +kernel
set_option maxRecDepth 65536 in
set_option maxHeartbeats 40000000 in
theorem own_rm1 (l : Launch) (Z : State) (a0 : Array Value) (hw : ∀ d ∈ tables_1, d.before a0 Z = true) (ws : List Jvm.Cond) (cv : Int32) (va aA kA c0 c1 c2 : Nat) (h0 : Heap) (n0 : Nat) (Z0 : n0 ≤ h0.size) (S_BY : Sta Z h0 "com/example/fold2/fold2/runtime/CallKind" "BY_CODE" "[Lcom/example/fold2/fold2/runtime/CallKind;" (.ref aA)) (V_A : Arv Z h0 aA kA (.object "com/example/fold2/fold2/runtime/CallKind") 3 [.ref c0, .ref c1, .ref c2] .null) (hp1 : ¬ cv < 0) (hp2 : cv < 3) (hv : ([.ref c0, .ref c1, .ref c2] : List Value).getD cv.toNatClampNeg .null = .ref va) :
    Con l Z (⟨"com/example/fold2/fold2/runtime/CallKind", "ofCode", "(I)Lcom/example/fold2/fold2/runtime/CallKind;"⟩ : MethodName) prog_16_method_5_code 1 (some (.object "com/example/fold2/fold2/runtime/CallKind")) ws ({ frames := 0, cells := 0, slots := 0, locals := 0 } : Room) #[(.int cv)] h0 (fun v h L => v = some (.ref va) ∧ Fr n0 L ∧ h = h0) := by
  refine Con.intro (plainFor_of_name own_pn_1) ?_
  intro p e s m below meth c s₁ P hx hby hml hown hnm hret hlk hZ X0 e0 hP
  have N0 := Fr.nil n0
  have hown : s.vm.findClass "com/example/fold2/fold2/runtime/CallKind" = some m.cls := hown
  refine Go.cast (own_ef1 m cv) ?_
  show Go p.tables e below P (s₁.setTop (mkF m 0 #[.val (.int cv)] []))
  refine Go.s (fun kz => XS.iloadN X0.here hx rfl (hb hby own_d1_0) rfl kz) ?_
  show Go p.tables e below P (s₁.setTop (mkF m 1 #[.val (.int cv)] [(.int cv)]))
  refine Go.s (fun kz => XS.ifNo X0.here hx rfl (hb hby own_d1_1) rfl (XT.i0_lt_f hp1) kz) ?_
  show Go p.tables e below P (s₁.setTop (mkF m 4 #[.val (.int cv)] []))
  refine Go.s (fun kz => XS.iloadN X0.here hx rfl (hb hby own_d1_4) rfl kz) ?_
  show Go p.tables e below P (s₁.setTop (mkF m 5 #[.val (.int cv)] [(.int cv)]))
  obtain ⟨T1, X1, e1, st1⟩ := getS2 X0 hx hZ hown (host := "") (Or.inl (hw _ (List.mem_of_getElem? (i := 7) rfl))) Via.refl e0 S_BY (g := (mkF m 5 #[.val (.int cv)] [(.int cv)])) rfl (hb hby own_d1_5)
  refine Go.s (fun {t} => st1 t) ?_
  show Go p.tables e below P (T1.setTop (mkF m 8 #[.val (.int cv)] [(.ref aA), (.int cv)]))
  obtain ⟨cl2, Ar2, q2, Sz2, Ng2, Ha2, Ft2⟩ := id V_A
  refine Go.s (fun {t} kz => X1.arraylength hx (by rw [e1]; exact Ar2.1) (State.isArrayOf_alike hZ.alike Ar2.2.1) (g := (mkF m 8 #[.val (.int cv)] [(.ref aA), (.int cv)])) rfl rfl (hb hby own_d1_8) _ kz) ?_
  rw [len_of Sz2 Ng2]
  show Go p.tables e below P (T1.setTop (mkF m 9 #[.val (.int cv)] [(.int (3 : Int32)), (.int cv)]))
  refine Go.s (fun kz => XS.icmpYes X1.here hx rfl (pc0 := 9) (pc' := 26) rfl (hb hby own_d1_9) rfl (XT.ii_lt_t hp2) (by decide) (by decide) kz) ?_
  show Go p.tables e below P (T1.setTop (mkF m 26 #[.val (.int cv)] []))
  obtain ⟨T3, X3, e3, st3⟩ := getS2 X1 hx hZ hown (host := "") (Or.inl (hw _ (List.mem_of_getElem? (i := 7) rfl))) Via.refl e1 S_BY (g := (mkF m 26 #[.val (.int cv)] [])) rfl (hb hby own_d1_26)
  refine Go.s (fun {t} => st3 t) ?_
  show Go p.tables e below P (T3.setTop (mkF m 29 #[.val (.int cv)] [(.ref aA)]))
  refine Go.s (fun kz => XS.iloadN X3.here hx rfl (hb hby own_d1_29) rfl kz) ?_
  show Go p.tables e below P (T3.setTop (mkF m 30 #[.val (.int cv)] [(.int cv), (.ref aA)]))
  obtain ⟨cl4, Ar4, q4, Sz4, Ng4, Ha4, Ft4⟩ := id V_A
  have hin4 := inb_of (j := cv) Sz4 ⟨hp1, hp2⟩
  have hat4 := Has.at Ha4 hin4 (v := .ref va) hv
  refine Go.s (fun {t} kz => X3.aaload hx (j := cv) (v := (.ref va)) (by rw [e3]; exact Ar4.1) (State.isArrayOf_alike hZ.alike Ar4.2.1) rfl Ar4.2.2 hin4 hat4 (g := (mkF m 30 #[.val (.int cv)] [(.int cv), (.ref aA)])) rfl rfl (hb hby own_d1_30) _ kz) ?_
  show Go p.tables e below P (T3.setTop (mkF m 31 #[.val (.int cv)] [(.ref va)]))
  exact Go.retR X3 hx hlk hret rfl rfl (hb hby own_d1_31) (fun U hU hF => hP U _ _ (by rw [hU, e3]; exact ⟨rfl, N0, rfl⟩) ⟨hF.1, hF.2.1, hF.2.2.mono (by decide) (by decide)⟩)
theorem own_c (p c : Int32) (h : c = (p &&& 2147483647) % 3) : ¬ c < 0 ∧ c < 3 := by
  have e := Jvm.Kit.i32_mask p 2147483647 (k := 31) (by decide) (by decide)
  have c1 : (3 : Int32).toInt = 3 := rfl
  have c0 : (0 : Int32).toInt = 0 := rfl
  rw [Int32.lt_iff_toInt_lt, Int32.lt_iff_toInt_lt, h, Jvm.Kit.i32_rem_nonneg (by omega), c1, c0]; omega
theorem own_two (c : Int32) (h1 : ¬ c < 0) (h2 : c < 3) (h3 : ¬ c = 0) (h4 : ¬ c = 1) : c = 2 := by
  have c3 : (3 : Int32).toInt = 3 := rfl
  have c0 : (0 : Int32).toInt = 0 := rfl
  have c1 : (1 : Int32).toInt = 1 := rfl
  have c2 : (2 : Int32).toInt = 2 := rfl
  rw [Int32.lt_iff_toInt_lt] at h1 h2
  have a : c.toInt ≠ 0 := fun z => h3 (Int32.toInt_inj.mp z)
  have b : c.toInt ≠ 1 := fun z => h4 (Int32.toInt_inj.mp z)
  exact Int32.toInt_inj.mp (by omega)
theorem own_eq_ref {t u : Term} {a : Addr} {args : Array Value} {first s : State} {o : Option Outcome} {idx : List Nat} (h : (Cond.eq t u).value args first o s idx = some true) (hu : u.eval args first o idx s = some (.ref a)) : t.eval args first o idx s = some (.ref a) := by
  simp only [Cond.value, hu] at h
  cases ht : t.eval args first o idx s with
  | none => simp [ht] at h
  | some x => cases x <;> simp [ht] at h ⊢; exact h
theorem own_ef0 (m : MethodId) (p0 : Int32) : entryFrame m #[(.int p0)] maxLocals = mkF m 0 #[.val (.int p0), .unset, .unset, .unset] [] := by
  (first | (simp [entryFrame, mkF, argsToLocals, Value.category, maxLocals]; done) | rfl)
theorem own_pn_2 : plainName "com/example/fold2/fold2/runtime/CallKindOfCodePinLaw" = true := by first | (simp [plainName, overriddenIn]; done) | decide +kernel
theorem own_pd_1 : parseMethodDescriptor "(I)Lcom/example/fold2/fold2/runtime/CallKind;" = some ⟨[.int], some (.object "com/example/fold2/fold2/runtime/CallKind")⟩ := by decide +kernel
set_option maxRecDepth 65536 in
set_option maxHeartbeats 40000000 in
theorem own_rm0 (l : Launch) (Z : State) (a0 : Array Value) (hw : ∀ d ∈ tables_1, d.before a0 Z = true) (ws : List Jvm.Cond) (p0 : Int32) (c0 c1 c2 aA kA : Nat) (h0 : Heap) (n0 : Nat) (Z0 : n0 ≤ h0.size) (S_CONSTRUCTOR : Sta Z h0 "com/example/fold2/fold2/runtime/CallKind" "CONSTRUCTOR" "Lcom/example/fold2/fold2/runtime/CallKind;" (.ref c0)) (E_CONSTRUCTOR : Exa Z h0 c0 "com/example/fold2/fold2/runtime/CallKind") (F_CONSTRUCTOR : Fld Z h0 c0 "java/lang/Enum" "ordinal" "I" (.int (0 : Int32))) (S_INSTANCE : Sta Z h0 "com/example/fold2/fold2/runtime/CallKind" "INSTANCE" "Lcom/example/fold2/fold2/runtime/CallKind;" (.ref c1)) (E_INSTANCE : Exa Z h0 c1 "com/example/fold2/fold2/runtime/CallKind") (F_INSTANCE : Fld Z h0 c1 "java/lang/Enum" "ordinal" "I" (.int (1 : Int32))) (S_STATIC : Sta Z h0 "com/example/fold2/fold2/runtime/CallKind" "STATIC" "Lcom/example/fold2/fold2/runtime/CallKind;" (.ref c2)) (E_STATIC : Exa Z h0 c2 "com/example/fold2/fold2/runtime/CallKind") (F_STATIC : Fld Z h0 c2 "java/lang/Enum" "ordinal" "I" (.int (2 : Int32))) (S_BY : Sta Z h0 "com/example/fold2/fold2/runtime/CallKind" "BY_CODE" "[Lcom/example/fold2/fold2/runtime/CallKind;" (.ref aA)) (V_A : Arv Z h0 aA kA (.object "com/example/fold2/fold2/runtime/CallKind") 3 [.ref c0, .ref c1, .ref c2] .null) :
    Con l Z x code maxLocals ret ws room_1 #[(.int p0)] h0 (fun v h L => v = some (.int 1) ∧ Fr n0 L) := by
  refine Con.intro (plainFor_of_name own_pn_2) ?_
  intro p e s m below meth c s₁ P hx hby hml hown hnm hret hlk hZ X0 e0 hP
  have N0 := Fr.nil n0
  have hml : c.maxLocals = 4 := hml
  have hown : s.vm.findClass "com/example/fold2/fold2/runtime/CallKindOfCodePinLaw" = some m.cls := hown
  have hret : meth.sig.returnType = some .boolean := hret
  refine Go.cast (own_ef0 m p0) ?_
  show Go p.tables e below P (s₁.setTop (mkF m 0 #[.val (.int p0), .unset, .unset, .unset] []))
  refine Go.s (fun kz => XS.iloadN X0.here hx rfl (hb hby at_0) rfl kz) ?_
  show Go p.tables e below P (s₁.setTop (mkF m 1 #[.val (.int p0), .unset, .unset, .unset] [(.int p0)]))
  refine Go.s (fun kz => X0.ldcI hx hown (mvT hZ (hw _ (List.mem_of_getElem? (i := 0) rfl))) rfl (hb hby at_1) kz) ?_
  show Go p.tables e below P (s₁.setTop (mkF m 3 #[.val (.int p0), .unset, .unset, .unset] [(.int (2147483647 : Int32)), (.int p0)]))
  refine Go.s (fun kz => XS.iand X0.here hx rfl (hb hby at_3) rfl kz) ?_
  show Go p.tables e below P (s₁.setTop (mkF m 4 #[.val (.int p0), .unset, .unset, .unset] [(.int (p0 &&& (2147483647 : Int32)))]))
  refine Go.s (fun kz => XS.iconst X0.here hx rfl (hb hby at_4) kz) ?_
  show Go p.tables e below P (s₁.setTop (mkF m 5 #[.val (.int p0), .unset, .unset, .unset] [(.int (3 : Int32)), (.int (p0 &&& (2147483647 : Int32)))]))
  refine Go.s (fun kz => iremM X0 hx rfl (hb hby at_5) rfl (by decide) kz) ?_
  show Go p.tables e below P (s₁.setTop (mkF m 6 #[.val (.int p0), .unset, .unset, .unset] [(.int ((p0 &&& (2147483647 : Int32)) % (3 : Int32)))]))
  refine Go.s (fun kz => XS.istoreN X0.here hx rfl (hb hby at_6) rfl (l' := #[.val (.int p0), .val (.int ((p0 &&& (2147483647 : Int32)) % (3 : Int32))), .unset, .unset]) rfl kz) ?_
  show Go p.tables e below P (s₁.setTop (mkF m 7 #[.val (.int p0), .val (.int ((p0 &&& (2147483647 : Int32)) % (3 : Int32))), .unset, .unset] []))
  refine (?_ : ∀ cv : Int32, cv = ((p0 &&& (2147483647 : Int32)) % (3 : Int32)) → Go p.tables e below P (s₁.setTop (mkF m 7 #[.val (.int p0), .val (.int cv), .unset, .unset] []))) _ rfl
  intro cv hcvx
  obtain ⟨hp1, hp2⟩ := own_c p0 cv hcvx
  refine Go.s (fun kz => XS.iloadN X0.here hx rfl (hb hby at_7) rfl kz) ?_
  show Go p.tables e below P (s₁.setTop (mkF m 8 #[.val (.int p0), .val (.int cv), .unset, .unset] [(.int cv)]))
  by_cases hc8 : cv = 0
  · skip
    refine Go.s (fun kz => XS.ifNo X0.here hx rfl (hb hby at_8) rfl (XT.i0_ne_f hc8) kz) ?_
    show Go p.tables e below P (s₁.setTop (mkF m 11 #[.val (.int p0), .val (.int cv), .unset, .unset] []))
    obtain ⟨T1, X1, e1, st1⟩ := getS2 X0 hx hZ hown (host := "") (Or.inl (hw _ (List.mem_of_getElem? (i := 1) rfl))) Via.refl e0 S_CONSTRUCTOR (g := (mkF m 11 #[.val (.int p0), .val (.int cv), .unset, .unset] [])) rfl (hb hby at_11)
    refine Go.s (fun {t} => st1 t) ?_
    show Go p.tables e below P (T1.setTop (mkF m 14 #[.val (.int p0), .val (.int cv), .unset, .unset] [(.ref c0)]))
    refine Go.s (fun kz => XS.astoreN X1.here hx rfl (hb hby at_14) rfl rfl (l' := #[.val (.int p0), .val (.int cv), .val (.ref c0), .unset]) rfl kz) ?_
    show Go p.tables e below P (T1.setTop (mkF m 15 #[.val (.int p0), .val (.int cv), .val (.ref c0), .unset] []))
    refine Go.s (fun kz => XS.goto X1.here hx rfl (pc0 := 15) (pc' := 34) rfl (hb hby at_15) (by decide) (by decide) kz) ?_
    show Go p.tables e below P (T1.setTop (mkF m 34 #[.val (.int p0), .val (.int cv), .val (.ref c0), .unset] []))
    have hcv : cv = 0 := hc8
    refine Go.s (fun kz => XS.iloadN X1.here hx rfl (hb hby at_34) rfl kz) ?_
    show Go p.tables e below P (T1.setTop (mkF m 35 #[.val (.int p0), .val (.int cv), .val (.ref c0), .unset] [(.int cv)]))
    obtain ⟨v2, T2, L2, X2, Q2, st2⟩ := Con.static (own_rm1 l Z a0 hw [] cv c0 aA kA c0 c1 c2 h0 n0 Z0 S_BY V_A hp1 hp2 (by rw [hcv]; rfl)) X1 hx hZ (W := 0) hown (hw _ (List.mem_of_getElem? (i := 4) rfl)) (hw _ (List.mem_of_getElem? (i := 5) rfl)) (hw _ (List.mem_of_getElem? (i := 2) rfl)) (hw _ (List.mem_of_getElem? (i := 6) rfl)) (by decide) (by decide) (by decide) (by decide) (by decide) e1 (g := (mkF m 35 #[.val (.int p0), .val (.int cv), .val (.ref c0), .unset] [(.int cv)])) rfl (by rw [hml]; rfl) (argsL := [(.int cv)]) (rest := []) rfl (lenOf own_pd_1 rfl) rfl (by show 2 * 0 + _ ≤ _; exact Nat.le_of_eq rfl) (hb hby at_35)
    obtain ⟨rfl, Nq2, e2⟩ := Q2
    have N2 := Fr.app N0 Nq2
    refine Go.s (fun {t} => st2) ?_
    show Go p.tables e below P (T2.setTop (mkF m 38 #[.val (.int p0), .val (.int cv), .val (.ref c0), .unset] [(.ref c0)]))
    refine Go.s (fun kz => XS.astoreN X2.here hx rfl (hb hby at_38) rfl rfl (l' := #[.val (.int p0), .val (.int cv), .val (.ref c0), .val (.ref c0)]) rfl kz) ?_
    show Go p.tables e below P (T2.setTop (mkF m 39 #[.val (.int p0), .val (.int cv), .val (.ref c0), .val (.ref c0)] []))
    refine Go.s (fun kz => XS.aloadN X2.here hx rfl (hb hby at_39) rfl rfl kz) ?_
    show Go p.tables e below P (T2.setTop (mkF m 40 #[.val (.int p0), .val (.int cv), .val (.ref c0), .val (.ref c0)] [(.ref c0)]))
    refine Go.s (fun kz => XS.aloadN X2.here hx rfl (hb hby at_40) rfl rfl kz) ?_
    show Go p.tables e below P (T2.setTop (mkF m 41 #[.val (.int p0), .val (.int cv), .val (.ref c0), .val (.ref c0)] [(.ref c0), (.ref c0)]))
    refine Go.s (fun kz => XT.acmpNo X2.here hx rfl (hb hby at_41) rfl rfl rfl (XT.aa_ne_f rfl) kz) ?_
    show Go p.tables e below P (T2.setTop (mkF m 44 #[.val (.int p0), .val (.int cv), .val (.ref c0), .val (.ref c0)] []))
    refine Go.s (fun kz => XS.aloadN X2.here hx rfl (hb hby at_44) rfl rfl kz) ?_
    show Go p.tables e below P (T2.setTop (mkF m 45 #[.val (.int p0), .val (.int cv), .val (.ref c0), .val (.ref c0)] [(.ref c0)]))
    obtain ⟨v3, T3, L3, X3, Q3, st3⟩ := Con.virtual (own_rm2 l Z a0 hw [] c0 (0 : Int32) h0 n0 Z0 F_CONSTRUCTOR E_CONSTRUCTOR ) X2 hx hZ (W := 0) hown (hw _ (List.mem_of_getElem? (i := 9) rfl)) (hw _ (List.mem_of_getElem? (i := 10) rfl)) (hw _ (List.mem_of_getElem? (i := 12) rfl)) (hw _ (List.mem_of_getElem? (i := 11) rfl)) (hw _ (List.mem_of_getElem? (i := 2) rfl)) (hw _ (List.mem_of_getElem? (i := 13) rfl)) (by decide) (by decide) (by decide) (by decide) (by decide) e2 (g := (mkF m 45 #[.val (.int p0), .val (.int cv), .val (.ref c0), .val (.ref c0)] [(.ref c0)])) rfl (by rw [hml]; rfl) E_CONSTRUCTOR (argsL := []) (rest := []) rfl (lenOf own_pd_0 rfl) rfl (by show 2 * 0 + _ ≤ _; exact Nat.le_of_eq rfl) (hb hby at_45)
    obtain ⟨rfl, Nq3, e3⟩ := Q3
    have N3 := Fr.app N2 Nq3
    refine Go.s (fun {t} => st3) ?_
    show Go p.tables e below P (T3.setTop (mkF m 48 #[.val (.int p0), .val (.int cv), .val (.ref c0), .val (.ref c0)] [(.int (own_f2 (0 : Int32)))]))
    refine Go.s (fun kz => XS.iloadN X3.here hx rfl (hb hby at_48) rfl kz) ?_
    show Go p.tables e below P (T3.setTop (mkF m 49 #[.val (.int p0), .val (.int cv), .val (.ref c0), .val (.ref c0)] [(.int cv), (.int (own_f2 (0 : Int32)))]))
    refine Go.s (fun kz => XS.icmpNo X3.here hx rfl (hb hby at_49) rfl (XT.ii_ne_f (by rw [hcv]; rfl)) kz) ?_
    show Go p.tables e below P (T3.setTop (mkF m 52 #[.val (.int p0), .val (.int cv), .val (.ref c0), .val (.ref c0)] []))
    refine Go.s (fun kz => XS.iconst X3.here hx rfl (hb hby at_52) kz) ?_
    show Go p.tables e below P (T3.setTop (mkF m 53 #[.val (.int p0), .val (.int cv), .val (.ref c0), .val (.ref c0)] [(.int (1 : Int32))]))
    refine Go.s (fun kz => XS.goto X3.here hx rfl (pc0 := 53) (pc' := 57) rfl (hb hby at_53) (by decide) (by decide) kz) ?_
    show Go p.tables e below P (T3.setTop (mkF m 57 #[.val (.int p0), .val (.int cv), .val (.ref c0), .val (.ref c0)] [(.int (1 : Int32))]))
    exact Go.retZ X3 hx hlk hret (by decide) (hb hby at_57) (fun U hU hF => hP U _ _ ⟨rfl, N3⟩ ⟨hF.1, hF.2.1, hF.2.2.mono (by decide) (by decide)⟩)
  · skip
    refine Go.s (fun kz => XS.ifYes X0.here hx rfl (pc0 := 8) (pc' := 18) rfl (hb hby at_8) rfl (XT.i0_ne_t hc8) (by decide) (by decide) kz) ?_
    show Go p.tables e below P (s₁.setTop (mkF m 18 #[.val (.int p0), .val (.int cv), .unset, .unset] []))
    refine Go.s (fun kz => XS.iloadN X0.here hx rfl (hb hby at_18) rfl kz) ?_
    show Go p.tables e below P (s₁.setTop (mkF m 19 #[.val (.int p0), .val (.int cv), .unset, .unset] [(.int cv)]))
    refine Go.s (fun kz => XS.iconst X0.here hx rfl (hb hby at_19) kz) ?_
    show Go p.tables e below P (s₁.setTop (mkF m 20 #[.val (.int p0), .val (.int cv), .unset, .unset] [(.int (1 : Int32)), (.int cv)]))
    by_cases hc20 : cv = (1 : Int32)
    · skip
      refine Go.s (fun kz => XS.icmpNo X0.here hx rfl (hb hby at_20) rfl (XT.ii_ne_f hc20) kz) ?_
      show Go p.tables e below P (s₁.setTop (mkF m 23 #[.val (.int p0), .val (.int cv), .unset, .unset] []))
      obtain ⟨T4, X4, e4, st4⟩ := getS2 X0 hx hZ hown (host := "") (Or.inl (hw _ (List.mem_of_getElem? (i := 25) rfl))) Via.refl e0 S_INSTANCE (g := (mkF m 23 #[.val (.int p0), .val (.int cv), .unset, .unset] [])) rfl (hb hby at_23)
      refine Go.s (fun {t} => st4 t) ?_
      show Go p.tables e below P (T4.setTop (mkF m 26 #[.val (.int p0), .val (.int cv), .unset, .unset] [(.ref c1)]))
      refine Go.s (fun kz => XS.astoreN X4.here hx rfl (hb hby at_26) rfl rfl (l' := #[.val (.int p0), .val (.int cv), .val (.ref c1), .unset]) rfl kz) ?_
      show Go p.tables e below P (T4.setTop (mkF m 27 #[.val (.int p0), .val (.int cv), .val (.ref c1), .unset] []))
      refine Go.s (fun kz => XS.goto X4.here hx rfl (pc0 := 27) (pc' := 34) rfl (hb hby at_27) (by decide) (by decide) kz) ?_
      show Go p.tables e below P (T4.setTop (mkF m 34 #[.val (.int p0), .val (.int cv), .val (.ref c1), .unset] []))
      have hcv : cv = 1 := hc20
      refine Go.s (fun kz => XS.iloadN X4.here hx rfl (hb hby at_34) rfl kz) ?_
      show Go p.tables e below P (T4.setTop (mkF m 35 #[.val (.int p0), .val (.int cv), .val (.ref c1), .unset] [(.int cv)]))
      obtain ⟨v5, T5, L5, X5, Q5, st5⟩ := Con.static (own_rm1 l Z a0 hw [] cv c1 aA kA c0 c1 c2 h0 n0 Z0 S_BY V_A hp1 hp2 (by rw [hcv]; rfl)) X4 hx hZ (W := 0) hown (hw _ (List.mem_of_getElem? (i := 4) rfl)) (hw _ (List.mem_of_getElem? (i := 5) rfl)) (hw _ (List.mem_of_getElem? (i := 2) rfl)) (hw _ (List.mem_of_getElem? (i := 6) rfl)) (by decide) (by decide) (by decide) (by decide) (by decide) e4 (g := (mkF m 35 #[.val (.int p0), .val (.int cv), .val (.ref c1), .unset] [(.int cv)])) rfl (by rw [hml]; rfl) (argsL := [(.int cv)]) (rest := []) rfl (lenOf own_pd_1 rfl) rfl (by show 2 * 0 + _ ≤ _; exact Nat.le_of_eq rfl) (hb hby at_35)
      obtain ⟨rfl, Nq5, e5⟩ := Q5
      have N5 := Fr.app N0 Nq5
      refine Go.s (fun {t} => st5) ?_
      show Go p.tables e below P (T5.setTop (mkF m 38 #[.val (.int p0), .val (.int cv), .val (.ref c1), .unset] [(.ref c1)]))
      refine Go.s (fun kz => XS.astoreN X5.here hx rfl (hb hby at_38) rfl rfl (l' := #[.val (.int p0), .val (.int cv), .val (.ref c1), .val (.ref c1)]) rfl kz) ?_
      show Go p.tables e below P (T5.setTop (mkF m 39 #[.val (.int p0), .val (.int cv), .val (.ref c1), .val (.ref c1)] []))
      refine Go.s (fun kz => XS.aloadN X5.here hx rfl (hb hby at_39) rfl rfl kz) ?_
      show Go p.tables e below P (T5.setTop (mkF m 40 #[.val (.int p0), .val (.int cv), .val (.ref c1), .val (.ref c1)] [(.ref c1)]))
      refine Go.s (fun kz => XS.aloadN X5.here hx rfl (hb hby at_40) rfl rfl kz) ?_
      show Go p.tables e below P (T5.setTop (mkF m 41 #[.val (.int p0), .val (.int cv), .val (.ref c1), .val (.ref c1)] [(.ref c1), (.ref c1)]))
      refine Go.s (fun kz => XT.acmpNo X5.here hx rfl (hb hby at_41) rfl rfl rfl (XT.aa_ne_f rfl) kz) ?_
      show Go p.tables e below P (T5.setTop (mkF m 44 #[.val (.int p0), .val (.int cv), .val (.ref c1), .val (.ref c1)] []))
      refine Go.s (fun kz => XS.aloadN X5.here hx rfl (hb hby at_44) rfl rfl kz) ?_
      show Go p.tables e below P (T5.setTop (mkF m 45 #[.val (.int p0), .val (.int cv), .val (.ref c1), .val (.ref c1)] [(.ref c1)]))
      obtain ⟨v6, T6, L6, X6, Q6, st6⟩ := Con.virtual (own_rm2 l Z a0 hw [] c1 (1 : Int32) h0 n0 Z0 F_INSTANCE E_INSTANCE ) X5 hx hZ (W := 0) hown (hw _ (List.mem_of_getElem? (i := 9) rfl)) (hw _ (List.mem_of_getElem? (i := 10) rfl)) (hw _ (List.mem_of_getElem? (i := 12) rfl)) (hw _ (List.mem_of_getElem? (i := 11) rfl)) (hw _ (List.mem_of_getElem? (i := 2) rfl)) (hw _ (List.mem_of_getElem? (i := 13) rfl)) (by decide) (by decide) (by decide) (by decide) (by decide) e5 (g := (mkF m 45 #[.val (.int p0), .val (.int cv), .val (.ref c1), .val (.ref c1)] [(.ref c1)])) rfl (by rw [hml]; rfl) E_INSTANCE (argsL := []) (rest := []) rfl (lenOf own_pd_0 rfl) rfl (by show 2 * 0 + _ ≤ _; exact Nat.le_of_eq rfl) (hb hby at_45)
      obtain ⟨rfl, Nq6, e6⟩ := Q6
      have N6 := Fr.app N5 Nq6
      refine Go.s (fun {t} => st6) ?_
      show Go p.tables e below P (T6.setTop (mkF m 48 #[.val (.int p0), .val (.int cv), .val (.ref c1), .val (.ref c1)] [(.int (own_f2 (1 : Int32)))]))
      refine Go.s (fun kz => XS.iloadN X6.here hx rfl (hb hby at_48) rfl kz) ?_
      show Go p.tables e below P (T6.setTop (mkF m 49 #[.val (.int p0), .val (.int cv), .val (.ref c1), .val (.ref c1)] [(.int cv), (.int (own_f2 (1 : Int32)))]))
      refine Go.s (fun kz => XS.icmpNo X6.here hx rfl (hb hby at_49) rfl (XT.ii_ne_f (by rw [hcv]; rfl)) kz) ?_
      show Go p.tables e below P (T6.setTop (mkF m 52 #[.val (.int p0), .val (.int cv), .val (.ref c1), .val (.ref c1)] []))
      refine Go.s (fun kz => XS.iconst X6.here hx rfl (hb hby at_52) kz) ?_
      show Go p.tables e below P (T6.setTop (mkF m 53 #[.val (.int p0), .val (.int cv), .val (.ref c1), .val (.ref c1)] [(.int (1 : Int32))]))
      refine Go.s (fun kz => XS.goto X6.here hx rfl (pc0 := 53) (pc' := 57) rfl (hb hby at_53) (by decide) (by decide) kz) ?_
      show Go p.tables e below P (T6.setTop (mkF m 57 #[.val (.int p0), .val (.int cv), .val (.ref c1), .val (.ref c1)] [(.int (1 : Int32))]))
      exact Go.retZ X6 hx hlk hret (by decide) (hb hby at_57) (fun U hU hF => hP U _ _ ⟨rfl, N6⟩ ⟨hF.1, hF.2.1, hF.2.2.mono (by decide) (by decide)⟩)
    · skip
      refine Go.s (fun kz => XS.icmpYes X0.here hx rfl (pc0 := 20) (pc' := 30) rfl (hb hby at_20) rfl (XT.ii_ne_t hc20) (by decide) (by decide) kz) ?_
      show Go p.tables e below P (s₁.setTop (mkF m 30 #[.val (.int p0), .val (.int cv), .unset, .unset] []))
      obtain ⟨T7, X7, e7, st7⟩ := getS2 X0 hx hZ hown (host := "") (Or.inl (hw _ (List.mem_of_getElem? (i := 23) rfl))) Via.refl e0 S_STATIC (g := (mkF m 30 #[.val (.int p0), .val (.int cv), .unset, .unset] [])) rfl (hb hby at_30)
      refine Go.s (fun {t} => st7 t) ?_
      show Go p.tables e below P (T7.setTop (mkF m 33 #[.val (.int p0), .val (.int cv), .unset, .unset] [(.ref c2)]))
      refine Go.s (fun kz => XS.astoreN X7.here hx rfl (hb hby at_33) rfl rfl (l' := #[.val (.int p0), .val (.int cv), .val (.ref c2), .unset]) rfl kz) ?_
      show Go p.tables e below P (T7.setTop (mkF m 34 #[.val (.int p0), .val (.int cv), .val (.ref c2), .unset] []))
      have hcv : cv = 2 := own_two cv hp1 hp2 hc8 hc20
      refine Go.s (fun kz => XS.iloadN X7.here hx rfl (hb hby at_34) rfl kz) ?_
      show Go p.tables e below P (T7.setTop (mkF m 35 #[.val (.int p0), .val (.int cv), .val (.ref c2), .unset] [(.int cv)]))
      obtain ⟨v8, T8, L8, X8, Q8, st8⟩ := Con.static (own_rm1 l Z a0 hw [] cv c2 aA kA c0 c1 c2 h0 n0 Z0 S_BY V_A hp1 hp2 (by rw [hcv]; rfl)) X7 hx hZ (W := 0) hown (hw _ (List.mem_of_getElem? (i := 4) rfl)) (hw _ (List.mem_of_getElem? (i := 5) rfl)) (hw _ (List.mem_of_getElem? (i := 2) rfl)) (hw _ (List.mem_of_getElem? (i := 6) rfl)) (by decide) (by decide) (by decide) (by decide) (by decide) e7 (g := (mkF m 35 #[.val (.int p0), .val (.int cv), .val (.ref c2), .unset] [(.int cv)])) rfl (by rw [hml]; rfl) (argsL := [(.int cv)]) (rest := []) rfl (lenOf own_pd_1 rfl) rfl (by show 2 * 0 + _ ≤ _; exact Nat.le_of_eq rfl) (hb hby at_35)
      obtain ⟨rfl, Nq8, e8⟩ := Q8
      have N8 := Fr.app N0 Nq8
      refine Go.s (fun {t} => st8) ?_
      show Go p.tables e below P (T8.setTop (mkF m 38 #[.val (.int p0), .val (.int cv), .val (.ref c2), .unset] [(.ref c2)]))
      refine Go.s (fun kz => XS.astoreN X8.here hx rfl (hb hby at_38) rfl rfl (l' := #[.val (.int p0), .val (.int cv), .val (.ref c2), .val (.ref c2)]) rfl kz) ?_
      show Go p.tables e below P (T8.setTop (mkF m 39 #[.val (.int p0), .val (.int cv), .val (.ref c2), .val (.ref c2)] []))
      refine Go.s (fun kz => XS.aloadN X8.here hx rfl (hb hby at_39) rfl rfl kz) ?_
      show Go p.tables e below P (T8.setTop (mkF m 40 #[.val (.int p0), .val (.int cv), .val (.ref c2), .val (.ref c2)] [(.ref c2)]))
      refine Go.s (fun kz => XS.aloadN X8.here hx rfl (hb hby at_40) rfl rfl kz) ?_
      show Go p.tables e below P (T8.setTop (mkF m 41 #[.val (.int p0), .val (.int cv), .val (.ref c2), .val (.ref c2)] [(.ref c2), (.ref c2)]))
      refine Go.s (fun kz => XT.acmpNo X8.here hx rfl (hb hby at_41) rfl rfl rfl (XT.aa_ne_f rfl) kz) ?_
      show Go p.tables e below P (T8.setTop (mkF m 44 #[.val (.int p0), .val (.int cv), .val (.ref c2), .val (.ref c2)] []))
      refine Go.s (fun kz => XS.aloadN X8.here hx rfl (hb hby at_44) rfl rfl kz) ?_
      show Go p.tables e below P (T8.setTop (mkF m 45 #[.val (.int p0), .val (.int cv), .val (.ref c2), .val (.ref c2)] [(.ref c2)]))
      obtain ⟨v9, T9, L9, X9, Q9, st9⟩ := Con.virtual (own_rm2 l Z a0 hw [] c2 (2 : Int32) h0 n0 Z0 F_STATIC E_STATIC ) X8 hx hZ (W := 0) hown (hw _ (List.mem_of_getElem? (i := 9) rfl)) (hw _ (List.mem_of_getElem? (i := 10) rfl)) (hw _ (List.mem_of_getElem? (i := 12) rfl)) (hw _ (List.mem_of_getElem? (i := 11) rfl)) (hw _ (List.mem_of_getElem? (i := 2) rfl)) (hw _ (List.mem_of_getElem? (i := 13) rfl)) (by decide) (by decide) (by decide) (by decide) (by decide) e8 (g := (mkF m 45 #[.val (.int p0), .val (.int cv), .val (.ref c2), .val (.ref c2)] [(.ref c2)])) rfl (by rw [hml]; rfl) E_STATIC (argsL := []) (rest := []) rfl (lenOf own_pd_0 rfl) rfl (by show 2 * 0 + _ ≤ _; exact Nat.le_of_eq rfl) (hb hby at_45)
      obtain ⟨rfl, Nq9, e9⟩ := Q9
      have N9 := Fr.app N8 Nq9
      refine Go.s (fun {t} => st9) ?_
      show Go p.tables e below P (T9.setTop (mkF m 48 #[.val (.int p0), .val (.int cv), .val (.ref c2), .val (.ref c2)] [(.int (own_f2 (2 : Int32)))]))
      refine Go.s (fun kz => XS.iloadN X9.here hx rfl (hb hby at_48) rfl kz) ?_
      show Go p.tables e below P (T9.setTop (mkF m 49 #[.val (.int p0), .val (.int cv), .val (.ref c2), .val (.ref c2)] [(.int cv), (.int (own_f2 (2 : Int32)))]))
      refine Go.s (fun kz => XS.icmpNo X9.here hx rfl (hb hby at_49) rfl (XT.ii_ne_f (by rw [hcv]; rfl)) kz) ?_
      show Go p.tables e below P (T9.setTop (mkF m 52 #[.val (.int p0), .val (.int cv), .val (.ref c2), .val (.ref c2)] []))
      refine Go.s (fun kz => XS.iconst X9.here hx rfl (hb hby at_52) kz) ?_
      show Go p.tables e below P (T9.setTop (mkF m 53 #[.val (.int p0), .val (.int cv), .val (.ref c2), .val (.ref c2)] [(.int (1 : Int32))]))
      refine Go.s (fun kz => XS.goto X9.here hx rfl (pc0 := 53) (pc' := 57) rfl (hb hby at_53) (by decide) (by decide) kz) ?_
      show Go p.tables e below P (T9.setTop (mkF m 57 #[.val (.int p0), .val (.int cv), .val (.ref c2), .val (.ref c2)] [(.int (1 : Int32))]))
      exact Go.retZ X9 hx hlk hret (by decide) (hb hby at_57) (fun U hU hF => hP U _ _ ⟨rfl, N9⟩ ⟨hF.1, hF.2.1, hF.2.2.mono (by decide) (by decide)⟩)
set_option maxRecDepth 65536 in
set_option maxHeartbeats 40000000 in
theorem own_comes {Post : Tables → Env → Array Value → State → Outcome → State → Prop} (hpost : ∀ tb e args s v u, (limb_1_1.after args s (.returned v) u = true ∧ limb_1_2.after args s (.returned v) u = true ∧ True) → FrameEnd s (.returned v) u (Jvm.fieldLocs frame_1_writes args s ++ Jvm.arrayLocs frame_1_arrays args s ++ Jvm.staticLocs frame_1_statics s) 0 0 → Post tb e args s (.returned v) u) :
    ArmFor flags0 classFile x code maxLocals ret World_1 tables_1 room_1 Calls_1 rest_1 Pre_1 Post := by
  intro l hfl _ _ p e ha hc hk s m args below hf hA hF happ hP
  obtain ⟨hcalls, hrest, hpre⟩ := hP
  obtain ⟨-, -, -, hnamed, -, -, -, hat⟩ := (Spec.applies_iff hf).mp happ
  obtain ⟨hg, hn⟩ := and_e (Cond.before_iff.mp (show (Jvm.Cond.and given_1 narrow_1).before args s = true from hpre))
  obtain ⟨h1, g1⟩ := and_e hg
  obtain ⟨w0, rfl⟩ : ∃ w0 : Value, args = #[w0] := by
    have hs : args.size = 1 := by simpa [Cond.value, given_1] using h1
    obtain ⟨L⟩ := args
    match L, hs with
    | [w0], _ => exact ⟨w0, rfl⟩
  have hw := fun d (hd : d ∈ tables_1) => atoms_spec (ws := Jvm.Cond.code x code maxLocals ret :: tables_1) hat d (List.mem_cons_of_mem _ hd)
  have hfit : Fit s := fun {y c} hc i hi => by
    obtain ⟨ha, rfl⟩ := Array.getElem?_eq_some_iff.mp hc
    have q := List.all_eq_true.mp ((Array.all_eq_true_iff_forall_mem.mp hF) _ (Array.getElem_mem ha)) i (List.mem_range.mpr hi)
    simpa [Array.getElem?_eq_getElem hi] using q
  obtain ⟨i0, ee0⟩ := is_v g1
  obtain rfl : w0 = (.int i0) := Option.some.inj ee0
  obtain ⟨nC, m1⟩ := and_e hn
  obtain ⟨nA, m2⟩ := and_e m1
  obtain ⟨nL, m3⟩ := and_e m2
  obtain ⟨nC0, m4⟩ := and_e m3
  obtain ⟨nCo, m5⟩ := and_e m4
  obtain ⟨nS, m6⟩ := and_e m5
  obtain ⟨nS2, m7⟩ := and_e m6
  obtain ⟨nSo, m8⟩ := and_e m7
  obtain ⟨nI, m9⟩ := and_e m8
  obtain ⟨nI1, nIo⟩ := and_e m9
  obtain ⟨c0, eC⟩ := exa_v nC
  obtain ⟨c1, eI⟩ := exa_v nI
  obtain ⟨c2, eS⟩ := exa_v nS
  obtain ⟨aA, eA⟩ := arr_v nA
  obtain ⟨cl, A⟩ := Arr.start eA nA
  have SC := Sta.start eC (Or.inr ⟨(hw _ (List.mem_of_getElem? (i := 2) rfl)), (hw _ (List.mem_of_getElem? (i := 3) rfl))⟩)
  have SI := Sta.start eI (Or.inr ⟨(hw _ (List.mem_of_getElem? (i := 2) rfl)), (hw _ (List.mem_of_getElem? (i := 26) rfl))⟩)
  have SS := Sta.start eS (Or.inr ⟨(hw _ (List.mem_of_getElem? (i := 2) rfl)), (hw _ (List.mem_of_getElem? (i := 24) rfl))⟩)
  have SA := Sta.start eA (Or.inr ⟨(hw _ (List.mem_of_getElem? (i := 2) rfl)), (hw _ (List.mem_of_getElem? (i := 8) rfl))⟩)
  have fC := own_eq_int nCo
  have fI := own_eq_int nIo
  have fS := own_eq_int nSo
  rw [fld_at eC] at fC
  rw [fld_at eI] at fI
  rw [fld_at eS] at fS
  have l3 := own_eq_int nL
  have hat' := A.fin (Vm.Alike.refl _)
  have h31 := SBG.length_lt eA hat' l3
  obtain ⟨a', cell', ea', hc', hl'⟩ := Term.length_spec l3
  cases eA.symm.trans ea'
  cases hat'.symm.trans hc'
  have v0 := elem_in (own_eq_ref nC0 eC) eA rfl A.1
  have v1 := elem_in (own_eq_ref nI1 eI) eA rfl A.1
  have v2 := elem_in (own_eq_ref nS2 eS) eA rfl A.1
  have VA := Arv.start (vs := [.ref c0, .ref c1, .ref c2]) (dv := .null) (z := 3) hfit A h31 (Value.int.inj hl'.symm) (by decide) rfl ⟨v0.2, v1.2, v2.2, trivial⟩
  obtain ⟨n, o, h1, h2, h3, _, L, rfl, ⟨rfl, N⟩, hq⟩ := own_rm0 l s _ hw tables_1 i0 c0 c1 c2 aA cl.cls s.heap s.heap.size (Nat.le_refl _) SC (Exa.start eC nC) (Fld.start fC) SI (Exa.start eI nI) (Fld.start fI) SS (Exa.start eS nS) (Fld.start fS) SA VA p e ha hc hk s m _ below hf ((Spec.applies_iff_loose hf).mp happ).1 ⟨rfl, State.Warmed39.refl s, rfl⟩ trivial
  refine ⟨n, _, h1, h2, h3, hpost _ _ _ _ _ _ ⟨Cond.after_iff.mpr rfl, Cond.after_iff.mpr (eq_i res_at (Term.int_eval (1)) rfl), trivial⟩ ⟨hq.1, hq.2.1, (hq.2.2.sift fun y hy => Or.inr (N y hy)).mono (by decide) (by decide)⟩⟩
theorem main_1_1 : Claimed_1_1 := own_comes fun _ _ _ _ _ _ h hF => ⟨h.1, hF⟩
theorem main_1_2 : Claimed_1_2 := own_comes fun _ _ _ _ _ _ h hF => ⟨h.2.1, hF⟩
end Jvm.Pilot.@@N@@
namespace Jvm.Pilot.@@N@@
open Jvm Jvm.ClassFile Sem Op Lib Jvm.Free Jvm.Stand Jvm.Pilot.@@N@@.Jvm.D
/-! MADE BY PROGRAM (witnessworld.py) out of the Statement's table words and the real class files: 13 classes; the members and pool entries that the words name. The judged class is class 1, her method 1. -/
namespace start1
open Jvm.ClassFile
def u (s : String) : CpInfo := .utf8 (stringToUtf16 s)
/-- a pool by its gaps: so many unusable entries, then the entry; so many at the end -/
def gap : Nat → List CpInfo → List CpInfo
  | 0, r => r
  | n + 1, r => .unusable :: gap n r
def poolList (es : List (Nat × CpInfo)) (last : Nat) : List CpInfo := es.foldr (fun e r => gap e.1 (e.2 :: r)) (gap last [])
def pool (es : List (Nat × CpInfo)) (last : Nat) : Array CpInfo := ⟨poolList es last⟩
def fileOf (pool : Array CpInfo) (this : Nat) (attrs : Array Attribute := #[]) (ms : Array MethodInfo := #[]) (fl : Nat := 33) (sup : Nat := 0) (ifs : Array Nat := #[]) (fds : Array FieldInfo := #[]) : ClassFile where
  minorVersion := 0
  majorVersion := 65
  constantPool := pool
  accessFlags := fl
  thisClass := this
  superClass := sup
  interfaces := ifs
  fields := fds
  methods := ms
  attributes := attrs
def plain (name : String) (sup : Option ClassId) : Class where
  name := name
  kind := .ordinary
  loader := none
  accessFlags := 33
  super := sup
  interfaces := #[]
  cf := none
  fields := #[]
  methods := #[]
  instanceTypes := #[]
  staticTypes := #[]
  resolved := #[]
  callSites := []
  init := .initialized
  statics := none
  mirror := none

def pool0 : Array CpInfo := pool [(5, u "<init>"), (0, u "()V"), (1, .class_ 10), (1, u "java/lang/Object")] 113

def k0m0 : Method := { name := "<init>", desc := "()V", sig := { parameters := [], returnType := none }, accessFlags := 1, code := none }
/-- java/lang/Object -/
def k0 : Class := { plain "java/lang/Object" none with
  accessFlags := 33
  interfaces := #[]
  cf := some (fileOf pool0 8 #[] #[{ accessFlags := 1, nameIndex := 5, descriptorIndex := 6, attributes := #[] }] 33 0 #[] #[])
  fields := #[]
  methods := #[k0m0]
  instanceTypes := #[]
  staticTypes := #[]
  resolved := Array.replicate 124 none
  statics := none }

def pool1 : Array CpInfo := pool [(2, .class_ 4), (1, u "java/lang/Object"), (0, u "<init>"), (0, u "()V"), (0, .integer 2147483647), (0, .fieldref 9 10), (0, .class_ 11), (0, .nameAndType 12 13), (0, u "com/example/fold2/fold2/runtime/CallKind"), (0, u "CONSTRUCTOR"), (0, u "Lcom/example/fold2/fold2/runtime/CallKind;"), (0, .fieldref 9 15), (0, .nameAndType 16 13), (0, u "INSTANCE"), (0, .fieldref 9 18), (0, .nameAndType 19 13), (0, u "STATIC"), (0, .methodref 9 21), (0, .nameAndType 22 23), (0, u "ofCode"), (0, u "(I)Lcom/example/fold2/fold2/runtime/CallKind;"), (0, .methodref 9 25), (0, .nameAndType 26 27), (0, u "code"), (0, u "()I"), (0, .class_ 29), (0, u "com/example/fold2/fold2/runtime/CallKindOfCodePinLaw"), (2, u "law"), (0, u "(I)Z")] 3

def k1m0 : Method := { name := "<init>", desc := "()V", sig := { parameters := [], returnType := none }, accessFlags := 1, code := none }
def k1c1 : Code := { maxStack := 2, maxLocals := 4, code := code, exceptionTable := #[], attributes := #[] }
def k1m1 : Method := { name := "law", desc := "(I)Z", sig := { parameters := [.int], returnType := some .boolean }, accessFlags := 9, code := some k1c1 }
/-- com/example/fold2/fold2/runtime/CallKindOfCodePinLaw -/
def k1 : Class := { plain "com/example/fold2/fold2/runtime/CallKindOfCodePinLaw" (some 0) with
  accessFlags := 49
  interfaces := #[]
  cf := some (fileOf pool1 28 #[] #[{ accessFlags := 1, nameIndex := 5, descriptorIndex := 6, attributes := #[] }, { accessFlags := 9, nameIndex := 32, descriptorIndex := 33, attributes := #[] }] 49 2 #[] #[])
  fields := #[]
  methods := #[k1m0, k1m1]
  instanceTypes := #[]
  staticTypes := #[]
  resolved := Array.replicate 37 none
  statics := none }

def pool2 : Array CpInfo := pool [(1, .class_ 2), (0, u "java/lang/constant/Constable"), (0, .class_ 4), (0, u "java/lang/Object")] 6

/-- java/lang/constant/Constable -/
def k2 : Class := { plain "java/lang/constant/Constable" (some 0) with
  accessFlags := 1537
  interfaces := #[]
  cf := some (fileOf pool2 1 #[] #[] 1537 3 #[] #[])
  fields := #[]
  methods := #[]
  instanceTypes := #[]
  staticTypes := #[]
  resolved := Array.replicate 11 none
  statics := none }

def pool3 : Array CpInfo := pool [(1, .class_ 2), (0, u "java/lang/Comparable"), (0, .class_ 4), (0, u "java/lang/Object")] 7

/-- java/lang/Comparable -/
def k3 : Class := { plain "java/lang/Comparable" (some 0) with
  accessFlags := 1537
  interfaces := #[]
  cf := some (fileOf pool3 1 #[] #[] 1537 3 #[] #[])
  fields := #[]
  methods := #[]
  instanceTypes := #[]
  staticTypes := #[]
  resolved := Array.replicate 12 none
  statics := none }

def pool4 : Array CpInfo := pool [(1, .class_ 2), (0, u "java/io/Serializable"), (0, .class_ 4), (0, u "java/lang/Object")] 2

/-- java/io/Serializable -/
def k4 : Class := { plain "java/io/Serializable" (some 0) with
  accessFlags := 1537
  interfaces := #[]
  cf := some (fileOf pool4 1 #[] #[] 1537 3 #[] #[])
  fields := #[]
  methods := #[]
  instanceTypes := #[]
  staticTypes := #[]
  resolved := Array.replicate 7 none
  statics := none }

def pool5 : Array CpInfo := pool [(2, .class_ 4), (1, u "java/lang/Enum"), (0, u "name"), (0, u "Ljava/lang/String;"), (0, .fieldref 2 8), (0, .nameAndType 9 10), (0, u "ordinal"), (0, u "I"), (1, .class_ 14), (1, u "java/lang/Object"), (4, u "hash"), (86, .class_ 108), (1, u "java/lang/Enum$EnumDesc"), (2, .class_ 112), (0, u "java/lang/constant/Constable"), (0, .class_ 114), (0, u "java/lang/Comparable"), (0, .class_ 116), (0, u "java/io/Serializable"), (9, u "()I")] 77

def k5c0 : Code := { maxStack := 1, maxLocals := 1, code := jdk_37_method_2_code, exceptionTable := #[], attributes := #[] }
def k5m0 : Method := { name := "ordinal", desc := "()I", sig := { parameters := [], returnType := some .int }, accessFlags := 17, code := some k5c0 }
/-- java/lang/Enum -/
def k5 : Class := { plain "java/lang/Enum" (some 0) with
  accessFlags := 1057
  interfaces := #[2, 3, 4]
  cf := some (fileOf pool5 2 #[.nestMembers #[106]] #[{ accessFlags := 17, nameIndex := 9, descriptorIndex := 126, attributes := #[] }] 1057 12 #[111, 113, 115] #[{ accessFlags := 18, nameIndex := 5, descriptorIndex := 6, attributes := #[] }, { accessFlags := 18, nameIndex := 9, descriptorIndex := 10, attributes := #[] }, { accessFlags := 2, nameIndex := 19, descriptorIndex := 10, attributes := #[] }])
  fields := #[{ name := "name", type := (.object "java/lang/String"), accessFlags := 18, slot := 0, constantValue := 0 }, { name := "ordinal", type := .int, accessFlags := 18, slot := 1, constantValue := 0 }, { name := "hash", type := .int, accessFlags := 2, slot := 2, constantValue := 0 }]
  methods := #[k5m0]
  instanceTypes := #[(.object "java/lang/String"), .int, .int]
  staticTypes := #[]
  resolved := Array.replicate 204 none
  statics := none }

def pool6 : Array CpInfo := pool [(1, .class_ 2), (0, u "com/example/fold2/fold2/runtime/CallKind"), (2, u "CONSTRUCTOR"), (0, u "Lcom/example/fold2/fold2/runtime/CallKind;"), (2, u "INSTANCE"), (2, u "STATIC"), (2, u "$VALUES"), (0, u "[Lcom/example/fold2/fold2/runtime/CallKind;"), (6, .class_ 25), (1, u "java/lang/Enum"), (6, .methodref 1 33), (0, .nameAndType 34 35), (0, u "ordinal"), (0, u "()I"), (0, .fieldref 1 37), (0, .nameAndType 38 16), (0, u "BY_CODE"), (42, u "code"), (0, u "ofCode"), (0, u "(I)Lcom/example/fold2/fold2/runtime/CallKind;")] 21

def k6c0 : Code := { maxStack := 1, maxLocals := 1, code := prog_16_method_4_code, exceptionTable := #[], attributes := #[] }
def k6m0 : Method := { name := "code", desc := "()I", sig := { parameters := [], returnType := some .int }, accessFlags := 0, code := some k6c0 }
def k6c1 : Code := { maxStack := 3, maxLocals := 1, code := prog_16_method_5_code, exceptionTable := #[], attributes := #[] }
def k6m1 : Method := { name := "ofCode", desc := "(I)Lcom/example/fold2/fold2/runtime/CallKind;", sig := { parameters := [.int], returnType := some (.object "com/example/fold2/fold2/runtime/CallKind") }, accessFlags := 8, code := some k6c1 }
/-- com/example/fold2/fold2/runtime/CallKind -/
def k6 : Class := { plain "com/example/fold2/fold2/runtime/CallKind" (some 5) with
  accessFlags := 16433
  interfaces := #[]
  cf := some (fileOf pool6 1 #[] #[{ accessFlags := 0, nameIndex := 81, descriptorIndex := 35, attributes := #[] }, { accessFlags := 8, nameIndex := 82, descriptorIndex := 83, attributes := #[] }] 16433 23 #[] #[{ accessFlags := 16409, nameIndex := 5, descriptorIndex := 6, attributes := #[] }, { accessFlags := 16409, nameIndex := 9, descriptorIndex := 6, attributes := #[] }, { accessFlags := 16409, nameIndex := 12, descriptorIndex := 6, attributes := #[] }, { accessFlags := 26, nameIndex := 38, descriptorIndex := 16, attributes := #[] }, { accessFlags := 4122, nameIndex := 15, descriptorIndex := 16, attributes := #[] }])
  fields := #[{ name := "CONSTRUCTOR", type := (.object "com/example/fold2/fold2/runtime/CallKind"), accessFlags := 16409, slot := 0, constantValue := 0 }, { name := "INSTANCE", type := (.object "com/example/fold2/fold2/runtime/CallKind"), accessFlags := 16409, slot := 1, constantValue := 0 }, { name := "STATIC", type := (.object "com/example/fold2/fold2/runtime/CallKind"), accessFlags := 16409, slot := 2, constantValue := 0 }, { name := "BY_CODE", type := (.array (.object "com/example/fold2/fold2/runtime/CallKind")), accessFlags := 26, slot := 3, constantValue := 0 }, { name := "$VALUES", type := (.array (.object "com/example/fold2/fold2/runtime/CallKind")), accessFlags := 4122, slot := 4, constantValue := 0 }]
  methods := #[k6m0, k6m1]
  instanceTypes := #[(.object "java/lang/String"), .int, .int]
  staticTypes := #[(.object "com/example/fold2/fold2/runtime/CallKind"), (.object "com/example/fold2/fold2/runtime/CallKind"), (.object "com/example/fold2/fold2/runtime/CallKind"), (.array (.object "com/example/fold2/fold2/runtime/CallKind")), (.array (.object "com/example/fold2/fold2/runtime/CallKind"))]
  resolved := Array.replicate 105 none
  statics := some 0 }

def pool7 : Array CpInfo := pool [(1, u "java/lang/Cloneable"), (0, .class_ 1), (0, u "java/lang/Object"), (0, .class_ 3)] 3

/-- java/lang/Cloneable -/
def k7 : Class := { plain "java/lang/Cloneable" (some 0) with
  accessFlags := 1537
  interfaces := #[]
  cf := some (fileOf pool7 2 #[] #[] 1537 4 #[] #[])
  fields := #[]
  methods := #[]
  instanceTypes := #[]
  staticTypes := #[]
  resolved := Array.replicate 8 none
  statics := none }

/-- the primitive byte -/
def k8 : Class := { plain "byte" none with kind := .primitive 'B', accessFlags := 0x411 }
/-- [B -/
def k9 : Class := { plain "[B" (some 0) with kind := .array 8 .byte, interfaces := #[7, 4], accessFlags := 1041 }

/-- the primitive int -/
def k10 : Class := { plain "int" none with kind := .primitive 'I', accessFlags := 0x411 }
/-- [I -/
def k11 : Class := { plain "[I" (some 0) with kind := .array 10 .int, interfaces := #[7, 4], accessFlags := 1041 }

/-- [Lcom/example/fold2/fold2/runtime/CallKind; -/
def k12 : Class := { plain "[Lcom/example/fold2/fold2/runtime/CallKind;" (some 0) with kind := .array 6 (.object "com/example/fold2/fold2/runtime/CallKind"), interfaces := #[7, 4], accessFlags := 1041 }

def heap : Heap := #[{ cls := 6, slots := #[.ref 2, .ref 3, .ref 4, .ref 1, .null], vm := .statics 6 },
  { cls := 12, slots := #[.ref 2, .ref 3, .ref 4], vm := .none },
  { cls := 6, slots := #[.null, .int 0, .int 0], vm := .none },
  { cls := 6, slots := #[.null, .int 1, .int 0], vm := .none },
  { cls := 6, slots := #[.null, .int 2, .int 0], vm := .none }]
def classes : Array Class := #[k0, k1, k2, k3, k4, k5, k6, k7, k8, k9, k10, k11, k12]
def interned : List (Array UInt16 × Addr) := []
def slotsUsed : Nat := 17
def theMethod : MethodId := ⟨1, 1⟩
def args0 : Array Value := #[.int 4]
def aboutOver (below : List Frame) : State where
  vm := { classes := classes, interned := interned.toArray }
  heap := heap
  slotsUsed := slotsUsed
  threads := #[{ frames := .invoking theMethod args0 :: below }]
def below0 : List Frame := [.native { method := ⟨0, 0⟩, args := #[] }]
def about1 : State := aboutOver below0
def p0 : Program := .bare "" "" ""
def e0 : Env := launch0.env 0 0 0
theorem w_frames : about1.frames = Frame.invoking theMethod args0 :: below0 := rfl
set_option maxRecDepth 65536 in
theorem w_args : argsFit about1.vm theMethod args0 = true := by decide +kernel
set_option maxRecDepth 65536 in
theorem w_heap : heapFits about1 = true := by decide +kernel
set_option maxRecDepth 65536 in
theorem w_runnable : about1.curStatus? = some .runnable := by decide +kernel
set_option maxRecDepth 65536 in
theorem w_alone : about1.alone = true := by decide +kernel
set_option maxRecDepth 65536 in
theorem w_named : about1.methodNamed? x = some theMethod := by decide +kernel
set_option maxRecDepth 65536 in
theorem w_hears : about1.hears theMethod below0 = true := by decide +kernel
set_option maxRecDepth 65536 in
theorem w_ripe : about1.ripe theMethod args0 below0 = true := by decide +kernel
theorem w_running : about1.status = .running := rfl
set_option maxRecDepth 65536 in
theorem w_room : about1.hasRoom e0.platform room_1 = true :=
  launch0.hasRoom_least _ room_1 (by decide +kernel) (by decide +kernel) (by decide +kernel) (by decide +kernel) (by decide +kernel) (by decide +kernel)
theorem allAtoms_all (ts : List Jvm.Cond) (a : Array Jvm.Value) (st : Jvm.State) : (allAtoms ts).before a st = ts.all (fun c => c.before a st) := by
  induction ts with
  | nil => rfl
  | cons c t ih =>
    show (Jvm.Cond.and c (allAtoms t)).before a st = _
    rw [Jvm.Cond.before_and, ih, List.all_cons]
def words1 : List Jvm.Cond := Jvm.Cond.code x code maxLocals ret :: tables_1
/-- a 'code' word, met by the world's own term for the bytes: nothing is compared byte by byte -/
theorem code_word {y : MethodName} {bytes : ByteArray} {mx : Nat} {rt : Option FieldType} {a : Array Value} {s : State} {m : MethodId} {meth : Method} {c : Code} (h1 : s.methodNamed? y = some m) (h2 : s.vm.method? m = some meth) (h3 : meth.code = some c) (h4 : c.code = bytes)
    (h5 : (c.maxLocals == mx && c.exceptionTable.isEmpty && decide (c.maxStack ≤ mostOperands) && decide (meth.sig.returnType = rt) && !meth.locks && decide (parseMethodDescriptor y.desc = some meth.sig)) = true) : (Jvm.Cond.code y bytes mx rt).before a s = true := by
  simp only [Bool.and_eq_true, beq_iff_eq, Bool.not_eq_true', decide_eq_true_eq] at h5
  obtain ⟨⟨⟨⟨⟨g1, g2⟩, g3⟩, g4⟩, g5⟩, g6⟩ := h5
  simp [Cond.before, Cond.holds, Cond.value, h1, h2, h3, h4, g1, g2, g3, g4, g5, g6]
def isCode : Jvm.Cond → Bool
  | .code _ _ _ _ => true
  | _ => false
theorem all_split {L : List Jvm.Cond} {P : Jvm.Cond → Bool} (h1 : L.all (fun c => isCode c || P c) = true) (h2 : ∀ c ∈ L.filter isCode, P c = true) : L.all P = true := by
  refine List.all_eq_true.mpr fun c hc => ?_
  have h := List.all_eq_true.mp h1 c hc
  rcases Bool.eq_false_or_eq_true (isCode c) with hi | hi
  · exact h2 c (List.mem_filter.mpr ⟨hc, hi⟩)
  · simpa [hi] using h
set_option maxRecDepth 65536 in
theorem w_c0 : (Jvm.Cond.code x code maxLocals ret).before args0 about1 = true := code_word (m := ⟨1, 1⟩) (meth := k1m1) (c := k1c1) (by decide +kernel) rfl rfl rfl (by decide +kernel)
set_option maxRecDepth 65536 in
theorem w_c1 : (Jvm.Cond.code ({ cls := "com/example/fold2/fold2/runtime/CallKind", name := "ofCode", desc := "(I)Lcom/example/fold2/fold2/runtime/CallKind;" } : Jvm.MethodName) prog_16_method_5_code (1 : Nat) (Option.some (Jvm.ClassFile.FieldType.object "com/example/fold2/fold2/runtime/CallKind"))).before args0 about1 = true := code_word (m := ⟨6, 1⟩) (meth := k6m1) (c := k6c1) (by decide +kernel) rfl rfl rfl (by decide +kernel)
set_option maxRecDepth 65536 in
theorem w_c2 : (Jvm.Cond.code ({ cls := "com/example/fold2/fold2/runtime/CallKind", name := "code", desc := "()I" } : Jvm.MethodName) prog_16_method_4_code (1 : Nat) (Option.some Jvm.ClassFile.FieldType.int)).before args0 about1 = true := code_word (m := ⟨6, 0⟩) (meth := k6m0) (c := k6c0) (by decide +kernel) rfl rfl rfl (by decide +kernel)
set_option maxRecDepth 65536 in
theorem w_c3 : (Jvm.Cond.code ({ cls := "java/lang/Enum", name := "ordinal", desc := "()I" } : Jvm.MethodName) jdk_37_method_2_code (1 : Nat) (Option.some Jvm.ClassFile.FieldType.int)).before args0 about1 = true := code_word (m := ⟨5, 0⟩) (meth := k5m0) (c := k5c0) (by decide +kernel) rfl rfl rfl (by decide +kernel)
def codes1 : List Jvm.Cond := [Jvm.Cond.code x code maxLocals ret, Jvm.Cond.code ({ cls := "com/example/fold2/fold2/runtime/CallKind", name := "ofCode", desc := "(I)Lcom/example/fold2/fold2/runtime/CallKind;" } : Jvm.MethodName) prog_16_method_5_code (1 : Nat) (Option.some (Jvm.ClassFile.FieldType.object "com/example/fold2/fold2/runtime/CallKind")), Jvm.Cond.code ({ cls := "com/example/fold2/fold2/runtime/CallKind", name := "code", desc := "()I" } : Jvm.MethodName) prog_16_method_4_code (1 : Nat) (Option.some Jvm.ClassFile.FieldType.int), Jvm.Cond.code ({ cls := "java/lang/Enum", name := "ordinal", desc := "()I" } : Jvm.MethodName) jdk_37_method_2_code (1 : Nat) (Option.some Jvm.ClassFile.FieldType.int)]
set_option maxRecDepth 65536 in
theorem codes_eq : words1.filter isCode = codes1 := rfl
theorem w_codes : ∀ c ∈ words1.filter isCode, c.before args0 about1 = true := by
  rw [codes_eq]
  intro c hc
  simp only [codes1, List.mem_cons, List.not_mem_nil, or_false] at hc
  rcases hc with rfl | rfl | rfl | rfl
  · exact w_c0
  · exact w_c1
  · exact w_c2
  · exact w_c3
set_option maxRecDepth 65536 in
theorem w_t1 : (words1.take 24).all (fun c => isCode c || c.before args0 about1) = true := by decide +kernel
set_option maxRecDepth 65536 in
theorem w_t2 : (words1.drop 24).all (fun c => isCode c || c.before args0 about1) = true := by decide +kernel
theorem w_tables : (allAtoms (Jvm.Cond.code x code maxLocals ret :: tables_1)).before args0 about1 = true := by
  rw [allAtoms_all]
  show words1.all (fun c => c.before args0 about1) = true
  refine all_split ?_ w_codes
  rw [← List.take_append_drop 24 words1, List.all_append, w_t1, w_t2]
  rfl
set_option maxRecDepth 65536 in
theorem w_case : (Jvm.Cond.and given_1 narrow_1).before args0 about1 = true := by decide +kernel
theorem w_applies : (headSpec (Jvm.Cond.code x code maxLocals ret :: tables_1) room_1).applies x e0.platform about1 = true :=
  (Spec.applies_iff w_frames).mpr ⟨w_running, w_runnable, w_alone, w_named, w_hears, w_ripe, w_room, w_tables⟩
theorem atStart : AtStart classFile x code maxLocals ret World_1 tables_1 room_1 Calls_1 rest_1 Pre_1 launch0 p0 e0 about1 theMethod args0 below0 :=
  ⟨lists_1, trivial, launch0.admits_env _ _ _, launch0.least_env, fairChoices_fair.cas, fairChoices_fair.clock, w_frames, w_args, w_heap, w_applies, trivial, trivial, w_case⟩
end start1
theorem witness_1 : WitnessClaimed_1 := ⟨start1.p0, start1.e0, start1.about1, start1.theMethod, start1.args0, start1.below0, start1.atStart⟩
end Jvm.Pilot.@@N@@
