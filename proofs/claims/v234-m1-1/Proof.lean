import JvmDerived
import JvmDerived.Pilot.@@N@@Statement
import JvmDerived.Pilot.@@N@@Code
set_option linter.unusedVariables false
set_option linter.unusedSimpArgs false
@@BLOCK:NumsL.lean.txt@@
namespace Jvm.OwnKit
open Sem ClassFile Op Lib Jvm.Stand Jvm.Free Jvm.LawKit Jvm.RoadKit
def Go (tb : Tables) (e : Env) (below : List Frame) (P : State → Outcome → Prop) (S : State) : Prop := ∃ U o, Steps tb e below S U ∧ U.status = .running ∧ Ended U below o ∧ P U o
theorem Go.s {tb : Tables} {e : Env} {below : List Frame} {P : State → Outcome → Prop} {S S' : State} (k : ∀ {t : State}, Steps tb e below S' t → Steps tb e below S t) (f : Go tb e below P S') : Go tb e below P S := by
  obtain ⟨U, o, h1, h2⟩ := f
  exact ⟨U, o, k h1, h2⟩
theorem Go.cast {tb : Tables} {e : Env} {below : List Frame} {P : State → Outcome → Prop} {T : State} {g g' : JFrame} (q : g = g') (f : Go tb e below P (T.setTop g')) : Go tb e below P (T.setTop g) := q ▸ f
/-- the contract of a body, at one heap and one list of arguments -/
def Con (l : Launch) (Z : State) (y : MethodName) (bytes : ByteArray) (maxL : Nat) (ret : Option FieldType) (ws : List Jvm.Cond) (rm : Room) (as' : Array Value) (h : Heap) (Q : Option Value → Heap → List Loc → Prop) : Prop :=
  MetFree l y (head1 (Cond.code y bytes maxL ret :: ws) rm) (fun a U => a = as' ∧ Z.Warmed39 U.vm ∧ U.heap = h) (fun _ _ _ _ _ => True) (fun _ U o U' => ∃ v L, o = .returned v ∧ Q v U'.heap L ∧ FrameEnd U o U' L rm.cells rm.slots)
theorem Con.intro {l : Launch} {Z : State} {y : MethodName} {bytes : ByteArray} {maxL : Nat} {ret : Option FieldType} {ws : List Jvm.Cond} {rm : Room} {as' : Array Value} {h : Heap} {Q : Option Value → Heap → List Loc → Prop} (hpn : plainFor y = true)
    (body : ∀ (p : Program) (e : Env) (s : State) (m : MethodId) (below : List Frame) (meth : Method) (c : Code) (s₁ : State) (P : State → Outcome → Prop), p.tables.exec = Jvm.exec → c.code = bytes → c.maxLocals = maxL → s.vm.findClass y.cls = some m.cls → meth.name = y.name → meth.sig.returnType = ret → meth.locks = false → Z.Warmed39 s.vm →
      Stand p l e rm s m as' below meth c s₁ [] 0 0 → s₁.heap = h → (∀ U v L, Q v U.heap L → FrameEnd s (.returned v) U L rm.cells rm.slots → P U (.returned v)) → Go p.tables e below P (s₁.setTop (entryFrame m as' maxL))) :
    Con l Z y bytes maxL ret ws rm as' h Q := by
  refine MetFree.of_bodySF hpn hisR ?_
  intro p e s m args below meth c s₁ Bd hml0 hP hK
  obtain ⟨rfl, hZ, hh⟩ := hP
  exact body p e s m below meth c s₁ _ Bd.exec Bd.bytes hml0 (findClass_of_methodNamed Bd.named) (name_of_methodNamed Bd.named Bd.method).1 Bd.returns (BodyLoose.notSynchronized Bd) hZ (Stand.of_body Bd) (by rw [← hh, Bd.state]; rfl) fun U v L q f => ⟨v, L, rfl, q, f⟩
theorem Con.mono {l : Launch} {Z : State} {y : MethodName} {bytes : ByteArray} {maxL : Nat} {ret : Option FieldType} {ws : List Jvm.Cond} {rm : Room} {as' : Array Value} {h : Heap} {Q Q' : Option Value → Heap → List Loc → Prop} (C : Con l Z y bytes maxL ret ws rm as' h Q) (q : ∀ v h L, Q v h L → Q' v h L) : Con l Z y bytes maxL ret ws rm as' h Q' := by
  intro p e ha hc hk s m args below hf happ hP hK
  obtain ⟨n, o, h1, h2, h3, v, L, h4, h5, h6⟩ := C p e ha hc hk s m args below hf happ hP hK
  exact ⟨n, o, h1, h2, h3, v, L, h4, q _ _ _ h5, h6⟩
def ConH (l : Launch) (Z : State) (y : MethodName) (bytes : ByteArray) (maxL : Nat) (ret : Option FieldType) (hs : List (Nat × Nat × Nat × Nat)) (ws : List Jvm.Cond) (rm : Room) (as' : Array Value) (h : Heap) (Q : Option Value → Heap → List Loc → Prop) : Prop :=
  MetFree l y (head1 (Cond.codeWith y bytes maxL ret hs :: ws) rm) (fun a U => a = as' ∧ Z.Warmed39 U.vm ∧ U.heap = h) (fun _ _ _ _ _ => True) (fun _ U o U' => ∃ v L, o = .returned v ∧ Q v U'.heap L ∧ FrameEnd U o U' L rm.cells rm.slots)
theorem ConH.intro {l : Launch} {Z : State} {y : MethodName} {bytes : ByteArray} {maxL : Nat} {ret : Option FieldType} {hs : List (Nat × Nat × Nat × Nat)} {ws : List Jvm.Cond} {rm : Room} {as' : Array Value} {h : Heap} {Q : Option Value → Heap → List Loc → Prop} (hpn : plainFor y = true)
    (body : ∀ (p : Program) (e : Env) (s : State) (m : MethodId) (below : List Frame) (meth : Method) (c : Code) (s₁ : State) (P : State → Outcome → Prop), p.tables.exec = Jvm.exec → c.code = bytes → c.maxLocals = maxL → s.vm.findClass y.cls = some m.cls → meth.name = y.name → meth.sig.returnType = ret → meth.locks = false → Z.Warmed39 s.vm →
      Stand p l e rm s m as' below meth c s₁ [] 0 0 → s₁.heap = h → (∀ U v L, Q v U.heap L → FrameEnd s (.returned v) U L rm.cells rm.slots → P U (.returned v)) → Go p.tables e below P (s₁.setTop (entryFrame m as' maxL))) :
    ConH l Z y bytes maxL ret hs ws rm as' h Q := by
  refine MetFree.of_bodySF hpn hisWith ?_
  intro p e s m args below meth c s₁ Bd hml0 hP hK
  obtain ⟨rfl, hZ, hh⟩ := hP
  exact body p e s m below meth c s₁ _ Bd.exec Bd.bytes hml0 (findClass_of_methodNamed Bd.named) (name_of_methodNamed Bd.named Bd.method).1 Bd.returns (BodyLoose.notSynchronized Bd) hZ (Stand.of_body Bd) (by rw [← hh, Bd.state]; rfl) fun U v L q f => ⟨v, L, rfl, q, f⟩
section Walk
variable {p : Program} {l : Launch} {e : Env} {R : Room} {s : State} {m : MethodId} {args : Array Value} {below : List Frame} {meth : Method} {c : Code} {T : State} {locs : List Loc} {cells slots : Nat} {P : State → Outcome → Prop} {Z : State} {a0 : Array Value} {h : Heap}
theorem Go.ret (X : Stand p l e R s m args below meth c T locs cells slots) (hx : p.tables.exec = Jvm.exec) (hlk : meth.locks = false) {pc : Nat} {Ls : Array Slot} {w : Value} {t : FieldType} {i : Instr} {rest : List Value} (hret : meth.sig.returnType = some t) (hn : narrow t w = w)
    (hi : (i = .ireturn ∧ (t = .int ∨ t = .boolean ∨ t = .byte ∨ t = .char ∨ t = .short) ∧ ∃ z, w = .int z) ∨ (i = .lreturn ∧ t = .long ∧ ∃ z, w = .long z) ∨ (i = .dreturn ∧ t = .double ∧ ∃ z, w = .double z) ∨ (i = .freturn ∧ t = .float ∧ ∃ z, w = .float z) ∨ (i = .areturn ∧ t.isReference = true ∧ w.isRef = true))
    (hd : decode c.code pc = .ok (i, 1)) (hP : ∀ U : State, U.heap = T.heap → FrameEnd s (.returned (some w)) U locs cells slots → P U (.returned (some w))) : Go p.tables e below P (T.setTop (mkF m pc Ls (w :: rest))) := by
  obtain ⟨fs, hr, hrun, hended, hW, hsame⟩ := X.leave (v := some w) (fun h => by rw [hret] at h; cases h) hlk
  exact ⟨_, _, retOut X hx hret hn hi hd hr, hrun, hended, hP _ rfl ⟨⟨_, rfl⟩, hW, hsame⟩⟩
theorem Go.retI (X : Stand p l e R s m args below meth c T locs cells slots) (hx : p.tables.exec = Jvm.exec) (hlk : meth.locks = false) {pc : Nat} {Ls : Array Slot} {z : Int32} {rest : List Value} (hret : meth.sig.returnType = some .int)
    (hd : decode c.code pc = .ok (.ireturn, 1)) (hP : ∀ U : State, U.heap = T.heap → FrameEnd s (.returned (some (.int z))) U locs cells slots → P U (.returned (some (.int z)))) : Go p.tables e below P (T.setTop (mkF m pc Ls (.int z :: rest))) :=
  Go.ret X hx hlk hret rfl (Or.inl ⟨rfl, Or.inl rfl, _, rfl⟩) hd hP
theorem Go.retZ (X : Stand p l e R s m args below meth c T locs cells slots) (hx : p.tables.exec = Jvm.exec) (hlk : meth.locks = false) {pc : Nat} {Ls : Array Slot} {z : Int32} {rest : List Value} (hret : meth.sig.returnType = some .boolean) (hz : z = 0 ∨ z = 1)
    (hd : decode c.code pc = .ok (.ireturn, 1)) (hP : ∀ U : State, U.heap = T.heap → FrameEnd s (.returned (some (.int z))) U locs cells slots → P U (.returned (some (.int z)))) : Go p.tables e below P (T.setTop (mkF m pc Ls (.int z :: rest))) :=
  Go.ret X hx hlk hret (by rcases hz with rfl | rfl <;> rfl) (Or.inl ⟨rfl, Or.inr (Or.inl rfl), _, rfl⟩) hd hP
theorem Go.retJ (X : Stand p l e R s m args below meth c T locs cells slots) (hx : p.tables.exec = Jvm.exec) (hlk : meth.locks = false) {pc : Nat} {Ls : Array Slot} {z : Int64} {rest : List Value} (hret : meth.sig.returnType = some .long)
    (hd : decode c.code pc = .ok (.lreturn, 1)) (hP : ∀ U : State, U.heap = T.heap → FrameEnd s (.returned (some (.long z))) U locs cells slots → P U (.returned (some (.long z)))) : Go p.tables e below P (T.setTop (mkF m pc Ls (.long z :: rest))) :=
  Go.ret X hx hlk hret rfl (Or.inr (Or.inl ⟨rfl, rfl, _, rfl⟩)) hd hP
theorem Go.retR (X : Stand p l e R s m args below meth c T locs cells slots) (hx : p.tables.exec = Jvm.exec) (hlk : meth.locks = false) {pc : Nat} {Ls : Array Slot} {w : Value} {t : FieldType} {rest : List Value} (hret : meth.sig.returnType = some t) (ht : t.isReference = true) (hw : w.isRef = true)
    (hd : decode c.code pc = .ok (.areturn, 1)) (hP : ∀ U : State, U.heap = T.heap → FrameEnd s (.returned (some w)) U locs cells slots → P U (.returned (some w))) : Go p.tables e below P (T.setTop (mkF m pc Ls (w :: rest))) :=
  Go.ret X hx hlk hret (by rcases ref_cases hw with rfl | ⟨z, rfl⟩ <;> cases t <;> first | rfl | (cases ht)) (Or.inr (Or.inr (Or.inr (Or.inr ⟨rfl, ht, hw⟩)))) hd hP
theorem Go.retV (X : Stand p l e R s m args below meth c T locs cells slots) (hx : p.tables.exec = Jvm.exec) (hlk : meth.locks = false) {pc : Nat} {Ls : Array Slot} (hret : meth.sig.returnType = none)
    (hd : decode c.code pc = .ok (.return_, 1)) (hP : ∀ U : State, U.heap = T.heap → FrameEnd s (.returned none) U locs cells slots → P U (.returned none)) : Go p.tables e below P (T.setTop (mkF m pc Ls [])) := by
  obtain ⟨fs, hr, hrun, hended, hW, hsame⟩ := X.leave (v := none) (fun _ => rfl) hlk
  exact ⟨_, _, X.returnOut hx hret hd hr, hrun, hended, hP _ rfl ⟨⟨_, rfl⟩, hW, hsame⟩⟩
theorem Con.static {y : MethodName} {bytes : ByteArray} {maxL : Nat} {ret : Option FieldType} {rm : Room} {as' : Array Value} {Q : Option Value → Heap → List Loc → Prop} (C : Con l Z y bytes maxL ret [] rm as' h Q)
    (X : Stand p l e R s m args below meth c T locs cells slots) (hx : p.tables.exec = Jvm.exec) (hZ : Z.Warmed39 s.vm) {own : String} {index W : Nat} (hown : s.vm.findClass own = some m.cls)
    (wl : (Cond.methodLink own index y).before a0 Z = true) (wst : (Cond.static y).before a0 Z = true) (wz : (Cond.initialized y.cls).before a0 Z = true) (wc : (Cond.code y bytes maxL ret).before a0 Z = true)
    (hy : y.cls ≠ "java/lang/invoke/MethodHandle" ∧ y.cls ≠ "java/lang/invoke/VarHandle") (hf : rm.frames + 1 ≤ R.frames) (hl : W + (maxL + 11) + rm.locals ≤ R.locals) (hce : cells + rm.cells ≤ R.cells) (hsl : slots + rm.slots ≤ R.slots) (eT : T.heap = h)
    {g : JFrame} (hg : g.method = m) (hsize : g.locals.size = c.maxLocals) {argsL rest : List Value} (has : argsL.toArray = as') (hlen : ∀ sig, parseMethodDescriptor y.desc = some sig → argsL.length = sig.parameters.length)
    (hstack : g.stack = argsL.reverse ++ rest) (hW : 2 * g.monitorRoom + (rest.map fun v => v.category).sum ≤ W) (hdg : decode c.code g.pc = .ok (.invokestatic index, 3)) :
    ∃ (v : Option Value) (T' : State) (L : List Loc), Stand p l e R s m args below meth c T' (locs ++ L) (cells + rm.cells) (slots + rm.slots) ∧ Q v T'.heap L ∧
      ∀ {t : State}, Steps p.tables e below (T'.setTop { g with pc := g.pc + 3, stack := v.toList ++ rest }) t → Steps p.tables e below (T.setTop g) t := by
  obtain ⟨v, vm₁, ⟨T', L', k', n'⟩, -, X', ⟨L, hQ, e1, e2, e3⟩, st⟩ := Jvm.LawKit.callS X hx hown (mvT hZ wl) (mvT hZ wst) (mvT hZ wz) (mvT hZ wc) hy (backOf (W := W) C hZ wc wz hf hl) hg hsize hlen hstack hW hdg (fun _ _ => ⟨has, eT, hce, hsl⟩)
  dsimp only [Pt.U, Pt.locs, Pt.cells, Pt.slots] at X' e1 e2 e3 st hQ
  subst e1 e2 e3
  exact ⟨v, T', L, X', hQ, fun {t} k => st t k⟩
theorem Con.special {y : MethodName} {bytes : ByteArray} {maxL : Nat} {rm : Room} {as' : Array Value} {Q : Option Value → Heap → List Loc → Prop} (C : Con l Z y bytes maxL none [] rm as' h Q) (hy1 : y.name = "<init>")
    (X : Stand p l e R s m args below meth c T locs cells slots) (hx : p.tables.exec = Jvm.exec) (hZ : Z.Warmed39 s.vm) {own : String} {index W : Nat} (hown : s.vm.findClass own = some m.cls)
    (wl : (Cond.methodLink own index y).before a0 Z = true) (wi : (Cond.instanceMethod y).before a0 Z = true) (wz : (Cond.initialized y.cls).before a0 Z = true) (wc : (Cond.code y bytes maxL none).before a0 Z = true)
    (hy : y.cls ≠ "java/lang/invoke/MethodHandle" ∧ y.cls ≠ "java/lang/invoke/VarHandle") (hf : rm.frames + 1 ≤ R.frames) (hl : W + (maxL + 11) + rm.locals ≤ R.locals) (hce : cells + rm.cells ≤ R.cells) (hsl : slots + rm.slots ≤ R.slots) (eT : T.heap = h)
    {g : JFrame} (hg : g.method = m) (hsize : g.locals.size = c.maxLocals) {a : Addr} {argsL rest : List Value} (has : (Value.ref a :: argsL).toArray = as') (hlen : ∀ sig, parseMethodDescriptor y.desc = some sig → argsL.length = sig.parameters.length)
    (hstack : g.stack = argsL.reverse ++ .ref a :: rest) (hW : 2 * g.monitorRoom + (rest.map fun v => v.category).sum ≤ W) (hdg : decode c.code g.pc = .ok (.invokespecial index, 3)) :
    ∃ (v : Option Value) (T' : State) (L : List Loc), Stand p l e R s m args below meth c T' (locs ++ L) (cells + rm.cells) (slots + rm.slots) ∧ Q v T'.heap L ∧
      ∀ {t : State}, Steps p.tables e below (T'.setTop { g with pc := g.pc + 3, stack := v.toList ++ rest }) t → Steps p.tables e below (T.setTop g) t := by
  obtain ⟨v, vm₁, ⟨T', L', k', n'⟩, -, X', ⟨L, hQ, e1, e2, e3⟩, st⟩ := X.specialBack hx hy1 hown (mvT hZ wl) (mvT hZ wi) (mvT hZ wc) hy (backOf (W := W) C hZ wc wz hf hl) hg hsize (Steps.refl _) hlen hstack hW hdg (fun _ _ => ⟨has, eT, hce, hsl⟩)
  dsimp only [Pt.U, Pt.locs, Pt.cells, Pt.slots] at X' e1 e2 e3 st hQ
  subst e1 e2 e3
  exact ⟨v, T', L, X', hQ, fun {t} k => st.trans k⟩
theorem ConH.special {y : MethodName} {bytes : ByteArray} {maxL : Nat} {rm : Room} {as' : Array Value} {Q : Option Value → Heap → List Loc → Prop} {hs : List (Nat × Nat × Nat × Nat)} (C : ConH l Z y bytes maxL none hs [] rm as' h Q) (hy1 : y.name = "<init>")
    (X : Stand p l e R s m args below meth c T locs cells slots) (hx : p.tables.exec = Jvm.exec) (hZ : Z.Warmed39 s.vm) {own : String} {index W : Nat} (hown : s.vm.findClass own = some m.cls)
    (wl : (Cond.methodLink own index y).before a0 Z = true) (wi : (Cond.instanceMethod y).before a0 Z = true) (wz : (Cond.initialized y.cls).before a0 Z = true) (wc : (Cond.codeWith y bytes maxL none hs).before a0 Z = true)
    (hy : y.cls ≠ "java/lang/invoke/MethodHandle" ∧ y.cls ≠ "java/lang/invoke/VarHandle") (hf : rm.frames + 1 ≤ R.frames) (hl : W + (maxL + 11) + rm.locals ≤ R.locals) (hce : cells + rm.cells ≤ R.cells) (hsl : slots + rm.slots ≤ R.slots) (eT : T.heap = h)
    {g : JFrame} (hg : g.method = m) (hsize : g.locals.size = c.maxLocals) {a : Addr} {argsL rest : List Value} (has : (Value.ref a :: argsL).toArray = as') (hlen : ∀ sig, parseMethodDescriptor y.desc = some sig → argsL.length = sig.parameters.length)
    (hstack : g.stack = argsL.reverse ++ .ref a :: rest) (hW : 2 * g.monitorRoom + (rest.map fun v => v.category).sum ≤ W) (hdg : decode c.code g.pc = .ok (.invokespecial index, 3)) :
    ∃ (v : Option Value) (T' : State) (L : List Loc), Stand p l e R s m args below meth c T' (locs ++ L) (cells + rm.cells) (slots + rm.slots) ∧ Q v T'.heap L ∧
      ∀ {t : State}, Steps p.tables e below (T'.setTop { g with pc := g.pc + 3, stack := v.toList ++ rest }) t → Steps p.tables e below (T.setTop g) t := by
  obtain ⟨v, vm₁, ⟨T', L', k', n'⟩, -, X', ⟨L, hQ, e1, e2, e3⟩, st⟩ := X.specialBackH hx hy1 hown (mvT hZ wl) (mvT hZ wi) (mvT hZ wc) hy (backOfWith (W := W) C hZ wc wz hf hl) hg hsize (Steps.refl _) hlen hstack hW hdg (fun _ _ => ⟨has, eT, hce, hsl⟩)
  dsimp only [Pt.U, Pt.locs, Pt.cells, Pt.slots] at X' e1 e2 e3 st hQ
  subst e1 e2 e3
  exact ⟨v, T', L, X', hQ, fun {t} k => st.trans k⟩
theorem Con.virtual {y : MethodName} {bytes : ByteArray} {maxL : Nat} {ret : Option FieldType} {rm : Room} {as' : Array Value} {Q : Option Value → Heap → List Loc → Prop} (K : Con l Z y bytes maxL ret [] rm as' h Q)
    (X : Stand p l e R s m args below meth c T locs cells slots) (hx : p.tables.exec = Jvm.exec) (hZ : Z.Warmed39 s.vm) {own C : String} {index W : Nat} (hown : s.vm.findClass own = some m.cls)
    (wl : (Cond.methodLink own index y).before a0 Z = true) (wd : (Cond.declares y).before a0 Z = true) (wsel : (Cond.selects C y y).before a0 Z = true) (wi : (Cond.instanceMethod y).before a0 Z = true) (wz : (Cond.initialized y.cls).before a0 Z = true) (wc : (Cond.code y bytes maxL ret).before a0 Z = true)
    (hy : y.cls ≠ "java/lang/invoke/MethodHandle" ∧ y.cls ≠ "java/lang/invoke/VarHandle") (hf : rm.frames + 1 ≤ R.frames) (hl : W + (maxL + 11) + rm.locals ≤ R.locals) (hce : cells + rm.cells ≤ R.cells) (hsl : slots + rm.slots ≤ R.slots) (eT : T.heap = h)
    {g : JFrame} (hg : g.method = m) (hsize : g.locals.size = c.maxLocals) {a : Addr} (E : Exa Z h a C) {argsL rest : List Value} (has : (Value.ref a :: argsL).toArray = as') (hlen : ∀ sig, parseMethodDescriptor y.desc = some sig → argsL.length = sig.parameters.length)
    (hstack : g.stack = argsL.reverse ++ .ref a :: rest) (hW : 2 * g.monitorRoom + (rest.map fun v => v.category).sum ≤ W) (hdg : decode c.code g.pc = .ok (.invokevirtual index, 3)) :
    ∃ (v : Option Value) (T' : State) (L : List Loc), Stand p l e R s m args below meth c T' (locs ++ L) (cells + rm.cells) (slots + rm.slots) ∧ Q v T'.heap L ∧
      ∀ {t : State}, Steps p.tables e below (T'.setTop { g with pc := g.pc + 3, stack := v.toList ++ rest }) t → Steps p.tables e below (T.setTop g) t := by
  obtain ⟨cq, kq, qa, qb, qc⟩ := isOf hZ eT E
  obtain ⟨v, vm₁, ⟨T', L', k', n'⟩, -, X', ⟨L, hQ, e1, e2, e3⟩, st⟩ := X.virtualBack hx hown (mvT hZ wl) (mvT hZ wd) (notFace_of_selects (args := #[]) (mvT hZ wsel)) (mvT hZ wsel) (mvT hZ wi) hy (backOf (W := W) K hZ wc wz hf hl) qa qc hg hsize (Steps.refl _) hlen hstack hW hdg (fun _ _ => ⟨has, eT, hce, hsl⟩)
  dsimp only [Pt.U, Pt.locs, Pt.cells, Pt.slots] at X' e1 e2 e3 st hQ
  subst e1 e2 e3
  exact ⟨v, T', L, X', hQ, fun {t} k => st.trans k⟩
theorem Con.priv {y : MethodName} {bytes : ByteArray} {maxL : Nat} {ret : Option FieldType} {rm : Room} {as' : Array Value} {Q : Option Value → Heap → List Loc → Prop} (K : Con l Z y bytes maxL ret [] rm as' h Q)
    (X : Stand p l e R s m args below meth c T locs cells slots) (hx : p.tables.exec = Jvm.exec) (hZ : Z.Warmed39 s.vm) {own C : String} {index W kk : Nat} (hown : s.vm.findClass own = some m.cls)
    (wl : (Cond.methodLink own index y).before a0 Z = true) (wn : (Cond.instantiable y.cls kk).before a0 Z = true) (wp : (Cond.privateMethod y).before a0 Z = true) (wi : (Cond.instanceMethod y).before a0 Z = true) (wz : (Cond.initialized y.cls).before a0 Z = true) (wc : (Cond.code y bytes maxL ret).before a0 Z = true)
    (hy : y.cls ≠ "java/lang/invoke/MethodHandle" ∧ y.cls ≠ "java/lang/invoke/VarHandle") (hf : rm.frames + 1 ≤ R.frames) (hl : W + (maxL + 11) + rm.locals ≤ R.locals) (hce : cells + rm.cells ≤ R.cells) (hsl : slots + rm.slots ≤ R.slots) (eT : T.heap = h)
    {g : JFrame} (hg : g.method = m) (hsize : g.locals.size = c.maxLocals) {a : Addr} (E : Exa Z h a C) {argsL rest : List Value} (has : (Value.ref a :: argsL).toArray = as') (hlen : ∀ sig, parseMethodDescriptor y.desc = some sig → argsL.length = sig.parameters.length)
    (hstack : g.stack = argsL.reverse ++ .ref a :: rest) (hW : 2 * g.monitorRoom + (rest.map fun v => v.category).sum ≤ W) (hdg : decode c.code g.pc = .ok (.invokevirtual index, 3)) :
    ∃ (v : Option Value) (T' : State) (L : List Loc), Stand p l e R s m args below meth c T' (locs ++ L) (cells + rm.cells) (slots + rm.slots) ∧ Q v T'.heap L ∧
      ∀ {t : State}, Steps p.tables e below (T'.setTop { g with pc := g.pc + 3, stack := v.toList ++ rest }) t → Steps p.tables e below (T.setTop g) t := by
  have hpa : s.PrivateAt y := Cond.privateMethod_at (mvP hZ wp (args := args))
  have win : (Cond.instanceMethod y).before args s = true := mvT hZ wi
  have wnn : (Cond.instantiable y.cls kk).before args s = true := mvT hZ wn
  obtain ⟨ci, ki, i1, i2, i3, i4, -⟩ := Cond.instantiable_spec wnn
  have hni : ki.isInterface = false := (Bool.or_eq_false_iff.mp i4).1
  obtain ⟨cl, hcl, hob⟩ := E.cell
  obtain ⟨v, vm₁, ⟨T', L', k', n'⟩, -, X', ⟨L, hQ, e1, e2, e3⟩, st⟩ := X.privateBack hx hown (mvT hZ wl) win (selects_self_of_private i1 i2 hni hpa win hy) hpa (mvT hZ wc) hy (backOf (W := W) K hZ wc wz hf hl) hg hsize (Steps.refl _) (by rw [eT]; exact hcl) hob hlen hstack hW hdg (fun _ _ => ⟨has, eT, hce, hsl⟩)
  dsimp only [Pt.U, Pt.locs, Pt.cells, Pt.slots] at X' e1 e2 e3 st hQ
  subst e1 e2 e3
  exact ⟨v, T', L, X', hQ, fun {t} k => st.trans k⟩
theorem Con.virtualUp {x z : MethodName} {bytes : ByteArray} {maxL : Nat} {ret : Option FieldType} {rm : Room} {as' : Array Value} {Q : Option Value → Heap → List Loc → Prop} (K : Con l Z z bytes maxL ret [] rm as' h Q)
    (X : Stand p l e R s m args below meth c T locs cells slots) (hx : p.tables.exec = Jvm.exec) (hZ : Z.Warmed39 s.vm) {own C owner : String} {index W : Nat} (hown : s.vm.findClass own = some m.cls)
    (wl : (Cond.methodLink own index x).before a0 Z = true) (wsm : (Cond.sameMethod x.cls owner x.name x.desc).before a0 Z = true) (wd : (Cond.declares ⟨owner, x.name, x.desc⟩).before a0 Z = true) (wsel : (Cond.selects C x z).before a0 Z = true) (wi : (Cond.instanceMethod z).before a0 Z = true) (wz : (Cond.initialized z.cls).before a0 Z = true) (wc : (Cond.code z bytes maxL ret).before a0 Z = true)
    (ho : owner ≠ "java/lang/invoke/MethodHandle" ∧ owner ≠ "java/lang/invoke/VarHandle") (hf : rm.frames + 1 ≤ R.frames) (hl : W + (maxL + 11) + rm.locals ≤ R.locals) (hce : cells + rm.cells ≤ R.cells) (hsl : slots + rm.slots ≤ R.slots) (eT : T.heap = h)
    {g : JFrame} (hg : g.method = m) (hsize : g.locals.size = c.maxLocals) {a : Addr} (E : Exa Z h a C) {argsL rest : List Value} (has : (Value.ref a :: argsL).toArray = as') (hlen : ∀ sig, parseMethodDescriptor x.desc = some sig → argsL.length = sig.parameters.length)
    (hstack : g.stack = argsL.reverse ++ .ref a :: rest) (hW : 2 * g.monitorRoom + (rest.map fun v => v.category).sum ≤ W) (hdg : decode c.code g.pc = .ok (.invokevirtual index, 3)) :
    ∃ (v : Option Value) (T' : State) (L : List Loc), Stand p l e R s m args below meth c T' (locs ++ L) (cells + rm.cells) (slots + rm.slots) ∧ Q v T'.heap L ∧
      ∀ {t : State}, Steps p.tables e below (T'.setTop { g with pc := g.pc + 3, stack := v.toList ++ rest }) t → Steps p.tables e below (T.setTop g) t := by
  obtain ⟨cq, kq, qa, qb, qc⟩ := isOf hZ eT E
  obtain ⟨v, vm₁, ⟨T', L', k', n'⟩, -, X', ⟨L, hQ, e1, e2, e3⟩, st⟩ := X.virtualBackUp hx hown (mvT hZ wl) (mvT hZ wsm) (mvT hZ wd) ho (mvT hZ wsel) (mvT hZ wi) (backOf (W := W) K hZ wc wz hf hl) qa qc hg hsize (Steps.refl _) hlen hstack hW hdg (fun _ _ => ⟨has, eT, hce, hsl⟩)
  dsimp only [Pt.U, Pt.locs, Pt.cells, Pt.slots] at X' e1 e2 e3 st hQ
  subst e1 e2 e3
  exact ⟨v, T', L, X', hQ, fun {t} k => st.trans k⟩
/-- the cell of an object is one that the model knows -/
def Kn (h : Heap) (a : Addr) : Prop := ∃ cell : Cell, h[a]? = some cell ∧ cell.vm ≠ .unknown
theorem Kn.of_new {h' : Heap} {a : Addr} (u : ∃ cell : Cell, h'[a]? = some cell ∧ cell.vm = .none ∧ cell.monitor = {}) : Kn h' a := by obtain ⟨c, h1, h2, -⟩ := u; exact ⟨c, h1, by rw [h2]; simp⟩
theorem Kn.ext {h h' : Heap} {a : Addr} (F : Kn h a) (E : Ext h h') : Kn h' a := by obtain ⟨c, h1, h2⟩ := F; exact ⟨c, E.2 _ _ h1, h2⟩
theorem Kn.keep {h h' : Heap} {a : Addr} {ws : List Addr} (F : Kn h a) (K : Keep h h' ws) : Kn h' a := by
  obtain ⟨c, h1, h2⟩ := F; obtain ⟨c', q, -, q2, -⟩ := K.2.2 a c h1; exact ⟨c', q, by rw [q2]; exact h2⟩
theorem Kn.wr {h h' : Heap} {a b : Addr} {sl : Nat} {v : Value} (F : Kn h a) (W : Wr h h' b sl v) : Kn h' a := F.keep (Keep.of_wr W)
theorem Kn.fld {h : Heap} {a : Addr} {O n d : String} {v : Value} {Z : State} (F : Fld Z h a O n d v) : Kn h a := by obtain ⟨c, _, _, _, _, h1, -, -, h4, -⟩ := F; exact ⟨c, h1, h4⟩
theorem lremM {g : JFrame} {target : State} (X : Stand p l e R s m args below meth c T locs cells slots) (hx : p.tables.exec = Jvm.exec) (hg : g.method = m) {x y : Int64} {rest : List Value} (hd : decode c.code g.pc = .ok (.lrem, 1)) (hs : g.stack = .long y :: .long x :: rest) (hy : y ≠ 0)
    (hr : Steps p.tables e below (T.setTop { g with pc := g.pc + 1, stack := .long (x % y) :: rest }) target) : Steps p.tables e below (T.setTop g) target := by
  exact XT.lrem X.here hx hg hd hs hy (by rw [lrem_mod]; exact hr)
theorem Sta.own_keep {Z : State} {h h' : Heap} {C n d : String} {v : Value} {ws : List Addr} (F : Sta Z h C n d v) (K : Keep h h' ws) (q : ∀ a ∈ ws, ∃ C', Exa Z h a C') : Sta Z h' C n d v := by
  obtain ⟨cf, i, k, f, st, cell, h1, h2, h3, h4, h5, h6, h7⟩ := F
  refine ⟨cf, i, k, f, st, cell, h1, h2, h3, h4, K.2.1 st cell h5 fun hm => ?_, h6, h7⟩
  obtain ⟨C', c2, _, g1, -, -, g4, -⟩ := q st hm
  cases h5.symm.trans g1
  rw [h6] at g4; cases g4
theorem own_nar {t : FieldType} {v : Value} (h : v.isRef = true) (ht : t.isReference = true) : narrow t v = v := by
  rcases ref_cases h with rfl | ⟨z, rfl⟩ <;> cases t <;> first | rfl | (cases ht)
theorem own_fit {t : FieldType} {v : Value} (h : v.isRef = true) (ht : t.isReference = true) : fits t v = true := by
  rcases ref_cases h with rfl | ⟨z, rfl⟩ <;> cases t <;> first | rfl | (cases ht)
theorem own_eq_int {t : Term} {k : Int32} {args : Array Value} {first s : State} {o : Option Outcome} {idx : List Nat} (h : (Cond.eq t (Term.int k)).value args first o s idx = some true) : t.eval args first o idx s = some (.int k) := by
  simp only [Cond.value, Term.eval] at h
  cases ht : t.eval args first o idx s with
  | none => simp [ht] at h
  | some x => cases x <;> simp [ht] at h ⊢; exact h
theorem pop2L {g : JFrame} {target : State} (X : Stand p l e R s m args below meth c T locs cells slots) (hx : p.tables.exec = Jvm.exec) (hg : g.method = m) {x : Int64} {rest : List Value} (hd : decode c.code g.pc = .ok (.pop2, 1)) (hs : g.stack = .long x :: rest)
    (hr : Steps p.tables e below (T.setTop { g with pc := g.pc + 1, stack := rest }) target) : Steps p.tables e below (T.setTop g) target := by
  subst hg
  jvm_step X.here [X.here.top, hx, hd, Op.pop2.wp_sem, hs, Value.category]
  exact hr
theorem own_tdiv (D k : Int) : (0 ≤ D ∧ D.tdiv k = D / k) ∨ (D < 0 ∧ D.tdiv k = -((-D) / k)) := by
  rcases Int.lt_or_le D 0 with h | h
  · refine Or.inr ⟨h, ?_⟩
    have e : D.tdiv k = -((-D).tdiv k) := by rw [Int.neg_tdiv]; omega
    rw [e, Int.tdiv_eq_ediv_of_nonneg (by omega)]
  · exact Or.inl ⟨h, Int.tdiv_eq_ediv_of_nonneg h⟩
theorem own_tmod (D k : Int) : (0 ≤ D ∧ D.tmod k = D % k) ∨ (D < 0 ∧ D.tmod k = -((-D) % k)) := by
  rcases Int.lt_or_le D 0 with h | h
  · refine Or.inr ⟨h, ?_⟩
    have e : D.tmod k = -((-D).tmod k) := by rw [Int.neg_tmod]; omega
    rw [e, Int.tmod_eq_emod_of_nonneg (by omega)]
  · exact Or.inl ⟨h, Int.tmod_eq_emod_of_nonneg h⟩
end Walk
end Jvm.OwnKit
namespace Jvm.Pilot.@@N@@
open Jvm Jvm.ClassFile Sem Op Lib Jvm.Free Jvm.Stand Jvm.LawKit Jvm.RoadKit Bundle Jvm.Pilot.@@N@@.Jvm.D Jvm.OwnKit
def own_f1 (x : Int32) (y : Int32) : Int32 := (if x < y then y else x)
theorem own_ef1 (m : MethodId) (x : Int32) (y : Int32) : entryFrame m #[(.int x), (.int y)] 2 = mkF m 0 #[.val (.int x), .val (.int y)] [] := by
  (first | (simp [entryFrame, mkF, argsToLocals, Value.category]; done) | rfl)
theorem own_d1_0 : decode jdk_29_method_65_code 0 = .ok (.iload_n 0, 1) := by decide +kernel
theorem own_d1_1 : decode jdk_29_method_65_code 1 = .ok (.iload_n 1, 1) := by decide +kernel
theorem own_d1_2 : decode jdk_29_method_65_code 2 = .ok (.if_icmp .lt 7, 3) := by decide +kernel
theorem own_d1_9 : decode jdk_29_method_65_code 9 = .ok (.iload_n 1, 1) := by decide +kernel
theorem own_d1_10 : decode jdk_29_method_65_code 10 = .ok (.ireturn, 1) := by decide +kernel
theorem own_d1_5 : decode jdk_29_method_65_code 5 = .ok (.iload_n 0, 1) := by decide +kernel
theorem own_d1_6 : decode jdk_29_method_65_code 6 = .ok (.goto 4, 3) := by decide +kernel
set_option maxRecDepth 65536 in
set_option maxHeartbeats 40000000 in
theorem own_rm1 (l : Launch) (Z : State) (a0 : Array Value) (hw : ∀ d ∈ tables_1, d.before a0 Z = true) (ws : List Jvm.Cond) (x : Int32) (y : Int32) (h0 : Heap) (n0 : Nat) (Z0 : n0 ≤ h0.size)   :
    Con l Z (⟨"java/lang/Math", "max", "(II)I"⟩ : MethodName) jdk_29_method_65_code 2 (some .int) ws ({ frames := 0, cells := 0, slots := 0, locals := 0 } : Room) #[(.int x), (.int y)] h0 (fun v h L => v = some (.int (own_f1 x y)) ∧ Fr n0 L ∧ h = h0) := by
  refine Con.intro (Jvm.Free.JP.mathPlain rfl (by decide +kernel)) ?_
  intro p e s m below meth c s₁ P hx hby hml hown hnm hret hlk hZ X0 e0 hP
  have N0 := Fr.nil n0
  have hown : s.vm.findClass "java/lang/Math" = some m.cls := hown
  refine Go.cast (own_ef1 m x y) ?_
  show Go p.tables e below P (s₁.setTop (mkF m 0 #[.val (.int x), .val (.int y)] []))
  refine Go.s (fun k => XS.iloadN X0.here hx rfl (hb hby own_d1_0) rfl k) ?_
  show Go p.tables e below P (s₁.setTop (mkF m 1 #[.val (.int x), .val (.int y)] [(.int x)]))
  refine Go.s (fun k => XS.iloadN X0.here hx rfl (hb hby own_d1_1) rfl k) ?_
  show Go p.tables e below P (s₁.setTop (mkF m 2 #[.val (.int x), .val (.int y)] [(.int y), (.int x)]))
  by_cases hc2 : x < y
  · skip
    refine Go.s (fun k => XS.icmpYes X0.here hx rfl (pc0 := 2) (pc' := 9) rfl (hb hby own_d1_2) rfl (XT.ii_lt_t hc2) (by decide) (by decide) k) ?_
    show Go p.tables e below P (s₁.setTop (mkF m 9 #[.val (.int x), .val (.int y)] []))
    refine Go.s (fun k => XS.iloadN X0.here hx rfl (hb hby own_d1_9) rfl k) ?_
    show Go p.tables e below P (s₁.setTop (mkF m 10 #[.val (.int x), .val (.int y)] [(.int y)]))
    exact Go.retI X0 hx hlk hret (hb hby own_d1_10) (fun U hU hF => hP U _ _ (by rw [hU, e0]; exact ⟨congrArg some (congrArg Value.int (Eq.symm (by rw [own_f1]; rw [if_pos hc2]))), N0, rfl⟩) ⟨hF.1, hF.2.1, hF.2.2.mono (by decide) (by decide)⟩)
  · skip
    refine Go.s (fun k => XS.icmpNo X0.here hx rfl (hb hby own_d1_2) rfl (XT.ii_lt_f hc2) k) ?_
    show Go p.tables e below P (s₁.setTop (mkF m 5 #[.val (.int x), .val (.int y)] []))
    refine Go.s (fun k => XS.iloadN X0.here hx rfl (hb hby own_d1_5) rfl k) ?_
    show Go p.tables e below P (s₁.setTop (mkF m 6 #[.val (.int x), .val (.int y)] [(.int x)]))
    refine Go.s (fun k => XS.goto X0.here hx rfl (pc0 := 6) (pc' := 10) rfl (hb hby own_d1_6) (by decide) (by decide) k) ?_
    show Go p.tables e below P (s₁.setTop (mkF m 10 #[.val (.int x), .val (.int y)] [(.int x)]))
    exact Go.retI X0 hx hlk hret (hb hby own_d1_10) (fun U hU hF => hP U _ _ (by rw [hU, e0]; exact ⟨congrArg some (congrArg Value.int (Eq.symm (by rw [own_f1]; rw [if_neg hc2]))), N0, rfl⟩) ⟨hF.1, hF.2.1, hF.2.2.mono (by decide) (by decide)⟩)
-- (checkBudget returns nothing)
theorem own_ef2 (m : MethodId) (fe : Int32) (po : Int64) : entryFrame m #[(.int fe), (.long po)] 5 = mkF m 0 #[.val (.int fe), .val (.long po), .second, .unset, .unset] [] := by
  (first | (simp [entryFrame, mkF, argsToLocals, Value.category]; done) | rfl)
theorem own_pn_0 : plainName "com/example/tempo_feed/tempofeed/core/PollingPolicy" = true := by first | (simp [plainName, overriddenIn]; done) | decide +kernel
theorem own_d2_0 : decode prog_19_method_9_code 0 = .ok (.iload_n 0, 1) := by decide +kernel
theorem own_d2_1 : decode prog_19_method_9_code 1 = .ok (.i2l, 1) := by decide +kernel
theorem own_d2_2 : decode prog_19_method_9_code 2 = .ok (.ldc2_w 166, 3) := by decide +kernel
theorem own_d2_5 : decode prog_19_method_9_code 5 = .ok (.lmul, 1) := by decide +kernel
theorem own_d2_6 : decode prog_19_method_9_code 6 = .ok (.lstore_n 3, 1) := by decide +kernel
theorem own_d2_7 : decode prog_19_method_9_code 7 = .ok (.lload_n 1, 1) := by decide +kernel
theorem own_d2_8 : decode prog_19_method_9_code 8 = .ok (.iload_n 0, 1) := by decide +kernel
theorem own_d2_9 : decode prog_19_method_9_code 9 = .ok (.i2l, 1) := by decide +kernel
theorem own_d2_10 : decode prog_19_method_9_code 10 = .ok (.lcmp, 1) := by decide +kernel
theorem own_d2_11 : decode prog_19_method_9_code 11 = .ok (.ifCond .lt 9, 3) := by decide +kernel
theorem own_d2_14 : decode prog_19_method_9_code 14 = .ok (.lload_n 1, 1) := by decide +kernel
theorem own_d2_15 : decode prog_19_method_9_code 15 = .ok (.lload_n 3, 1) := by decide +kernel
theorem own_d2_16 : decode prog_19_method_9_code 16 = .ok (.lcmp, 1) := by decide +kernel
theorem own_d2_17 : decode prog_19_method_9_code 17 = .ok (.ifCond .le 32, 3) := by decide +kernel
theorem own_d2_49 : decode prog_19_method_9_code 49 = .ok (.return_, 1) := by decide +kernel
set_option maxRecDepth 65536 in
set_option maxHeartbeats 40000000 in
theorem own_rm2 (l : Launch) (Z : State) (a0 : Array Value) (hw : ∀ d ∈ tables_1, d.before a0 Z = true) (ws : List Jvm.Cond) (fe : Int32) (po : Int64) (h0 : Heap) (n0 : Nat) (Z0 : n0 ≤ h0.size)  (hp1 : ¬ po < fe.toInt64) (hp2 : ¬ fe.toInt64 * 86400 < po) :
    Con l Z (⟨"com/example/tempo_feed/tempofeed/core/PollingPolicy", "checkBudget", "(IJ)V"⟩ : MethodName) prog_19_method_9_code 5 none ws ({ frames := 0, cells := 0, slots := 0, locals := 0 } : Room) #[(.int fe), (.long po)] h0 (fun v h L => v = none ∧ Fr n0 L ∧ h = h0) := by
  refine Con.intro (plainFor_of_name own_pn_0) ?_
  intro p e s m below meth c s₁ P hx hby hml hown hnm hret hlk hZ X0 e0 hP
  have N0 := Fr.nil n0
  have hown : s.vm.findClass "com/example/tempo_feed/tempofeed/core/PollingPolicy" = some m.cls := hown
  refine Go.cast (own_ef2 m fe po) ?_
  show Go p.tables e below P (s₁.setTop (mkF m 0 #[.val (.int fe), .val (.long po), .second, .unset, .unset] []))
  refine Go.s (fun k => XS.iloadN X0.here hx rfl (hb hby own_d2_0) rfl k) ?_
  show Go p.tables e below P (s₁.setTop (mkF m 1 #[.val (.int fe), .val (.long po), .second, .unset, .unset] [(.int fe)]))
  refine Go.s (fun k => XT.i2l X0.here hx rfl (hb hby own_d2_1) rfl k) ?_
  show Go p.tables e below P (s₁.setTop (mkF m 2 #[.val (.int fe), .val (.long po), .second, .unset, .unset] [(.long fe.toInt64)]))
  refine Go.s (fun k => X0.ldc2J hx hown (mvT hZ (hw _ (List.mem_of_getElem? (i := 10) rfl))) rfl (hb hby own_d2_2) k) ?_
  show Go p.tables e below P (s₁.setTop (mkF m 5 #[.val (.int fe), .val (.long po), .second, .unset, .unset] [(.long (86400 : Int64)), (.long fe.toInt64)]))
  refine Go.s (fun k => XT.lmul X0.here hx rfl (hb hby own_d2_5) rfl k) ?_
  show Go p.tables e below P (s₁.setTop (mkF m 6 #[.val (.int fe), .val (.long po), .second, .unset, .unset] [(.long (fe.toInt64 * (86400 : Int64)))]))
  refine Go.s (fun k => XT.lstoreN X0.here hx rfl (hb hby own_d2_6) rfl (l' := #[.val (.int fe), .val (.long po), .second, .val (.long (fe.toInt64 * (86400 : Int64))), .second]) rfl k) ?_
  show Go p.tables e below P (s₁.setTop (mkF m 7 #[.val (.int fe), .val (.long po), .second, .val (.long (fe.toInt64 * (86400 : Int64))), .second] []))
  refine Go.s (fun k => XT.lloadN X0.here hx rfl (hb hby own_d2_7) rfl k) ?_
  show Go p.tables e below P (s₁.setTop (mkF m 8 #[.val (.int fe), .val (.long po), .second, .val (.long (fe.toInt64 * (86400 : Int64))), .second] [(.long po)]))
  refine Go.s (fun k => XS.iloadN X0.here hx rfl (hb hby own_d2_8) rfl k) ?_
  show Go p.tables e below P (s₁.setTop (mkF m 9 #[.val (.int fe), .val (.long po), .second, .val (.long (fe.toInt64 * (86400 : Int64))), .second] [(.int fe), (.long po)]))
  refine Go.s (fun k => XT.i2l X0.here hx rfl (hb hby own_d2_9) rfl k) ?_
  show Go p.tables e below P (s₁.setTop (mkF m 10 #[.val (.int fe), .val (.long po), .second, .val (.long (fe.toInt64 * (86400 : Int64))), .second] [(.long fe.toInt64), (.long po)]))
  refine Go.s (fun k => XT.lcmp X0.here hx rfl (hb hby own_d2_10) rfl k) ?_
  show Go p.tables e below P (s₁.setTop (mkF m 11 #[.val (.int fe), .val (.long po), .second, .val (.long (fe.toInt64 * (86400 : Int64))), .second] [(.int (XT.cmpL po fe.toInt64))]))
  refine Go.s (fun k => XS.ifNo X0.here hx rfl (hb hby own_d2_11) rfl (XT.ll_lt_f hp1) k) ?_
  show Go p.tables e below P (s₁.setTop (mkF m 14 #[.val (.int fe), .val (.long po), .second, .val (.long (fe.toInt64 * (86400 : Int64))), .second] []))
  refine Go.s (fun k => XT.lloadN X0.here hx rfl (hb hby own_d2_14) rfl k) ?_
  show Go p.tables e below P (s₁.setTop (mkF m 15 #[.val (.int fe), .val (.long po), .second, .val (.long (fe.toInt64 * (86400 : Int64))), .second] [(.long po)]))
  refine Go.s (fun k => XT.lloadN X0.here hx rfl (hb hby own_d2_15) rfl k) ?_
  show Go p.tables e below P (s₁.setTop (mkF m 16 #[.val (.int fe), .val (.long po), .second, .val (.long (fe.toInt64 * (86400 : Int64))), .second] [(.long (fe.toInt64 * (86400 : Int64))), (.long po)]))
  refine Go.s (fun k => XT.lcmp X0.here hx rfl (hb hby own_d2_16) rfl k) ?_
  show Go p.tables e below P (s₁.setTop (mkF m 17 #[.val (.int fe), .val (.long po), .second, .val (.long (fe.toInt64 * (86400 : Int64))), .second] [(.int (XT.cmpL po (fe.toInt64 * (86400 : Int64))))]))
  refine Go.s (fun k => XS.ifYes X0.here hx rfl (pc0 := 17) (pc' := 49) rfl (hb hby own_d2_17) rfl (XT.ll_le_t hp2) (by decide) (by decide) k) ?_
  show Go p.tables e below P (s₁.setTop (mkF m 49 #[.val (.int fe), .val (.long po), .second, .val (.long (fe.toInt64 * (86400 : Int64))), .second] []))
  exact Go.retV X0 hx hlk hret (hb hby own_d2_49) (fun U hU hF => hP U _ _ (by rw [hU, e0]; exact ⟨rfl, N0, rfl⟩) ⟨hF.1, hF.2.1, hF.2.2.mono (by decide) (by decide)⟩)
theorem own_fe (a fe : Int32) (h : fe = own_f1 1 (a &&& 2147483647)) : 1 ≤ fe.toInt := by
  have e := Jvm.Kit.i32_mask a 2147483647 (k := 31) (by decide) (by decide)
  have c1 : (1 : Int32).toInt = 1 := rfl
  rw [h, own_f1]
  split <;> rename_i q <;> rw [Int32.lt_iff_toInt_lt] at q <;> omega
theorem own_most (fe : Int32) : (fe.toInt64 * 86400).toInt = fe.toInt * 86400 := by
  have e := Jvm.Kit.i64_of_i32 fe
  have c : (86400 : Int64).toInt = 86400 := rfl
  have := fe.toInt_lt; have := fe.le_toInt
  rw [Jvm.Kit.i64_mul (by rw [e, c]; omega) (by rw [e, c]; omega), e, c]
theorem own_range (fe : Int32) : (fe.toInt64 * 86399 + 1).toInt = fe.toInt * 86399 + 1 := by
  have e := Jvm.Kit.i64_of_i32 fe
  have c : (86399 : Int64).toInt = 86399 := rfl
  have c1 : (1 : Int64).toInt = 1 := rfl
  have := fe.toInt_lt; have := fe.le_toInt
  have m : (fe.toInt64 * 86399).toInt = fe.toInt * 86399 := by rw [Jvm.Kit.i64_mul (by rw [e, c]; omega) (by rw [e, c]; omega), e, c]
  rw [Jvm.Kit.i64_add (by omega) (by omega)]; omega
theorem own_rne (fe : Int32) (h : 1 ≤ fe.toInt) : fe.toInt64 * 86399 + 1 ≠ 0 := by
  intro q
  have e := own_range fe
  rw [q] at e
  have c0 : (0 : Int64).toInt = 0 := rfl
  omega
theorem own_off (b : Int64) (fe : Int32) (h : 1 ≤ fe.toInt) : ¬ fe.toInt64 + (b &&& 9223372036854775807) % (fe.toInt64 * 86399 + 1) < fe.toInt64 ∧ ¬ fe.toInt64 * 86400 < fe.toInt64 + (b &&& 9223372036854775807) % (fe.toInt64 * 86399 + 1) := by
  have e := Jvm.Kit.i64_of_i32 fe
  have r := own_range fe
  have t := own_most fe
  have m := Jvm.Kit.i64_mask b 9223372036854775807 (k := 63) (by decide) (by decide)
  have d : ((b &&& 9223372036854775807) % (fe.toInt64 * 86399 + 1)).toInt = (b.toInt % 2 ^ 63) % (fe.toInt * 86399 + 1) := by
    rw [Int64.toInt_mod, Int.tmod_eq_emod_of_nonneg (by omega), m, r]
  have p1 := Int.emod_nonneg (b.toInt % 2 ^ 63) (show fe.toInt * 86399 + 1 ≠ 0 by omega)
  have p2 := Int.emod_lt_of_pos (b.toInt % 2 ^ 63) (show 0 < fe.toInt * 86399 + 1 by omega)
  have := fe.toInt_lt
  have s : (fe.toInt64 + (b &&& 9223372036854775807) % (fe.toInt64 * 86399 + 1)).toInt = fe.toInt + (b.toInt % 2 ^ 63) % (fe.toInt * 86399 + 1) := by
    rw [Jvm.Kit.i64_add (by omega) (by omega)]; omega
  rw [Int64.lt_iff_toInt_lt, Int64.lt_iff_toInt_lt]
  omega
theorem own_same (fe : Int32) (h : 1 ≤ fe.toInt) : ¬ fe.toInt64 < fe.toInt64 ∧ ¬ fe.toInt64 * 86400 < fe.toInt64 := by
  have e := Jvm.Kit.i64_of_i32 fe
  have t := own_most fe
  rw [Int64.lt_iff_toInt_lt, Int64.lt_iff_toInt_lt]
  omega
theorem own_top (fe : Int32) (h : 1 ≤ fe.toInt) : ¬ fe.toInt64 * 86400 < fe.toInt64 ∧ ¬ fe.toInt64 * 86400 < fe.toInt64 * 86400 := by
  have e := Jvm.Kit.i64_of_i32 fe
  have t := own_most fe
  rw [Int64.lt_iff_toInt_lt, Int64.lt_iff_toInt_lt]
  omega
theorem own_ef0 (m : MethodId) (p0 : Int32) (q1 : Int64) (p2 : Int32) : entryFrame m #[(.int p0), (.long q1), (.int p2)] maxLocals = mkF m 0 #[.val (.int p0), .val (.long q1), .second, .val (.int p2), .unset, .unset, .unset, .unset, .unset, .unset, .unset, .unset, .unset, .unset] [] := by
  (first | (simp [entryFrame, mkF, argsToLocals, Value.category, maxLocals]; done) | rfl)
theorem own_pn_1 : plainName "com/example/tempo_feed/tempofeed/core/PollingPolicyCheckBudgetPinLaw" = true := by first | (simp [plainName, overriddenIn]; done) | decide +kernel
theorem own_pd_0 : parseMethodDescriptor "(II)I" = some ⟨[.int, .int], some .int⟩ := by decide +kernel
theorem own_pd_1 : parseMethodDescriptor "(IJ)V" = some ⟨[.int, .long], none⟩ := by decide +kernel
set_option maxRecDepth 65536 in
set_option maxHeartbeats 40000000 in
theorem own_rm0 (l : Launch) (Z : State) (a0 : Array Value) (hw : ∀ d ∈ tables_1, d.before a0 Z = true) (ws : List Jvm.Cond) (p0 : Int32) (q1 : Int64) (p2 : Int32) (h0 : Heap) (n0 : Nat) (Z0 : n0 ≤ h0.size)  :
    Con l Z x code maxLocals ret ws room_1 #[(.int p0), (.long q1), (.int p2)] h0 (fun v h L => v = some (.int 1) ∧ Fr n0 L) := by
  refine Con.intro (plainFor_of_name own_pn_1) ?_
  intro p e s m below meth c s₁ P hx hby hml hown hnm hret hlk hZ X0 e0 hP
  have N0 := Fr.nil n0
  have hml : c.maxLocals = 14 := hml
  have hown : s.vm.findClass "com/example/tempo_feed/tempofeed/core/PollingPolicyCheckBudgetPinLaw" = some m.cls := hown
  have hret : meth.sig.returnType = some .boolean := hret
  refine Go.cast (own_ef0 m p0 q1 p2) ?_
  show Go p.tables e below P (s₁.setTop (mkF m 0 #[.val (.int p0), .val (.long q1), .second, .val (.int p2), .unset, .unset, .unset, .unset, .unset, .unset, .unset, .unset, .unset, .unset] []))
  refine Go.s (fun k => XS.iconst X0.here hx rfl (hb hby at_0) k) ?_
  show Go p.tables e below P (s₁.setTop (mkF m 1 #[.val (.int p0), .val (.long q1), .second, .val (.int p2), .unset, .unset, .unset, .unset, .unset, .unset, .unset, .unset, .unset, .unset] [(.int (1 : Int32))]))
  refine Go.s (fun k => XS.iloadN X0.here hx rfl (hb hby at_1) rfl k) ?_
  show Go p.tables e below P (s₁.setTop (mkF m 2 #[.val (.int p0), .val (.long q1), .second, .val (.int p2), .unset, .unset, .unset, .unset, .unset, .unset, .unset, .unset, .unset, .unset] [(.int p0), (.int (1 : Int32))]))
  refine Go.s (fun k => X0.ldcI hx hown (mvT hZ (hw _ (List.mem_of_getElem? (i := 0) rfl))) rfl (hb hby at_2) k) ?_
  show Go p.tables e below P (s₁.setTop (mkF m 4 #[.val (.int p0), .val (.long q1), .second, .val (.int p2), .unset, .unset, .unset, .unset, .unset, .unset, .unset, .unset, .unset, .unset] [(.int (2147483647 : Int32)), (.int p0), (.int (1 : Int32))]))
  refine Go.s (fun k => XS.iand X0.here hx rfl (hb hby at_4) rfl k) ?_
  show Go p.tables e below P (s₁.setTop (mkF m 5 #[.val (.int p0), .val (.long q1), .second, .val (.int p2), .unset, .unset, .unset, .unset, .unset, .unset, .unset, .unset, .unset, .unset] [(.int (p0 &&& (2147483647 : Int32))), (.int (1 : Int32))]))
  obtain ⟨v1, T1, L1, X1, Q1, st1⟩ := Con.static (own_rm1 l Z a0 hw [] (1 : Int32) (p0 &&& (2147483647 : Int32)) h0 n0 Z0  ) X0 hx hZ (W := 0) hown (hw _ (List.mem_of_getElem? (i := 1) rfl)) (hw _ (List.mem_of_getElem? (i := 2) rfl)) (hw _ (List.mem_of_getElem? (i := 3) rfl)) (hw _ (List.mem_of_getElem? (i := 4) rfl)) (by decide) (by decide) (by decide) (by decide) (by decide) e0 (g := (mkF m 5 #[.val (.int p0), .val (.long q1), .second, .val (.int p2), .unset, .unset, .unset, .unset, .unset, .unset, .unset, .unset, .unset, .unset] [(.int (p0 &&& (2147483647 : Int32))), (.int (1 : Int32))])) rfl (by rw [hml]; rfl) (argsL := [(.int (1 : Int32)), (.int (p0 &&& (2147483647 : Int32)))]) (rest := []) rfl (lenOf own_pd_0 rfl) rfl (by show 2 * 0 + _ ≤ _; exact Nat.le_of_eq rfl) (hb hby at_5)
  obtain ⟨rfl, Nq1, e1⟩ := Q1
  have N1 := Fr.app N0 Nq1
  refine Go.s (fun {t} => st1) ?_
  show Go p.tables e below P (T1.setTop (mkF m 8 #[.val (.int p0), .val (.long q1), .second, .val (.int p2), .unset, .unset, .unset, .unset, .unset, .unset, .unset, .unset, .unset, .unset] [(.int (own_f1 (1 : Int32) (p0 &&& (2147483647 : Int32))))]))
  refine Go.s (fun k => XS.istore X1.here hx rfl (hb hby at_8) rfl (l' := #[.val (.int p0), .val (.long q1), .second, .val (.int p2), .val (.int (own_f1 (1 : Int32) (p0 &&& (2147483647 : Int32)))), .unset, .unset, .unset, .unset, .unset, .unset, .unset, .unset, .unset]) rfl k) ?_
  show Go p.tables e below P (T1.setTop (mkF m 10 #[.val (.int p0), .val (.long q1), .second, .val (.int p2), .val (.int (own_f1 (1 : Int32) (p0 &&& (2147483647 : Int32)))), .unset, .unset, .unset, .unset, .unset, .unset, .unset, .unset, .unset] []))
  refine (?_ : ∀ fe : Int32, fe = (own_f1 (1 : Int32) (p0 &&& (2147483647 : Int32))) → Go p.tables e below P (T1.setTop (mkF m 10 #[.val (.int p0), .val (.long q1), .second, .val (.int p2), .val (.int fe), .unset, .unset, .unset, .unset, .unset, .unset, .unset, .unset, .unset] []))) _ rfl
  intro fe hfe
  have h1 := own_fe p0 fe hfe
  refine Go.s (fun k => XS.iload X1.here hx rfl (hb hby at_10) rfl k) ?_
  show Go p.tables e below P (T1.setTop (mkF m 12 #[.val (.int p0), .val (.long q1), .second, .val (.int p2), .val (.int fe), .unset, .unset, .unset, .unset, .unset, .unset, .unset, .unset, .unset] [(.int fe)]))
  refine Go.s (fun k => XT.i2l X1.here hx rfl (hb hby at_12) rfl k) ?_
  show Go p.tables e below P (T1.setTop (mkF m 13 #[.val (.int p0), .val (.long q1), .second, .val (.int p2), .val (.int fe), .unset, .unset, .unset, .unset, .unset, .unset, .unset, .unset, .unset] [(.long fe.toInt64)]))
  refine Go.s (fun k => X1.ldc2J hx hown (mvT hZ (hw _ (List.mem_of_getElem? (i := 5) rfl))) rfl (hb hby at_13) k) ?_
  show Go p.tables e below P (T1.setTop (mkF m 16 #[.val (.int p0), .val (.long q1), .second, .val (.int p2), .val (.int fe), .unset, .unset, .unset, .unset, .unset, .unset, .unset, .unset, .unset] [(.long (86400 : Int64)), (.long fe.toInt64)]))
  refine Go.s (fun k => XT.lmul X1.here hx rfl (hb hby at_16) rfl k) ?_
  show Go p.tables e below P (T1.setTop (mkF m 17 #[.val (.int p0), .val (.long q1), .second, .val (.int p2), .val (.int fe), .unset, .unset, .unset, .unset, .unset, .unset, .unset, .unset, .unset] [(.long (fe.toInt64 * (86400 : Int64)))]))
  refine Go.s (fun k => XT.lstore X1.here hx rfl (hb hby at_17) rfl (l' := #[.val (.int p0), .val (.long q1), .second, .val (.int p2), .val (.int fe), .val (.long (fe.toInt64 * (86400 : Int64))), .second, .unset, .unset, .unset, .unset, .unset, .unset, .unset]) rfl k) ?_
  show Go p.tables e below P (T1.setTop (mkF m 19 #[.val (.int p0), .val (.long q1), .second, .val (.int p2), .val (.int fe), .val (.long (fe.toInt64 * (86400 : Int64))), .second, .unset, .unset, .unset, .unset, .unset, .unset, .unset] []))
  refine Go.s (fun k => XS.iloadN X1.here hx rfl (hb hby at_19) rfl k) ?_
  show Go p.tables e below P (T1.setTop (mkF m 20 #[.val (.int p0), .val (.long q1), .second, .val (.int p2), .val (.int fe), .val (.long (fe.toInt64 * (86400 : Int64))), .second, .unset, .unset, .unset, .unset, .unset, .unset, .unset] [(.int p2)]))
  refine Go.s (fun k => XS.iconst X1.here hx rfl (hb hby at_20) k) ?_
  show Go p.tables e below P (T1.setTop (mkF m 21 #[.val (.int p0), .val (.long q1), .second, .val (.int p2), .val (.int fe), .val (.long (fe.toInt64 * (86400 : Int64))), .second, .unset, .unset, .unset, .unset, .unset, .unset, .unset] [(.int (3 : Int32)), (.int p2)]))
  refine Go.s (fun k => XS.iand X1.here hx rfl (hb hby at_21) rfl k) ?_
  show Go p.tables e below P (T1.setTop (mkF m 22 #[.val (.int p0), .val (.long q1), .second, .val (.int p2), .val (.int fe), .val (.long (fe.toInt64 * (86400 : Int64))), .second, .unset, .unset, .unset, .unset, .unset, .unset, .unset] [(.int (p2 &&& (3 : Int32)))]))
  refine Go.s (fun k => XS.istore X1.here hx rfl (hb hby at_22) rfl (l' := #[.val (.int p0), .val (.long q1), .second, .val (.int p2), .val (.int fe), .val (.long (fe.toInt64 * (86400 : Int64))), .second, .unset, .unset, .val (.int (p2 &&& (3 : Int32))), .unset, .unset, .unset, .unset]) rfl k) ?_
  show Go p.tables e below P (T1.setTop (mkF m 24 #[.val (.int p0), .val (.long q1), .second, .val (.int p2), .val (.int fe), .val (.long (fe.toInt64 * (86400 : Int64))), .second, .unset, .unset, .val (.int (p2 &&& (3 : Int32))), .unset, .unset, .unset, .unset] []))
  refine Go.s (fun k => XS.iload X1.here hx rfl (hb hby at_24) rfl k) ?_
  show Go p.tables e below P (T1.setTop (mkF m 26 #[.val (.int p0), .val (.long q1), .second, .val (.int p2), .val (.int fe), .val (.long (fe.toInt64 * (86400 : Int64))), .second, .unset, .unset, .val (.int (p2 &&& (3 : Int32))), .unset, .unset, .unset, .unset] [(.int (p2 &&& (3 : Int32)))]))
  by_cases hc26 : (p2 &&& (3 : Int32)) = 0
  · skip
    refine Go.s (fun k => XS.ifNo X1.here hx rfl (hb hby at_26) rfl (XT.i0_ne_f hc26) k) ?_
    show Go p.tables e below P (T1.setTop (mkF m 29 #[.val (.int p0), .val (.long q1), .second, .val (.int p2), .val (.int fe), .val (.long (fe.toInt64 * (86400 : Int64))), .second, .unset, .unset, .val (.int (p2 &&& (3 : Int32))), .unset, .unset, .unset, .unset] []))
    refine Go.s (fun k => XS.iload X1.here hx rfl (hb hby at_29) rfl k) ?_
    show Go p.tables e below P (T1.setTop (mkF m 31 #[.val (.int p0), .val (.long q1), .second, .val (.int p2), .val (.int fe), .val (.long (fe.toInt64 * (86400 : Int64))), .second, .unset, .unset, .val (.int (p2 &&& (3 : Int32))), .unset, .unset, .unset, .unset] [(.int fe)]))
    refine Go.s (fun k => XT.i2l X1.here hx rfl (hb hby at_31) rfl k) ?_
    show Go p.tables e below P (T1.setTop (mkF m 32 #[.val (.int p0), .val (.long q1), .second, .val (.int p2), .val (.int fe), .val (.long (fe.toInt64 * (86400 : Int64))), .second, .unset, .unset, .val (.int (p2 &&& (3 : Int32))), .unset, .unset, .unset, .unset] [(.long fe.toInt64)]))
    refine Go.s (fun k => XT.lstore X1.here hx rfl (hb hby at_32) rfl (l' := #[.val (.int p0), .val (.long q1), .second, .val (.int p2), .val (.int fe), .val (.long (fe.toInt64 * (86400 : Int64))), .second, .val (.long fe.toInt64), .second, .val (.int (p2 &&& (3 : Int32))), .unset, .unset, .unset, .unset]) rfl k) ?_
    show Go p.tables e below P (T1.setTop (mkF m 34 #[.val (.int p0), .val (.long q1), .second, .val (.int p2), .val (.int fe), .val (.long (fe.toInt64 * (86400 : Int64))), .second, .val (.long fe.toInt64), .second, .val (.int (p2 &&& (3 : Int32))), .unset, .unset, .unset, .unset] []))
    refine Go.s (fun k => XS.goto X1.here hx rfl (pc0 := 34) (pc' := 79) rfl (hb hby at_34) (by decide) (by decide) k) ?_
    show Go p.tables e below P (T1.setTop (mkF m 79 #[.val (.int p0), .val (.long q1), .second, .val (.int p2), .val (.int fe), .val (.long (fe.toInt64 * (86400 : Int64))), .second, .val (.long fe.toInt64), .second, .val (.int (p2 &&& (3 : Int32))), .unset, .unset, .unset, .unset] []))
    obtain ⟨hp1, hp2⟩ := own_same fe h1
    refine Go.s (fun k => XS.iload X1.here hx rfl (hb hby at_79) rfl k) ?_
    show Go p.tables e below P (T1.setTop (mkF m 81 #[.val (.int p0), .val (.long q1), .second, .val (.int p2), .val (.int fe), .val (.long (fe.toInt64 * (86400 : Int64))), .second, .val (.long fe.toInt64), .second, .val (.int (p2 &&& (3 : Int32))), .unset, .unset, .unset, .unset] [(.int fe)]))
    refine Go.s (fun k => XT.lload X1.here hx rfl (hb hby at_81) rfl k) ?_
    show Go p.tables e below P (T1.setTop (mkF m 83 #[.val (.int p0), .val (.long q1), .second, .val (.int p2), .val (.int fe), .val (.long (fe.toInt64 * (86400 : Int64))), .second, .val (.long fe.toInt64), .second, .val (.int (p2 &&& (3 : Int32))), .unset, .unset, .unset, .unset] [(.long fe.toInt64), (.int fe)]))
    obtain ⟨v2, T2, L2, X2, Q2, st2⟩ := Con.static (own_rm2 l Z a0 hw [] fe fe.toInt64 h0 n0 Z0  hp1 hp2) X1 hx hZ (W := 0) hown (hw _ (List.mem_of_getElem? (i := 6) rfl)) (hw _ (List.mem_of_getElem? (i := 7) rfl)) (hw _ (List.mem_of_getElem? (i := 8) rfl)) (hw _ (List.mem_of_getElem? (i := 9) rfl)) (by decide) (by decide) (by decide) (by decide) (by decide) e1 (g := (mkF m 83 #[.val (.int p0), .val (.long q1), .second, .val (.int p2), .val (.int fe), .val (.long (fe.toInt64 * (86400 : Int64))), .second, .val (.long fe.toInt64), .second, .val (.int (p2 &&& (3 : Int32))), .unset, .unset, .unset, .unset] [(.long fe.toInt64), (.int fe)])) rfl (by rw [hml]; rfl) (argsL := [(.int fe), (.long fe.toInt64)]) (rest := []) rfl (lenOf own_pd_1 rfl) rfl (by show 2 * 0 + _ ≤ _; exact Nat.le_of_eq rfl) (hb hby at_83)
    obtain ⟨rfl, Nq2, e2⟩ := Q2
    have N2 := Fr.app N1 Nq2
    refine Go.s (fun {t} => st2) ?_
    show Go p.tables e below P (T2.setTop (mkF m 86 #[.val (.int p0), .val (.long q1), .second, .val (.int p2), .val (.int fe), .val (.long (fe.toInt64 * (86400 : Int64))), .second, .val (.long fe.toInt64), .second, .val (.int (p2 &&& (3 : Int32))), .unset, .unset, .unset, .unset] []))
    refine Go.s (fun k => XT.lload X2.here hx rfl (hb hby at_86) rfl k) ?_
    show Go p.tables e below P (T2.setTop (mkF m 88 #[.val (.int p0), .val (.long q1), .second, .val (.int p2), .val (.int fe), .val (.long (fe.toInt64 * (86400 : Int64))), .second, .val (.long fe.toInt64), .second, .val (.int (p2 &&& (3 : Int32))), .unset, .unset, .unset, .unset] [(.long fe.toInt64)]))
    refine Go.s (fun k => XS.iload X2.here hx rfl (hb hby at_88) rfl k) ?_
    show Go p.tables e below P (T2.setTop (mkF m 90 #[.val (.int p0), .val (.long q1), .second, .val (.int p2), .val (.int fe), .val (.long (fe.toInt64 * (86400 : Int64))), .second, .val (.long fe.toInt64), .second, .val (.int (p2 &&& (3 : Int32))), .unset, .unset, .unset, .unset] [(.int fe), (.long fe.toInt64)]))
    refine Go.s (fun k => XT.i2l X2.here hx rfl (hb hby at_90) rfl k) ?_
    show Go p.tables e below P (T2.setTop (mkF m 91 #[.val (.int p0), .val (.long q1), .second, .val (.int p2), .val (.int fe), .val (.long (fe.toInt64 * (86400 : Int64))), .second, .val (.long fe.toInt64), .second, .val (.int (p2 &&& (3 : Int32))), .unset, .unset, .unset, .unset] [(.long fe.toInt64), (.long fe.toInt64)]))
    refine Go.s (fun k => XT.lcmp X2.here hx rfl (hb hby at_91) rfl k) ?_
    show Go p.tables e below P (T2.setTop (mkF m 92 #[.val (.int p0), .val (.long q1), .second, .val (.int p2), .val (.int fe), .val (.long (fe.toInt64 * (86400 : Int64))), .second, .val (.long fe.toInt64), .second, .val (.int (p2 &&& (3 : Int32))), .unset, .unset, .unset, .unset] [(.int (XT.cmpL fe.toInt64 fe.toInt64))]))
    refine Go.s (fun k => XS.ifNo X2.here hx rfl (hb hby at_92) rfl (XT.ll_lt_f hp1) k) ?_
    show Go p.tables e below P (T2.setTop (mkF m 95 #[.val (.int p0), .val (.long q1), .second, .val (.int p2), .val (.int fe), .val (.long (fe.toInt64 * (86400 : Int64))), .second, .val (.long fe.toInt64), .second, .val (.int (p2 &&& (3 : Int32))), .unset, .unset, .unset, .unset] []))
    refine Go.s (fun k => XT.lload X2.here hx rfl (hb hby at_95) rfl k) ?_
    show Go p.tables e below P (T2.setTop (mkF m 97 #[.val (.int p0), .val (.long q1), .second, .val (.int p2), .val (.int fe), .val (.long (fe.toInt64 * (86400 : Int64))), .second, .val (.long fe.toInt64), .second, .val (.int (p2 &&& (3 : Int32))), .unset, .unset, .unset, .unset] [(.long fe.toInt64)]))
    refine Go.s (fun k => XT.lload X2.here hx rfl (hb hby at_97) rfl k) ?_
    show Go p.tables e below P (T2.setTop (mkF m 99 #[.val (.int p0), .val (.long q1), .second, .val (.int p2), .val (.int fe), .val (.long (fe.toInt64 * (86400 : Int64))), .second, .val (.long fe.toInt64), .second, .val (.int (p2 &&& (3 : Int32))), .unset, .unset, .unset, .unset] [(.long (fe.toInt64 * (86400 : Int64))), (.long fe.toInt64)]))
    refine Go.s (fun k => XT.lcmp X2.here hx rfl (hb hby at_99) rfl k) ?_
    show Go p.tables e below P (T2.setTop (mkF m 100 #[.val (.int p0), .val (.long q1), .second, .val (.int p2), .val (.int fe), .val (.long (fe.toInt64 * (86400 : Int64))), .second, .val (.long fe.toInt64), .second, .val (.int (p2 &&& (3 : Int32))), .unset, .unset, .unset, .unset] [(.int (XT.cmpL fe.toInt64 (fe.toInt64 * (86400 : Int64))))]))
    refine Go.s (fun k => XS.ifNo X2.here hx rfl (hb hby at_100) rfl (XT.ll_gt_f hp2) k) ?_
    show Go p.tables e below P (T2.setTop (mkF m 103 #[.val (.int p0), .val (.long q1), .second, .val (.int p2), .val (.int fe), .val (.long (fe.toInt64 * (86400 : Int64))), .second, .val (.long fe.toInt64), .second, .val (.int (p2 &&& (3 : Int32))), .unset, .unset, .unset, .unset] []))
    refine Go.s (fun k => XS.iconst X2.here hx rfl (hb hby at_103) k) ?_
    show Go p.tables e below P (T2.setTop (mkF m 104 #[.val (.int p0), .val (.long q1), .second, .val (.int p2), .val (.int fe), .val (.long (fe.toInt64 * (86400 : Int64))), .second, .val (.long fe.toInt64), .second, .val (.int (p2 &&& (3 : Int32))), .unset, .unset, .unset, .unset] [(.int (1 : Int32))]))
    refine Go.s (fun k => XS.goto X2.here hx rfl (pc0 := 104) (pc' := 108) rfl (hb hby at_104) (by decide) (by decide) k) ?_
    show Go p.tables e below P (T2.setTop (mkF m 108 #[.val (.int p0), .val (.long q1), .second, .val (.int p2), .val (.int fe), .val (.long (fe.toInt64 * (86400 : Int64))), .second, .val (.long fe.toInt64), .second, .val (.int (p2 &&& (3 : Int32))), .unset, .unset, .unset, .unset] [(.int (1 : Int32))]))
    exact Go.retZ X2 hx hlk hret (by decide) (hb hby at_108) (fun U hU hF => hP U _ _ ⟨rfl, N2⟩ ⟨hF.1, hF.2.1, hF.2.2.mono (by decide) (by decide)⟩)
  · skip
    refine Go.s (fun k => XS.ifYes X1.here hx rfl (pc0 := 26) (pc' := 37) rfl (hb hby at_26) rfl (XT.i0_ne_t hc26) (by decide) (by decide) k) ?_
    show Go p.tables e below P (T1.setTop (mkF m 37 #[.val (.int p0), .val (.long q1), .second, .val (.int p2), .val (.int fe), .val (.long (fe.toInt64 * (86400 : Int64))), .second, .unset, .unset, .val (.int (p2 &&& (3 : Int32))), .unset, .unset, .unset, .unset] []))
    refine Go.s (fun k => XS.iload X1.here hx rfl (hb hby at_37) rfl k) ?_
    show Go p.tables e below P (T1.setTop (mkF m 39 #[.val (.int p0), .val (.long q1), .second, .val (.int p2), .val (.int fe), .val (.long (fe.toInt64 * (86400 : Int64))), .second, .unset, .unset, .val (.int (p2 &&& (3 : Int32))), .unset, .unset, .unset, .unset] [(.int (p2 &&& (3 : Int32)))]))
    refine Go.s (fun k => XS.iconst X1.here hx rfl (hb hby at_39) k) ?_
    show Go p.tables e below P (T1.setTop (mkF m 40 #[.val (.int p0), .val (.long q1), .second, .val (.int p2), .val (.int fe), .val (.long (fe.toInt64 * (86400 : Int64))), .second, .unset, .unset, .val (.int (p2 &&& (3 : Int32))), .unset, .unset, .unset, .unset] [(.int (1 : Int32)), (.int (p2 &&& (3 : Int32)))]))
    by_cases hc40 : (p2 &&& (3 : Int32)) = (1 : Int32)
    · skip
      refine Go.s (fun k => XS.icmpNo X1.here hx rfl (hb hby at_40) rfl (XT.ii_ne_f hc40) k) ?_
      show Go p.tables e below P (T1.setTop (mkF m 43 #[.val (.int p0), .val (.long q1), .second, .val (.int p2), .val (.int fe), .val (.long (fe.toInt64 * (86400 : Int64))), .second, .unset, .unset, .val (.int (p2 &&& (3 : Int32))), .unset, .unset, .unset, .unset] []))
      refine Go.s (fun k => XT.lload X1.here hx rfl (hb hby at_43) rfl k) ?_
      show Go p.tables e below P (T1.setTop (mkF m 45 #[.val (.int p0), .val (.long q1), .second, .val (.int p2), .val (.int fe), .val (.long (fe.toInt64 * (86400 : Int64))), .second, .unset, .unset, .val (.int (p2 &&& (3 : Int32))), .unset, .unset, .unset, .unset] [(.long (fe.toInt64 * (86400 : Int64)))]))
      refine Go.s (fun k => XT.lstore X1.here hx rfl (hb hby at_45) rfl (l' := #[.val (.int p0), .val (.long q1), .second, .val (.int p2), .val (.int fe), .val (.long (fe.toInt64 * (86400 : Int64))), .second, .val (.long (fe.toInt64 * (86400 : Int64))), .second, .val (.int (p2 &&& (3 : Int32))), .unset, .unset, .unset, .unset]) rfl k) ?_
      show Go p.tables e below P (T1.setTop (mkF m 47 #[.val (.int p0), .val (.long q1), .second, .val (.int p2), .val (.int fe), .val (.long (fe.toInt64 * (86400 : Int64))), .second, .val (.long (fe.toInt64 * (86400 : Int64))), .second, .val (.int (p2 &&& (3 : Int32))), .unset, .unset, .unset, .unset] []))
      refine Go.s (fun k => XS.goto X1.here hx rfl (pc0 := 47) (pc' := 79) rfl (hb hby at_47) (by decide) (by decide) k) ?_
      show Go p.tables e below P (T1.setTop (mkF m 79 #[.val (.int p0), .val (.long q1), .second, .val (.int p2), .val (.int fe), .val (.long (fe.toInt64 * (86400 : Int64))), .second, .val (.long (fe.toInt64 * (86400 : Int64))), .second, .val (.int (p2 &&& (3 : Int32))), .unset, .unset, .unset, .unset] []))
      obtain ⟨hp1, hp2⟩ := own_top fe h1
      refine Go.s (fun k => XS.iload X1.here hx rfl (hb hby at_79) rfl k) ?_
      show Go p.tables e below P (T1.setTop (mkF m 81 #[.val (.int p0), .val (.long q1), .second, .val (.int p2), .val (.int fe), .val (.long (fe.toInt64 * (86400 : Int64))), .second, .val (.long (fe.toInt64 * (86400 : Int64))), .second, .val (.int (p2 &&& (3 : Int32))), .unset, .unset, .unset, .unset] [(.int fe)]))
      refine Go.s (fun k => XT.lload X1.here hx rfl (hb hby at_81) rfl k) ?_
      show Go p.tables e below P (T1.setTop (mkF m 83 #[.val (.int p0), .val (.long q1), .second, .val (.int p2), .val (.int fe), .val (.long (fe.toInt64 * (86400 : Int64))), .second, .val (.long (fe.toInt64 * (86400 : Int64))), .second, .val (.int (p2 &&& (3 : Int32))), .unset, .unset, .unset, .unset] [(.long (fe.toInt64 * (86400 : Int64))), (.int fe)]))
      obtain ⟨v3, T3, L3, X3, Q3, st3⟩ := Con.static (own_rm2 l Z a0 hw [] fe (fe.toInt64 * (86400 : Int64)) h0 n0 Z0  hp1 hp2) X1 hx hZ (W := 0) hown (hw _ (List.mem_of_getElem? (i := 6) rfl)) (hw _ (List.mem_of_getElem? (i := 7) rfl)) (hw _ (List.mem_of_getElem? (i := 8) rfl)) (hw _ (List.mem_of_getElem? (i := 9) rfl)) (by decide) (by decide) (by decide) (by decide) (by decide) e1 (g := (mkF m 83 #[.val (.int p0), .val (.long q1), .second, .val (.int p2), .val (.int fe), .val (.long (fe.toInt64 * (86400 : Int64))), .second, .val (.long (fe.toInt64 * (86400 : Int64))), .second, .val (.int (p2 &&& (3 : Int32))), .unset, .unset, .unset, .unset] [(.long (fe.toInt64 * (86400 : Int64))), (.int fe)])) rfl (by rw [hml]; rfl) (argsL := [(.int fe), (.long (fe.toInt64 * (86400 : Int64)))]) (rest := []) rfl (lenOf own_pd_1 rfl) rfl (by show 2 * 0 + _ ≤ _; exact Nat.le_of_eq rfl) (hb hby at_83)
      obtain ⟨rfl, Nq3, e3⟩ := Q3
      have N3 := Fr.app N1 Nq3
      refine Go.s (fun {t} => st3) ?_
      show Go p.tables e below P (T3.setTop (mkF m 86 #[.val (.int p0), .val (.long q1), .second, .val (.int p2), .val (.int fe), .val (.long (fe.toInt64 * (86400 : Int64))), .second, .val (.long (fe.toInt64 * (86400 : Int64))), .second, .val (.int (p2 &&& (3 : Int32))), .unset, .unset, .unset, .unset] []))
      refine Go.s (fun k => XT.lload X3.here hx rfl (hb hby at_86) rfl k) ?_
      show Go p.tables e below P (T3.setTop (mkF m 88 #[.val (.int p0), .val (.long q1), .second, .val (.int p2), .val (.int fe), .val (.long (fe.toInt64 * (86400 : Int64))), .second, .val (.long (fe.toInt64 * (86400 : Int64))), .second, .val (.int (p2 &&& (3 : Int32))), .unset, .unset, .unset, .unset] [(.long (fe.toInt64 * (86400 : Int64)))]))
      refine Go.s (fun k => XS.iload X3.here hx rfl (hb hby at_88) rfl k) ?_
      show Go p.tables e below P (T3.setTop (mkF m 90 #[.val (.int p0), .val (.long q1), .second, .val (.int p2), .val (.int fe), .val (.long (fe.toInt64 * (86400 : Int64))), .second, .val (.long (fe.toInt64 * (86400 : Int64))), .second, .val (.int (p2 &&& (3 : Int32))), .unset, .unset, .unset, .unset] [(.int fe), (.long (fe.toInt64 * (86400 : Int64)))]))
      refine Go.s (fun k => XT.i2l X3.here hx rfl (hb hby at_90) rfl k) ?_
      show Go p.tables e below P (T3.setTop (mkF m 91 #[.val (.int p0), .val (.long q1), .second, .val (.int p2), .val (.int fe), .val (.long (fe.toInt64 * (86400 : Int64))), .second, .val (.long (fe.toInt64 * (86400 : Int64))), .second, .val (.int (p2 &&& (3 : Int32))), .unset, .unset, .unset, .unset] [(.long fe.toInt64), (.long (fe.toInt64 * (86400 : Int64)))]))
      refine Go.s (fun k => XT.lcmp X3.here hx rfl (hb hby at_91) rfl k) ?_
      show Go p.tables e below P (T3.setTop (mkF m 92 #[.val (.int p0), .val (.long q1), .second, .val (.int p2), .val (.int fe), .val (.long (fe.toInt64 * (86400 : Int64))), .second, .val (.long (fe.toInt64 * (86400 : Int64))), .second, .val (.int (p2 &&& (3 : Int32))), .unset, .unset, .unset, .unset] [(.int (XT.cmpL (fe.toInt64 * (86400 : Int64)) fe.toInt64))]))
      refine Go.s (fun k => XS.ifNo X3.here hx rfl (hb hby at_92) rfl (XT.ll_lt_f hp1) k) ?_
      show Go p.tables e below P (T3.setTop (mkF m 95 #[.val (.int p0), .val (.long q1), .second, .val (.int p2), .val (.int fe), .val (.long (fe.toInt64 * (86400 : Int64))), .second, .val (.long (fe.toInt64 * (86400 : Int64))), .second, .val (.int (p2 &&& (3 : Int32))), .unset, .unset, .unset, .unset] []))
      refine Go.s (fun k => XT.lload X3.here hx rfl (hb hby at_95) rfl k) ?_
      show Go p.tables e below P (T3.setTop (mkF m 97 #[.val (.int p0), .val (.long q1), .second, .val (.int p2), .val (.int fe), .val (.long (fe.toInt64 * (86400 : Int64))), .second, .val (.long (fe.toInt64 * (86400 : Int64))), .second, .val (.int (p2 &&& (3 : Int32))), .unset, .unset, .unset, .unset] [(.long (fe.toInt64 * (86400 : Int64)))]))
      refine Go.s (fun k => XT.lload X3.here hx rfl (hb hby at_97) rfl k) ?_
      show Go p.tables e below P (T3.setTop (mkF m 99 #[.val (.int p0), .val (.long q1), .second, .val (.int p2), .val (.int fe), .val (.long (fe.toInt64 * (86400 : Int64))), .second, .val (.long (fe.toInt64 * (86400 : Int64))), .second, .val (.int (p2 &&& (3 : Int32))), .unset, .unset, .unset, .unset] [(.long (fe.toInt64 * (86400 : Int64))), (.long (fe.toInt64 * (86400 : Int64)))]))
      refine Go.s (fun k => XT.lcmp X3.here hx rfl (hb hby at_99) rfl k) ?_
      show Go p.tables e below P (T3.setTop (mkF m 100 #[.val (.int p0), .val (.long q1), .second, .val (.int p2), .val (.int fe), .val (.long (fe.toInt64 * (86400 : Int64))), .second, .val (.long (fe.toInt64 * (86400 : Int64))), .second, .val (.int (p2 &&& (3 : Int32))), .unset, .unset, .unset, .unset] [(.int (XT.cmpL (fe.toInt64 * (86400 : Int64)) (fe.toInt64 * (86400 : Int64))))]))
      refine Go.s (fun k => XS.ifNo X3.here hx rfl (hb hby at_100) rfl (XT.ll_gt_f hp2) k) ?_
      show Go p.tables e below P (T3.setTop (mkF m 103 #[.val (.int p0), .val (.long q1), .second, .val (.int p2), .val (.int fe), .val (.long (fe.toInt64 * (86400 : Int64))), .second, .val (.long (fe.toInt64 * (86400 : Int64))), .second, .val (.int (p2 &&& (3 : Int32))), .unset, .unset, .unset, .unset] []))
      refine Go.s (fun k => XS.iconst X3.here hx rfl (hb hby at_103) k) ?_
      show Go p.tables e below P (T3.setTop (mkF m 104 #[.val (.int p0), .val (.long q1), .second, .val (.int p2), .val (.int fe), .val (.long (fe.toInt64 * (86400 : Int64))), .second, .val (.long (fe.toInt64 * (86400 : Int64))), .second, .val (.int (p2 &&& (3 : Int32))), .unset, .unset, .unset, .unset] [(.int (1 : Int32))]))
      refine Go.s (fun k => XS.goto X3.here hx rfl (pc0 := 104) (pc' := 108) rfl (hb hby at_104) (by decide) (by decide) k) ?_
      show Go p.tables e below P (T3.setTop (mkF m 108 #[.val (.int p0), .val (.long q1), .second, .val (.int p2), .val (.int fe), .val (.long (fe.toInt64 * (86400 : Int64))), .second, .val (.long (fe.toInt64 * (86400 : Int64))), .second, .val (.int (p2 &&& (3 : Int32))), .unset, .unset, .unset, .unset] [(.int (1 : Int32))]))
      exact Go.retZ X3 hx hlk hret (by decide) (hb hby at_108) (fun U hU hF => hP U _ _ ⟨rfl, N3⟩ ⟨hF.1, hF.2.1, hF.2.2.mono (by decide) (by decide)⟩)
    · skip
      refine Go.s (fun k => XS.icmpYes X1.here hx rfl (pc0 := 40) (pc' := 50) rfl (hb hby at_40) rfl (XT.ii_ne_t hc40) (by decide) (by decide) k) ?_
      show Go p.tables e below P (T1.setTop (mkF m 50 #[.val (.int p0), .val (.long q1), .second, .val (.int p2), .val (.int fe), .val (.long (fe.toInt64 * (86400 : Int64))), .second, .unset, .unset, .val (.int (p2 &&& (3 : Int32))), .unset, .unset, .unset, .unset] []))
      refine Go.s (fun k => XS.iload X1.here hx rfl (hb hby at_50) rfl k) ?_
      show Go p.tables e below P (T1.setTop (mkF m 52 #[.val (.int p0), .val (.long q1), .second, .val (.int p2), .val (.int fe), .val (.long (fe.toInt64 * (86400 : Int64))), .second, .unset, .unset, .val (.int (p2 &&& (3 : Int32))), .unset, .unset, .unset, .unset] [(.int fe)]))
      refine Go.s (fun k => XT.i2l X1.here hx rfl (hb hby at_52) rfl k) ?_
      show Go p.tables e below P (T1.setTop (mkF m 53 #[.val (.int p0), .val (.long q1), .second, .val (.int p2), .val (.int fe), .val (.long (fe.toInt64 * (86400 : Int64))), .second, .unset, .unset, .val (.int (p2 &&& (3 : Int32))), .unset, .unset, .unset, .unset] [(.long fe.toInt64)]))
      refine Go.s (fun k => X1.ldc2J hx hown (mvT hZ (hw _ (List.mem_of_getElem? (i := 11) rfl))) rfl (hb hby at_53) k) ?_
      show Go p.tables e below P (T1.setTop (mkF m 56 #[.val (.int p0), .val (.long q1), .second, .val (.int p2), .val (.int fe), .val (.long (fe.toInt64 * (86400 : Int64))), .second, .unset, .unset, .val (.int (p2 &&& (3 : Int32))), .unset, .unset, .unset, .unset] [(.long (86399 : Int64)), (.long fe.toInt64)]))
      refine Go.s (fun k => XT.lmul X1.here hx rfl (hb hby at_56) rfl k) ?_
      show Go p.tables e below P (T1.setTop (mkF m 57 #[.val (.int p0), .val (.long q1), .second, .val (.int p2), .val (.int fe), .val (.long (fe.toInt64 * (86400 : Int64))), .second, .unset, .unset, .val (.int (p2 &&& (3 : Int32))), .unset, .unset, .unset, .unset] [(.long (fe.toInt64 * (86399 : Int64)))]))
      refine Go.s (fun k => XT.lconst X1.here hx rfl (hb hby at_57) k) ?_
      show Go p.tables e below P (T1.setTop (mkF m 58 #[.val (.int p0), .val (.long q1), .second, .val (.int p2), .val (.int fe), .val (.long (fe.toInt64 * (86400 : Int64))), .second, .unset, .unset, .val (.int (p2 &&& (3 : Int32))), .unset, .unset, .unset, .unset] [(.long (1 : Int64)), (.long (fe.toInt64 * (86399 : Int64)))]))
      refine Go.s (fun k => XT.ladd X1.here hx rfl (hb hby at_58) rfl k) ?_
      show Go p.tables e below P (T1.setTop (mkF m 59 #[.val (.int p0), .val (.long q1), .second, .val (.int p2), .val (.int fe), .val (.long (fe.toInt64 * (86400 : Int64))), .second, .unset, .unset, .val (.int (p2 &&& (3 : Int32))), .unset, .unset, .unset, .unset] [(.long ((fe.toInt64 * (86399 : Int64)) + (1 : Int64)))]))
      refine Go.s (fun k => XT.lstore X1.here hx rfl (hb hby at_59) rfl (l' := #[.val (.int p0), .val (.long q1), .second, .val (.int p2), .val (.int fe), .val (.long (fe.toInt64 * (86400 : Int64))), .second, .unset, .unset, .val (.int (p2 &&& (3 : Int32))), .val (.long ((fe.toInt64 * (86399 : Int64)) + (1 : Int64))), .second, .unset, .unset]) rfl k) ?_
      show Go p.tables e below P (T1.setTop (mkF m 61 #[.val (.int p0), .val (.long q1), .second, .val (.int p2), .val (.int fe), .val (.long (fe.toInt64 * (86400 : Int64))), .second, .unset, .unset, .val (.int (p2 &&& (3 : Int32))), .val (.long ((fe.toInt64 * (86399 : Int64)) + (1 : Int64))), .second, .unset, .unset] []))
      refine Go.s (fun k => XT.lloadN X1.here hx rfl (hb hby at_61) rfl k) ?_
      show Go p.tables e below P (T1.setTop (mkF m 62 #[.val (.int p0), .val (.long q1), .second, .val (.int p2), .val (.int fe), .val (.long (fe.toInt64 * (86400 : Int64))), .second, .unset, .unset, .val (.int (p2 &&& (3 : Int32))), .val (.long ((fe.toInt64 * (86399 : Int64)) + (1 : Int64))), .second, .unset, .unset] [(.long q1)]))
      refine Go.s (fun k => X1.ldc2J hx hown (mvT hZ (hw _ (List.mem_of_getElem? (i := 12) rfl))) rfl (hb hby at_62) k) ?_
      show Go p.tables e below P (T1.setTop (mkF m 65 #[.val (.int p0), .val (.long q1), .second, .val (.int p2), .val (.int fe), .val (.long (fe.toInt64 * (86400 : Int64))), .second, .unset, .unset, .val (.int (p2 &&& (3 : Int32))), .val (.long ((fe.toInt64 * (86399 : Int64)) + (1 : Int64))), .second, .unset, .unset] [(.long (9223372036854775807 : Int64)), (.long q1)]))
      refine Go.s (fun k => XT.land X1.here hx rfl (hb hby at_65) rfl k) ?_
      show Go p.tables e below P (T1.setTop (mkF m 66 #[.val (.int p0), .val (.long q1), .second, .val (.int p2), .val (.int fe), .val (.long (fe.toInt64 * (86400 : Int64))), .second, .unset, .unset, .val (.int (p2 &&& (3 : Int32))), .val (.long ((fe.toInt64 * (86399 : Int64)) + (1 : Int64))), .second, .unset, .unset] [(.long (q1 &&& (9223372036854775807 : Int64)))]))
      refine Go.s (fun k => XT.lload X1.here hx rfl (hb hby at_66) rfl k) ?_
      show Go p.tables e below P (T1.setTop (mkF m 68 #[.val (.int p0), .val (.long q1), .second, .val (.int p2), .val (.int fe), .val (.long (fe.toInt64 * (86400 : Int64))), .second, .unset, .unset, .val (.int (p2 &&& (3 : Int32))), .val (.long ((fe.toInt64 * (86399 : Int64)) + (1 : Int64))), .second, .unset, .unset] [(.long ((fe.toInt64 * (86399 : Int64)) + (1 : Int64))), (.long (q1 &&& (9223372036854775807 : Int64)))]))
      refine Go.s (fun k => lremM X1 hx rfl (hb hby at_68) rfl (own_rne fe h1) k) ?_
      show Go p.tables e below P (T1.setTop (mkF m 69 #[.val (.int p0), .val (.long q1), .second, .val (.int p2), .val (.int fe), .val (.long (fe.toInt64 * (86400 : Int64))), .second, .unset, .unset, .val (.int (p2 &&& (3 : Int32))), .val (.long ((fe.toInt64 * (86399 : Int64)) + (1 : Int64))), .second, .unset, .unset] [(.long ((q1 &&& (9223372036854775807 : Int64)) % ((fe.toInt64 * (86399 : Int64)) + (1 : Int64))))]))
      refine Go.s (fun k => XT.lstore X1.here hx rfl (hb hby at_69) rfl (l' := #[.val (.int p0), .val (.long q1), .second, .val (.int p2), .val (.int fe), .val (.long (fe.toInt64 * (86400 : Int64))), .second, .unset, .unset, .val (.int (p2 &&& (3 : Int32))), .val (.long ((fe.toInt64 * (86399 : Int64)) + (1 : Int64))), .second, .val (.long ((q1 &&& (9223372036854775807 : Int64)) % ((fe.toInt64 * (86399 : Int64)) + (1 : Int64)))), .second]) rfl k) ?_
      show Go p.tables e below P (T1.setTop (mkF m 71 #[.val (.int p0), .val (.long q1), .second, .val (.int p2), .val (.int fe), .val (.long (fe.toInt64 * (86400 : Int64))), .second, .unset, .unset, .val (.int (p2 &&& (3 : Int32))), .val (.long ((fe.toInt64 * (86399 : Int64)) + (1 : Int64))), .second, .val (.long ((q1 &&& (9223372036854775807 : Int64)) % ((fe.toInt64 * (86399 : Int64)) + (1 : Int64)))), .second] []))
      refine Go.s (fun k => XS.iload X1.here hx rfl (hb hby at_71) rfl k) ?_
      show Go p.tables e below P (T1.setTop (mkF m 73 #[.val (.int p0), .val (.long q1), .second, .val (.int p2), .val (.int fe), .val (.long (fe.toInt64 * (86400 : Int64))), .second, .unset, .unset, .val (.int (p2 &&& (3 : Int32))), .val (.long ((fe.toInt64 * (86399 : Int64)) + (1 : Int64))), .second, .val (.long ((q1 &&& (9223372036854775807 : Int64)) % ((fe.toInt64 * (86399 : Int64)) + (1 : Int64)))), .second] [(.int fe)]))
      refine Go.s (fun k => XT.i2l X1.here hx rfl (hb hby at_73) rfl k) ?_
      show Go p.tables e below P (T1.setTop (mkF m 74 #[.val (.int p0), .val (.long q1), .second, .val (.int p2), .val (.int fe), .val (.long (fe.toInt64 * (86400 : Int64))), .second, .unset, .unset, .val (.int (p2 &&& (3 : Int32))), .val (.long ((fe.toInt64 * (86399 : Int64)) + (1 : Int64))), .second, .val (.long ((q1 &&& (9223372036854775807 : Int64)) % ((fe.toInt64 * (86399 : Int64)) + (1 : Int64)))), .second] [(.long fe.toInt64)]))
      refine Go.s (fun k => XT.lload X1.here hx rfl (hb hby at_74) rfl k) ?_
      show Go p.tables e below P (T1.setTop (mkF m 76 #[.val (.int p0), .val (.long q1), .second, .val (.int p2), .val (.int fe), .val (.long (fe.toInt64 * (86400 : Int64))), .second, .unset, .unset, .val (.int (p2 &&& (3 : Int32))), .val (.long ((fe.toInt64 * (86399 : Int64)) + (1 : Int64))), .second, .val (.long ((q1 &&& (9223372036854775807 : Int64)) % ((fe.toInt64 * (86399 : Int64)) + (1 : Int64)))), .second] [(.long ((q1 &&& (9223372036854775807 : Int64)) % ((fe.toInt64 * (86399 : Int64)) + (1 : Int64)))), (.long fe.toInt64)]))
      refine Go.s (fun k => XT.ladd X1.here hx rfl (hb hby at_76) rfl k) ?_
      show Go p.tables e below P (T1.setTop (mkF m 77 #[.val (.int p0), .val (.long q1), .second, .val (.int p2), .val (.int fe), .val (.long (fe.toInt64 * (86400 : Int64))), .second, .unset, .unset, .val (.int (p2 &&& (3 : Int32))), .val (.long ((fe.toInt64 * (86399 : Int64)) + (1 : Int64))), .second, .val (.long ((q1 &&& (9223372036854775807 : Int64)) % ((fe.toInt64 * (86399 : Int64)) + (1 : Int64)))), .second] [(.long (fe.toInt64 + ((q1 &&& (9223372036854775807 : Int64)) % ((fe.toInt64 * (86399 : Int64)) + (1 : Int64)))))]))
      refine Go.s (fun k => XT.lstore X1.here hx rfl (hb hby at_77) rfl (l' := #[.val (.int p0), .val (.long q1), .second, .val (.int p2), .val (.int fe), .val (.long (fe.toInt64 * (86400 : Int64))), .second, .val (.long (fe.toInt64 + ((q1 &&& (9223372036854775807 : Int64)) % ((fe.toInt64 * (86399 : Int64)) + (1 : Int64))))), .second, .val (.int (p2 &&& (3 : Int32))), .val (.long ((fe.toInt64 * (86399 : Int64)) + (1 : Int64))), .second, .val (.long ((q1 &&& (9223372036854775807 : Int64)) % ((fe.toInt64 * (86399 : Int64)) + (1 : Int64)))), .second]) rfl k) ?_
      show Go p.tables e below P (T1.setTop (mkF m 79 #[.val (.int p0), .val (.long q1), .second, .val (.int p2), .val (.int fe), .val (.long (fe.toInt64 * (86400 : Int64))), .second, .val (.long (fe.toInt64 + ((q1 &&& (9223372036854775807 : Int64)) % ((fe.toInt64 * (86399 : Int64)) + (1 : Int64))))), .second, .val (.int (p2 &&& (3 : Int32))), .val (.long ((fe.toInt64 * (86399 : Int64)) + (1 : Int64))), .second, .val (.long ((q1 &&& (9223372036854775807 : Int64)) % ((fe.toInt64 * (86399 : Int64)) + (1 : Int64)))), .second] []))
      obtain ⟨hp1, hp2⟩ := own_off q1 fe h1
      refine Go.s (fun k => XS.iload X1.here hx rfl (hb hby at_79) rfl k) ?_
      show Go p.tables e below P (T1.setTop (mkF m 81 #[.val (.int p0), .val (.long q1), .second, .val (.int p2), .val (.int fe), .val (.long (fe.toInt64 * (86400 : Int64))), .second, .val (.long (fe.toInt64 + ((q1 &&& (9223372036854775807 : Int64)) % ((fe.toInt64 * (86399 : Int64)) + (1 : Int64))))), .second, .val (.int (p2 &&& (3 : Int32))), .val (.long ((fe.toInt64 * (86399 : Int64)) + (1 : Int64))), .second, .val (.long ((q1 &&& (9223372036854775807 : Int64)) % ((fe.toInt64 * (86399 : Int64)) + (1 : Int64)))), .second] [(.int fe)]))
      refine Go.s (fun k => XT.lload X1.here hx rfl (hb hby at_81) rfl k) ?_
      show Go p.tables e below P (T1.setTop (mkF m 83 #[.val (.int p0), .val (.long q1), .second, .val (.int p2), .val (.int fe), .val (.long (fe.toInt64 * (86400 : Int64))), .second, .val (.long (fe.toInt64 + ((q1 &&& (9223372036854775807 : Int64)) % ((fe.toInt64 * (86399 : Int64)) + (1 : Int64))))), .second, .val (.int (p2 &&& (3 : Int32))), .val (.long ((fe.toInt64 * (86399 : Int64)) + (1 : Int64))), .second, .val (.long ((q1 &&& (9223372036854775807 : Int64)) % ((fe.toInt64 * (86399 : Int64)) + (1 : Int64)))), .second] [(.long (fe.toInt64 + ((q1 &&& (9223372036854775807 : Int64)) % ((fe.toInt64 * (86399 : Int64)) + (1 : Int64))))), (.int fe)]))
      obtain ⟨v4, T4, L4, X4, Q4, st4⟩ := Con.static (own_rm2 l Z a0 hw [] fe (fe.toInt64 + ((q1 &&& (9223372036854775807 : Int64)) % ((fe.toInt64 * (86399 : Int64)) + (1 : Int64)))) h0 n0 Z0  hp1 hp2) X1 hx hZ (W := 0) hown (hw _ (List.mem_of_getElem? (i := 6) rfl)) (hw _ (List.mem_of_getElem? (i := 7) rfl)) (hw _ (List.mem_of_getElem? (i := 8) rfl)) (hw _ (List.mem_of_getElem? (i := 9) rfl)) (by decide) (by decide) (by decide) (by decide) (by decide) e1 (g := (mkF m 83 #[.val (.int p0), .val (.long q1), .second, .val (.int p2), .val (.int fe), .val (.long (fe.toInt64 * (86400 : Int64))), .second, .val (.long (fe.toInt64 + ((q1 &&& (9223372036854775807 : Int64)) % ((fe.toInt64 * (86399 : Int64)) + (1 : Int64))))), .second, .val (.int (p2 &&& (3 : Int32))), .val (.long ((fe.toInt64 * (86399 : Int64)) + (1 : Int64))), .second, .val (.long ((q1 &&& (9223372036854775807 : Int64)) % ((fe.toInt64 * (86399 : Int64)) + (1 : Int64)))), .second] [(.long (fe.toInt64 + ((q1 &&& (9223372036854775807 : Int64)) % ((fe.toInt64 * (86399 : Int64)) + (1 : Int64))))), (.int fe)])) rfl (by rw [hml]; rfl) (argsL := [(.int fe), (.long (fe.toInt64 + ((q1 &&& (9223372036854775807 : Int64)) % ((fe.toInt64 * (86399 : Int64)) + (1 : Int64)))))]) (rest := []) rfl (lenOf own_pd_1 rfl) rfl (by show 2 * 0 + _ ≤ _; exact Nat.le_of_eq rfl) (hb hby at_83)
      obtain ⟨rfl, Nq4, e4⟩ := Q4
      have N4 := Fr.app N1 Nq4
      refine Go.s (fun {t} => st4) ?_
      show Go p.tables e below P (T4.setTop (mkF m 86 #[.val (.int p0), .val (.long q1), .second, .val (.int p2), .val (.int fe), .val (.long (fe.toInt64 * (86400 : Int64))), .second, .val (.long (fe.toInt64 + ((q1 &&& (9223372036854775807 : Int64)) % ((fe.toInt64 * (86399 : Int64)) + (1 : Int64))))), .second, .val (.int (p2 &&& (3 : Int32))), .val (.long ((fe.toInt64 * (86399 : Int64)) + (1 : Int64))), .second, .val (.long ((q1 &&& (9223372036854775807 : Int64)) % ((fe.toInt64 * (86399 : Int64)) + (1 : Int64)))), .second] []))
      refine Go.s (fun k => XT.lload X4.here hx rfl (hb hby at_86) rfl k) ?_
      show Go p.tables e below P (T4.setTop (mkF m 88 #[.val (.int p0), .val (.long q1), .second, .val (.int p2), .val (.int fe), .val (.long (fe.toInt64 * (86400 : Int64))), .second, .val (.long (fe.toInt64 + ((q1 &&& (9223372036854775807 : Int64)) % ((fe.toInt64 * (86399 : Int64)) + (1 : Int64))))), .second, .val (.int (p2 &&& (3 : Int32))), .val (.long ((fe.toInt64 * (86399 : Int64)) + (1 : Int64))), .second, .val (.long ((q1 &&& (9223372036854775807 : Int64)) % ((fe.toInt64 * (86399 : Int64)) + (1 : Int64)))), .second] [(.long (fe.toInt64 + ((q1 &&& (9223372036854775807 : Int64)) % ((fe.toInt64 * (86399 : Int64)) + (1 : Int64)))))]))
      refine Go.s (fun k => XS.iload X4.here hx rfl (hb hby at_88) rfl k) ?_
      show Go p.tables e below P (T4.setTop (mkF m 90 #[.val (.int p0), .val (.long q1), .second, .val (.int p2), .val (.int fe), .val (.long (fe.toInt64 * (86400 : Int64))), .second, .val (.long (fe.toInt64 + ((q1 &&& (9223372036854775807 : Int64)) % ((fe.toInt64 * (86399 : Int64)) + (1 : Int64))))), .second, .val (.int (p2 &&& (3 : Int32))), .val (.long ((fe.toInt64 * (86399 : Int64)) + (1 : Int64))), .second, .val (.long ((q1 &&& (9223372036854775807 : Int64)) % ((fe.toInt64 * (86399 : Int64)) + (1 : Int64)))), .second] [(.int fe), (.long (fe.toInt64 + ((q1 &&& (9223372036854775807 : Int64)) % ((fe.toInt64 * (86399 : Int64)) + (1 : Int64)))))]))
      refine Go.s (fun k => XT.i2l X4.here hx rfl (hb hby at_90) rfl k) ?_
      show Go p.tables e below P (T4.setTop (mkF m 91 #[.val (.int p0), .val (.long q1), .second, .val (.int p2), .val (.int fe), .val (.long (fe.toInt64 * (86400 : Int64))), .second, .val (.long (fe.toInt64 + ((q1 &&& (9223372036854775807 : Int64)) % ((fe.toInt64 * (86399 : Int64)) + (1 : Int64))))), .second, .val (.int (p2 &&& (3 : Int32))), .val (.long ((fe.toInt64 * (86399 : Int64)) + (1 : Int64))), .second, .val (.long ((q1 &&& (9223372036854775807 : Int64)) % ((fe.toInt64 * (86399 : Int64)) + (1 : Int64)))), .second] [(.long fe.toInt64), (.long (fe.toInt64 + ((q1 &&& (9223372036854775807 : Int64)) % ((fe.toInt64 * (86399 : Int64)) + (1 : Int64)))))]))
      refine Go.s (fun k => XT.lcmp X4.here hx rfl (hb hby at_91) rfl k) ?_
      show Go p.tables e below P (T4.setTop (mkF m 92 #[.val (.int p0), .val (.long q1), .second, .val (.int p2), .val (.int fe), .val (.long (fe.toInt64 * (86400 : Int64))), .second, .val (.long (fe.toInt64 + ((q1 &&& (9223372036854775807 : Int64)) % ((fe.toInt64 * (86399 : Int64)) + (1 : Int64))))), .second, .val (.int (p2 &&& (3 : Int32))), .val (.long ((fe.toInt64 * (86399 : Int64)) + (1 : Int64))), .second, .val (.long ((q1 &&& (9223372036854775807 : Int64)) % ((fe.toInt64 * (86399 : Int64)) + (1 : Int64)))), .second] [(.int (XT.cmpL (fe.toInt64 + ((q1 &&& (9223372036854775807 : Int64)) % ((fe.toInt64 * (86399 : Int64)) + (1 : Int64)))) fe.toInt64))]))
      refine Go.s (fun k => XS.ifNo X4.here hx rfl (hb hby at_92) rfl (XT.ll_lt_f hp1) k) ?_
      show Go p.tables e below P (T4.setTop (mkF m 95 #[.val (.int p0), .val (.long q1), .second, .val (.int p2), .val (.int fe), .val (.long (fe.toInt64 * (86400 : Int64))), .second, .val (.long (fe.toInt64 + ((q1 &&& (9223372036854775807 : Int64)) % ((fe.toInt64 * (86399 : Int64)) + (1 : Int64))))), .second, .val (.int (p2 &&& (3 : Int32))), .val (.long ((fe.toInt64 * (86399 : Int64)) + (1 : Int64))), .second, .val (.long ((q1 &&& (9223372036854775807 : Int64)) % ((fe.toInt64 * (86399 : Int64)) + (1 : Int64)))), .second] []))
      refine Go.s (fun k => XT.lload X4.here hx rfl (hb hby at_95) rfl k) ?_
      show Go p.tables e below P (T4.setTop (mkF m 97 #[.val (.int p0), .val (.long q1), .second, .val (.int p2), .val (.int fe), .val (.long (fe.toInt64 * (86400 : Int64))), .second, .val (.long (fe.toInt64 + ((q1 &&& (9223372036854775807 : Int64)) % ((fe.toInt64 * (86399 : Int64)) + (1 : Int64))))), .second, .val (.int (p2 &&& (3 : Int32))), .val (.long ((fe.toInt64 * (86399 : Int64)) + (1 : Int64))), .second, .val (.long ((q1 &&& (9223372036854775807 : Int64)) % ((fe.toInt64 * (86399 : Int64)) + (1 : Int64)))), .second] [(.long (fe.toInt64 + ((q1 &&& (9223372036854775807 : Int64)) % ((fe.toInt64 * (86399 : Int64)) + (1 : Int64)))))]))
      refine Go.s (fun k => XT.lload X4.here hx rfl (hb hby at_97) rfl k) ?_
      show Go p.tables e below P (T4.setTop (mkF m 99 #[.val (.int p0), .val (.long q1), .second, .val (.int p2), .val (.int fe), .val (.long (fe.toInt64 * (86400 : Int64))), .second, .val (.long (fe.toInt64 + ((q1 &&& (9223372036854775807 : Int64)) % ((fe.toInt64 * (86399 : Int64)) + (1 : Int64))))), .second, .val (.int (p2 &&& (3 : Int32))), .val (.long ((fe.toInt64 * (86399 : Int64)) + (1 : Int64))), .second, .val (.long ((q1 &&& (9223372036854775807 : Int64)) % ((fe.toInt64 * (86399 : Int64)) + (1 : Int64)))), .second] [(.long (fe.toInt64 * (86400 : Int64))), (.long (fe.toInt64 + ((q1 &&& (9223372036854775807 : Int64)) % ((fe.toInt64 * (86399 : Int64)) + (1 : Int64)))))]))
      refine Go.s (fun k => XT.lcmp X4.here hx rfl (hb hby at_99) rfl k) ?_
      show Go p.tables e below P (T4.setTop (mkF m 100 #[.val (.int p0), .val (.long q1), .second, .val (.int p2), .val (.int fe), .val (.long (fe.toInt64 * (86400 : Int64))), .second, .val (.long (fe.toInt64 + ((q1 &&& (9223372036854775807 : Int64)) % ((fe.toInt64 * (86399 : Int64)) + (1 : Int64))))), .second, .val (.int (p2 &&& (3 : Int32))), .val (.long ((fe.toInt64 * (86399 : Int64)) + (1 : Int64))), .second, .val (.long ((q1 &&& (9223372036854775807 : Int64)) % ((fe.toInt64 * (86399 : Int64)) + (1 : Int64)))), .second] [(.int (XT.cmpL (fe.toInt64 + ((q1 &&& (9223372036854775807 : Int64)) % ((fe.toInt64 * (86399 : Int64)) + (1 : Int64)))) (fe.toInt64 * (86400 : Int64))))]))
      refine Go.s (fun k => XS.ifNo X4.here hx rfl (hb hby at_100) rfl (XT.ll_gt_f hp2) k) ?_
      show Go p.tables e below P (T4.setTop (mkF m 103 #[.val (.int p0), .val (.long q1), .second, .val (.int p2), .val (.int fe), .val (.long (fe.toInt64 * (86400 : Int64))), .second, .val (.long (fe.toInt64 + ((q1 &&& (9223372036854775807 : Int64)) % ((fe.toInt64 * (86399 : Int64)) + (1 : Int64))))), .second, .val (.int (p2 &&& (3 : Int32))), .val (.long ((fe.toInt64 * (86399 : Int64)) + (1 : Int64))), .second, .val (.long ((q1 &&& (9223372036854775807 : Int64)) % ((fe.toInt64 * (86399 : Int64)) + (1 : Int64)))), .second] []))
      refine Go.s (fun k => XS.iconst X4.here hx rfl (hb hby at_103) k) ?_
      show Go p.tables e below P (T4.setTop (mkF m 104 #[.val (.int p0), .val (.long q1), .second, .val (.int p2), .val (.int fe), .val (.long (fe.toInt64 * (86400 : Int64))), .second, .val (.long (fe.toInt64 + ((q1 &&& (9223372036854775807 : Int64)) % ((fe.toInt64 * (86399 : Int64)) + (1 : Int64))))), .second, .val (.int (p2 &&& (3 : Int32))), .val (.long ((fe.toInt64 * (86399 : Int64)) + (1 : Int64))), .second, .val (.long ((q1 &&& (9223372036854775807 : Int64)) % ((fe.toInt64 * (86399 : Int64)) + (1 : Int64)))), .second] [(.int (1 : Int32))]))
      refine Go.s (fun k => XS.goto X4.here hx rfl (pc0 := 104) (pc' := 108) rfl (hb hby at_104) (by decide) (by decide) k) ?_
      show Go p.tables e below P (T4.setTop (mkF m 108 #[.val (.int p0), .val (.long q1), .second, .val (.int p2), .val (.int fe), .val (.long (fe.toInt64 * (86400 : Int64))), .second, .val (.long (fe.toInt64 + ((q1 &&& (9223372036854775807 : Int64)) % ((fe.toInt64 * (86399 : Int64)) + (1 : Int64))))), .second, .val (.int (p2 &&& (3 : Int32))), .val (.long ((fe.toInt64 * (86399 : Int64)) + (1 : Int64))), .second, .val (.long ((q1 &&& (9223372036854775807 : Int64)) % ((fe.toInt64 * (86399 : Int64)) + (1 : Int64)))), .second] [(.int (1 : Int32))]))
      exact Go.retZ X4 hx hlk hret (by decide) (hb hby at_108) (fun U hU hF => hP U _ _ ⟨rfl, N4⟩ ⟨hF.1, hF.2.1, hF.2.2.mono (by decide) (by decide)⟩)
set_option maxRecDepth 65536 in
set_option maxHeartbeats 40000000 in
theorem own_comes {Post : Tables → Env → Array Value → State → Outcome → State → Prop} (hpost : ∀ tb e args s v u, (limb_1_1.after args s (.returned v) u = true ∧ limb_1_2.after args s (.returned v) u = true ∧ True) → FrameEnd s (.returned v) u (Jvm.fieldLocs frame_1_writes args s ++ Jvm.arrayLocs frame_1_arrays args s ++ Jvm.staticLocs frame_1_statics s) 0 0 → Post tb e args s (.returned v) u) :
    ArmFor flags0 classFile x code maxLocals ret World_1 tables_1 room_1 Calls_1 rest_1 Pre_1 Post := by
  intro l hfl _ _ p e ha hc hk s m args below hf hA hF happ hP
  obtain ⟨hcalls, hrest, hpre⟩ := hP
  obtain ⟨-, -, -, hnamed, -, -, -, hat⟩ := (Spec.applies_iff hf).mp happ
  obtain ⟨hg, hn⟩ := and_e (Cond.before_iff.mp (show (Jvm.Cond.and given_1 narrow_1).before args s = true from hpre))
  obtain ⟨h1, g1⟩ := and_e hg
  obtain ⟨w0, w1, w2, rfl⟩ : ∃ w0 w1 w2 : Value, args = #[w0, w1, w2] := by
    have hs : args.size = 3 := by simpa [Cond.value, given_1] using h1
    obtain ⟨L⟩ := args
    match L, hs with
    | [w0, w1, w2], _ => exact ⟨w0, w1, w2, rfl⟩
  have hw := fun d (hd : d ∈ tables_1) => atoms_spec (ws := Jvm.Cond.code x code maxLocals ret :: tables_1) hat d (List.mem_cons_of_mem _ hd)
  have hfit : Fit s := fun {y c} hc i hi => by
    obtain ⟨ha, rfl⟩ := Array.getElem?_eq_some_iff.mp hc
    have q := List.all_eq_true.mp ((Array.all_eq_true_iff_forall_mem.mp hF) _ (Array.getElem_mem ha)) i (List.mem_range.mpr hi)
    simpa [Array.getElem?_eq_getElem hi] using q
  obtain ⟨a0, g2⟩ := and_e g1
  obtain ⟨i0, ee0⟩ := is_v a0
  obtain rfl : w0 = (.int i0) := Option.some.inj ee0
  obtain ⟨a1, g3⟩ := and_e g2
  obtain ⟨i1, ee1⟩ := isL_v a1
  obtain rfl : w1 = (.long i1) := Option.some.inj ee1
  obtain ⟨i2, ee2⟩ := is_v g3
  obtain rfl : w2 = (.int i2) := Option.some.inj ee2
  obtain ⟨n, o, h1, h2, h3, _, L, rfl, ⟨rfl, N⟩, hq⟩ := own_rm0 l s _ hw tables_1 i0 i1 i2  s.heap s.heap.size (Nat.le_refl _)  p e ha hc hk s m _ below hf ((Spec.applies_iff_loose hf).mp happ).1 ⟨rfl, State.Warmed39.refl s, rfl⟩ trivial
  refine ⟨n, _, h1, h2, h3, hpost _ _ _ _ _ _ ⟨Cond.after_iff.mpr rfl, Cond.after_iff.mpr (eq_i res_at (Term.int_eval (1)) rfl), trivial⟩ ⟨hq.1, hq.2.1, (hq.2.2.sift fun y hy => Or.inr (N y hy)).mono (by decide) (by decide)⟩⟩
theorem main_1_1 : Claimed_1_1 := own_comes fun _ _ _ _ _ _ h hF => ⟨h.1, hF⟩
theorem main_1_2 : Claimed_1_2 := own_comes fun _ _ _ _ _ _ h hF => ⟨h.2.1, hF⟩
end Jvm.Pilot.@@N@@
namespace Jvm.Pilot.@@N@@
open Jvm Jvm.ClassFile Sem Op Lib Jvm.Free Jvm.Stand Jvm.Pilot.@@N@@.Jvm.D
/-! MADE BY PROGRAM (witnessworld.py) out of the Statement's table words and the real class files: 13 classes; the members and pool entries that the words name. The judged class is class 1, her method 1. -/
namespace start1
open Jvm.ClassFile
def u (s : String) : CpInfo := .utf8 (stringToUtf16 s)
/-- a pool by its gaps: so many unusable entries, then the entry; so many at the end -/
def gap : Nat → List CpInfo → List CpInfo
  | 0, r => r
  | n + 1, r => .unusable :: gap n r
def poolList (es : List (Nat × CpInfo)) (last : Nat) : List CpInfo := es.foldr (fun e r => gap e.1 (e.2 :: r)) (gap last [])
def pool (es : List (Nat × CpInfo)) (last : Nat) : Array CpInfo := ⟨poolList es last⟩
def fileOf (pool : Array CpInfo) (this : Nat) (attrs : Array Attribute := #[]) (ms : Array MethodInfo := #[]) (fl : Nat := 33) (sup : Nat := 0) (ifs : Array Nat := #[]) (fds : Array FieldInfo := #[]) : ClassFile where
  minorVersion := 0
  majorVersion := 65
  constantPool := pool
  accessFlags := fl
  thisClass := this
  superClass := sup
  interfaces := ifs
  fields := fds
  methods := ms
  attributes := attrs
def plain (name : String) (sup : Option ClassId) : Class where
  name := name
  kind := .ordinary
  loader := none
  accessFlags := 33
  super := sup
  interfaces := #[]
  cf := none
  fields := #[]
  methods := #[]
  instanceTypes := #[]
  staticTypes := #[]
  resolved := #[]
  callSites := []
  init := .initialized
  statics := none
  mirror := none

def pool0 : Array CpInfo := pool [(5, u "<init>"), (0, u "()V"), (1, .class_ 10), (1, u "java/lang/Object")] 113

def k0m0 : Method := { name := "<init>", desc := "()V", sig := { parameters := [], returnType := none }, accessFlags := 1, code := none }
/-- java/lang/Object -/
def k0 : Class := { plain "java/lang/Object" none with
  accessFlags := 33
  interfaces := #[]
  cf := some (fileOf pool0 8 #[] #[{ accessFlags := 1, nameIndex := 5, descriptorIndex := 6, attributes := #[] }] 33 0 #[] #[])
  fields := #[]
  methods := #[k0m0]
  instanceTypes := #[]
  staticTypes := #[]
  resolved := Array.replicate 124 none
  statics := none }

def pool1 : Array CpInfo := pool [(2, .class_ 4), (1, u "java/lang/Object"), (0, u "<init>"), (0, u "()V"), (0, .integer 2147483647), (0, .methodref 9 10), (0, .class_ 11), (0, .nameAndType 12 13), (0, u "java/lang/Math"), (0, u "max"), (0, u "(II)I"), (0, .long 86400), (1, .long 86399), (3, .long 9223372036854775807), (1, .methodref 23 24), (0, .class_ 25), (0, .nameAndType 26 27), (0, u "com/example/tempo_feed/tempofeed/core/PollingPolicy"), (0, u "checkBudget"), (0, u "(IJ)V"), (0, .class_ 29), (0, u "com/example/tempo_feed/tempofeed/core/PollingPolicyCheckBudgetPinLaw"), (2, u "law"), (0, u "(IJI)Z")] 3

def k1m0 : Method := { name := "<init>", desc := "()V", sig := { parameters := [], returnType := none }, accessFlags := 2, code := none }
def k1c1 : Code := { maxStack := 4, maxLocals := 14, code := code, exceptionTable := #[], attributes := #[] }
def k1m1 : Method := { name := "law", desc := "(IJI)Z", sig := { parameters := [.int, .long, .int], returnType := some .boolean }, accessFlags := 9, code := some k1c1 }
/-- com/example/tempo_feed/tempofeed/core/PollingPolicyCheckBudgetPinLaw -/
def k1 : Class := { plain "com/example/tempo_feed/tempofeed/core/PollingPolicyCheckBudgetPinLaw" (some 0) with
  accessFlags := 49
  interfaces := #[]
  cf := some (fileOf pool1 28 #[] #[{ accessFlags := 2, nameIndex := 5, descriptorIndex := 6, attributes := #[] }, { accessFlags := 9, nameIndex := 32, descriptorIndex := 33, attributes := #[] }] 49 2 #[] #[])
  fields := #[]
  methods := #[k1m0, k1m1]
  instanceTypes := #[]
  staticTypes := #[]
  resolved := Array.replicate 37 none
  statics := none }

def pool2 : Array CpInfo := pool [(1, .class_ 2), (0, u "java/lang/Math"), (1, .class_ 6), (1, u "java/lang/Object"), (0, u "<init>"), (0, u "()V"), (89, .class_ 100), (1, u "java/lang/Math$RandomNumberGeneratorHolder"), (71, u "negativeZeroFloatBits"), (0, u "J"), (2, u "negativeZeroDoubleBits"), (21, u "max"), (46, u "$assertionsDisabled"), (0, u "Z"), (88, u "(II)I"), (2, u "twoToTheDoubleScaleDown"), (0, u "D"), (4, u "twoToTheDoubleScaleUp"), (9, u "E"), (3, u "PI"), (2, u "TAU"), (2, u "DEGREES_TO_RADIANS"), (0, u "RADIANS_TO_DEGREES")] 94

def k2m0 : Method := { name := "<init>", desc := "()V", sig := { parameters := [], returnType := none }, accessFlags := 2, code := none }
def k2c1 : Code := { maxStack := 2, maxLocals := 2, code := jdk_29_method_65_code, exceptionTable := #[], attributes := #[] }
def k2m1 : Method := { name := "max", desc := "(II)I", sig := { parameters := [.int, .int], returnType := some .int }, accessFlags := 9, code := some k2c1 }
/-- java/lang/Math -/
def k2 : Class := { plain "java/lang/Math" (some 0) with
  accessFlags := 49
  interfaces := #[]
  cf := some (fileOf pool2 1 #[.nestMembers #[98]] #[{ accessFlags := 2, nameIndex := 7, descriptorIndex := 8, attributes := #[] }, { accessFlags := 9, nameIndex := 198, descriptorIndex := 335, attributes := #[] }] 49 4 #[] #[{ accessFlags := 25, nameIndex := 354, descriptorIndex := 339, attributes := #[] }, { accessFlags := 25, nameIndex := 358, descriptorIndex := 339, attributes := #[] }, { accessFlags := 25, nameIndex := 361, descriptorIndex := 339, attributes := #[] }, { accessFlags := 26, nameIndex := 364, descriptorIndex := 339, attributes := #[] }, { accessFlags := 26, nameIndex := 365, descriptorIndex := 339, attributes := #[] }, { accessFlags := 26, nameIndex := 172, descriptorIndex := 173, attributes := #[] }, { accessFlags := 26, nameIndex := 176, descriptorIndex := 173, attributes := #[] }, { accessFlags := 8, nameIndex := 344, descriptorIndex := 339, attributes := #[] }, { accessFlags := 8, nameIndex := 338, descriptorIndex := 339, attributes := #[] }, { accessFlags := 4120, nameIndex := 245, descriptorIndex := 246, attributes := #[] }])
  fields := #[{ name := "E", type := .double, accessFlags := 25, slot := 0, constantValue := 0 }, { name := "PI", type := .double, accessFlags := 25, slot := 1, constantValue := 0 }, { name := "TAU", type := .double, accessFlags := 25, slot := 2, constantValue := 0 }, { name := "DEGREES_TO_RADIANS", type := .double, accessFlags := 26, slot := 3, constantValue := 0 }, { name := "RADIANS_TO_DEGREES", type := .double, accessFlags := 26, slot := 4, constantValue := 0 }, { name := "negativeZeroFloatBits", type := .long, accessFlags := 26, slot := 5, constantValue := 0 }, { name := "negativeZeroDoubleBits", type := .long, accessFlags := 26, slot := 6, constantValue := 0 }, { name := "twoToTheDoubleScaleUp", type := .double, accessFlags := 8, slot := 7, constantValue := 0 }, { name := "twoToTheDoubleScaleDown", type := .double, accessFlags := 8, slot := 8, constantValue := 0 }, { name := "$assertionsDisabled", type := .boolean, accessFlags := 4120, slot := 9, constantValue := 0 }]
  methods := #[k2m0, k2m1]
  instanceTypes := #[]
  staticTypes := #[.double, .double, .double, .double, .double, .long, .long, .double, .double, .boolean]
  resolved := Array.replicate 460 none
  statics := none }

def pool3 : Array CpInfo := pool [(1, .class_ 2), (0, u "java/lang/constant/Constable"), (0, .class_ 4), (0, u "java/lang/Object")] 6

/-- java/lang/constant/Constable -/
def k3 : Class := { plain "java/lang/constant/Constable" (some 0) with
  accessFlags := 1537
  interfaces := #[]
  cf := some (fileOf pool3 1 #[] #[] 1537 3 #[] #[])
  fields := #[]
  methods := #[]
  instanceTypes := #[]
  staticTypes := #[]
  resolved := Array.replicate 11 none
  statics := none }

def pool4 : Array CpInfo := pool [(1, .class_ 2), (0, u "java/lang/Comparable"), (0, .class_ 4), (0, u "java/lang/Object")] 7

/-- java/lang/Comparable -/
def k4 : Class := { plain "java/lang/Comparable" (some 0) with
  accessFlags := 1537
  interfaces := #[]
  cf := some (fileOf pool4 1 #[] #[] 1537 3 #[] #[])
  fields := #[]
  methods := #[]
  instanceTypes := #[]
  staticTypes := #[]
  resolved := Array.replicate 12 none
  statics := none }

def pool5 : Array CpInfo := pool [(1, .class_ 2), (0, u "java/io/Serializable"), (0, .class_ 4), (0, u "java/lang/Object")] 2

/-- java/io/Serializable -/
def k5 : Class := { plain "java/io/Serializable" (some 0) with
  accessFlags := 1537
  interfaces := #[]
  cf := some (fileOf pool5 1 #[] #[] 1537 3 #[] #[])
  fields := #[]
  methods := #[]
  instanceTypes := #[]
  staticTypes := #[]
  resolved := Array.replicate 7 none
  statics := none }

def pool6 : Array CpInfo := pool [(2, .class_ 4), (1, u "java/lang/Enum"), (0, u "name"), (0, u "Ljava/lang/String;"), (2, u "ordinal"), (0, u "I"), (1, .class_ 14), (1, u "java/lang/Object"), (4, u "hash"), (86, .class_ 108), (1, u "java/lang/Enum$EnumDesc"), (2, .class_ 112), (0, u "java/lang/constant/Constable"), (0, .class_ 114), (0, u "java/lang/Comparable"), (0, .class_ 116), (0, u "java/io/Serializable")] 87

/-- java/lang/Enum -/
def k6 : Class := { plain "java/lang/Enum" (some 0) with
  accessFlags := 1057
  interfaces := #[3, 4, 5]
  cf := some (fileOf pool6 2 #[.nestMembers #[106]] #[] 1057 12 #[111, 113, 115] #[{ accessFlags := 18, nameIndex := 5, descriptorIndex := 6, attributes := #[] }, { accessFlags := 18, nameIndex := 9, descriptorIndex := 10, attributes := #[] }, { accessFlags := 2, nameIndex := 19, descriptorIndex := 10, attributes := #[] }])
  fields := #[{ name := "name", type := (.object "java/lang/String"), accessFlags := 18, slot := 0, constantValue := 0 }, { name := "ordinal", type := .int, accessFlags := 18, slot := 1, constantValue := 0 }, { name := "hash", type := .int, accessFlags := 2, slot := 2, constantValue := 0 }]
  methods := #[]
  instanceTypes := #[(.object "java/lang/String"), .int, .int]
  staticTypes := #[]
  resolved := Array.replicate 204 none
  statics := none }

def pool7 : Array CpInfo := pool [(1, .class_ 2), (0, u "com/example/tempo_feed/tempofeed/core/PollingPolicy"), (2, u "UNIFORM"), (0, u "Lcom/example/tempo_feed/tempofeed/core/PollingPolicy;"), (2, u "ALLOCATION"), (2, u "SCHEDULING"), (2, u "COMBINED"), (2, u "$VALUES"), (0, u "[Lcom/example/tempo_feed/tempofeed/core/PollingPolicy;"), (6, .class_ 28), (1, u "java/lang/Enum"), (8, u "policyName"), (0, u "Ljava/lang/String;"), (95, u "checkBudget"), (0, u "(IJ)V"), (30, .long 86400), (113, .class_ 281), (0, u "com/example/tempo_feed/tempofeed/core/PollingPolicy$Learned"), (100, .class_ 383), (0, u "com/example/tempo_feed/tempofeed/core/PollingPolicy$Day"), (110, u "MAX_POLLS_PER_FEED_PER_DAY"), (0, u "I")] 141

def k7c0 : Code := { maxStack := 9, maxLocals := 5, code := prog_19_method_9_code, exceptionTable := #[], attributes := #[] }
def k7m0 : Method := { name := "checkBudget", desc := "(IJ)V", sig := { parameters := [.int, .long], returnType := none }, accessFlags := 9, code := some k7c0 }
/-- com/example/tempo_feed/tempofeed/core/PollingPolicy -/
def k7 : Class := { plain "com/example/tempo_feed/tempofeed/core/PollingPolicy" (some 6) with
  accessFlags := 16433
  interfaces := #[]
  cf := some (fileOf pool7 1 #[.nestMembers #[382, 280]] #[{ accessFlags := 9, nameIndex := 134, descriptorIndex := 135, attributes := #[] }] 16433 26 #[] #[{ accessFlags := 16409, nameIndex := 5, descriptorIndex := 6, attributes := #[] }, { accessFlags := 16409, nameIndex := 9, descriptorIndex := 6, attributes := #[] }, { accessFlags := 16409, nameIndex := 12, descriptorIndex := 6, attributes := #[] }, { accessFlags := 16409, nameIndex := 15, descriptorIndex := 6, attributes := #[] }, { accessFlags := 25, nameIndex := 494, descriptorIndex := 495, attributes := #[] }, { accessFlags := 18, nameIndex := 37, descriptorIndex := 38, attributes := #[] }, { accessFlags := 4122, nameIndex := 18, descriptorIndex := 19, attributes := #[] }])
  fields := #[{ name := "UNIFORM", type := (.object "com/example/tempo_feed/tempofeed/core/PollingPolicy"), accessFlags := 16409, slot := 0, constantValue := 0 }, { name := "ALLOCATION", type := (.object "com/example/tempo_feed/tempofeed/core/PollingPolicy"), accessFlags := 16409, slot := 1, constantValue := 0 }, { name := "SCHEDULING", type := (.object "com/example/tempo_feed/tempofeed/core/PollingPolicy"), accessFlags := 16409, slot := 2, constantValue := 0 }, { name := "COMBINED", type := (.object "com/example/tempo_feed/tempofeed/core/PollingPolicy"), accessFlags := 16409, slot := 3, constantValue := 0 }, { name := "MAX_POLLS_PER_FEED_PER_DAY", type := .int, accessFlags := 25, slot := 4, constantValue := 0 }, { name := "policyName", type := (.object "java/lang/String"), accessFlags := 18, slot := 3, constantValue := 0 }, { name := "$VALUES", type := (.array (.object "com/example/tempo_feed/tempofeed/core/PollingPolicy")), accessFlags := 4122, slot := 5, constantValue := 0 }]
  methods := #[k7m0]
  instanceTypes := #[(.object "java/lang/String"), .int, .int, (.object "java/lang/String")]
  staticTypes := #[(.object "com/example/tempo_feed/tempofeed/core/PollingPolicy"), (.object "com/example/tempo_feed/tempofeed/core/PollingPolicy"), (.object "com/example/tempo_feed/tempofeed/core/PollingPolicy"), (.object "com/example/tempo_feed/tempofeed/core/PollingPolicy"), .int, (.array (.object "com/example/tempo_feed/tempofeed/core/PollingPolicy"))]
  resolved := Array.replicate 637 none
  statics := none }

def pool8 : Array CpInfo := pool [(1, u "java/lang/Cloneable"), (0, .class_ 1), (0, u "java/lang/Object"), (0, .class_ 3)] 3

/-- java/lang/Cloneable -/
def k8 : Class := { plain "java/lang/Cloneable" (some 0) with
  accessFlags := 1537
  interfaces := #[]
  cf := some (fileOf pool8 2 #[] #[] 1537 4 #[] #[])
  fields := #[]
  methods := #[]
  instanceTypes := #[]
  staticTypes := #[]
  resolved := Array.replicate 8 none
  statics := none }

/-- the primitive byte -/
def k9 : Class := { plain "byte" none with kind := .primitive 'B', accessFlags := 0x411 }
/-- [B -/
def k10 : Class := { plain "[B" (some 0) with kind := .array 9 .byte, interfaces := #[8, 5], accessFlags := 1041 }

/-- the primitive int -/
def k11 : Class := { plain "int" none with kind := .primitive 'I', accessFlags := 0x411 }
/-- [I -/
def k12 : Class := { plain "[I" (some 0) with kind := .array 11 .int, interfaces := #[8, 5], accessFlags := 1041 }

def heap : Heap := #[]
def classes : Array Class := #[k0, k1, k2, k3, k4, k5, k6, k7, k8, k9, k10, k11, k12]
def interned : List (Array UInt16 × Addr) := []
def slotsUsed : Nat := 0
def theMethod : MethodId := ⟨1, 1⟩
def args0 : Array Value := #[.int 5, .long 7, .int 2]
def aboutOver (below : List Frame) : State where
  vm := { classes := classes, interned := interned.toArray }
  heap := heap
  slotsUsed := slotsUsed
  threads := #[{ frames := .invoking theMethod args0 :: below }]
def below0 : List Frame := [.native { method := ⟨0, 0⟩, args := #[] }]
def about1 : State := aboutOver below0
def p0 : Program := .bare "" "" ""
def e0 : Env := launch0.env 0 0 0
theorem w_frames : about1.frames = Frame.invoking theMethod args0 :: below0 := rfl
set_option maxRecDepth 65536 in
theorem w_args : argsFit about1.vm theMethod args0 = true := by decide +kernel
set_option maxRecDepth 65536 in
theorem w_heap : heapFits about1 = true := by decide +kernel
set_option maxRecDepth 65536 in
theorem w_runnable : about1.curStatus? = some .runnable := by decide +kernel
set_option maxRecDepth 65536 in
theorem w_alone : about1.alone = true := by decide +kernel
set_option maxRecDepth 65536 in
theorem w_named : about1.methodNamed? x = some theMethod := by decide +kernel
set_option maxRecDepth 65536 in
theorem w_hears : about1.hears theMethod below0 = true := by decide +kernel
set_option maxRecDepth 65536 in
theorem w_ripe : about1.ripe theMethod args0 below0 = true := by decide +kernel
theorem w_running : about1.status = .running := rfl
set_option maxRecDepth 65536 in
theorem w_room : about1.hasRoom e0.platform room_1 = true :=
  launch0.hasRoom_least _ room_1 (by decide +kernel) (by decide +kernel) (by decide +kernel) (by decide +kernel) (by decide +kernel) (by decide +kernel)
theorem allAtoms_all (ts : List Jvm.Cond) (a : Array Jvm.Value) (st : Jvm.State) : (allAtoms ts).before a st = ts.all (fun c => c.before a st) := by
  induction ts with
  | nil => rfl
  | cons c t ih =>
    show (Jvm.Cond.and c (allAtoms t)).before a st = _
    rw [Jvm.Cond.before_and, ih, List.all_cons]
def words1 : List Jvm.Cond := Jvm.Cond.code x code maxLocals ret :: tables_1
/-- a 'code' word, met by the world's own term for the bytes: nothing is compared byte by byte -/
theorem code_word {y : MethodName} {bytes : ByteArray} {mx : Nat} {rt : Option FieldType} {a : Array Value} {s : State} {m : MethodId} {meth : Method} {c : Code} (h1 : s.methodNamed? y = some m) (h2 : s.vm.method? m = some meth) (h3 : meth.code = some c) (h4 : c.code = bytes)
    (h5 : (c.maxLocals == mx && c.exceptionTable.isEmpty && decide (c.maxStack ≤ mostOperands) && decide (meth.sig.returnType = rt) && !meth.locks && decide (parseMethodDescriptor y.desc = some meth.sig)) = true) : (Jvm.Cond.code y bytes mx rt).before a s = true := by
  simp only [Bool.and_eq_true, beq_iff_eq, Bool.not_eq_true', decide_eq_true_eq] at h5
  obtain ⟨⟨⟨⟨⟨g1, g2⟩, g3⟩, g4⟩, g5⟩, g6⟩ := h5
  simp [Cond.before, Cond.holds, Cond.value, h1, h2, h3, h4, g1, g2, g3, g4, g5, g6]
def isCode : Jvm.Cond → Bool
  | .code _ _ _ _ => true
  | _ => false
theorem all_split {L : List Jvm.Cond} {P : Jvm.Cond → Bool} (h1 : L.all (fun c => isCode c || P c) = true) (h2 : ∀ c ∈ L.filter isCode, P c = true) : L.all P = true := by
  refine List.all_eq_true.mpr fun c hc => ?_
  have h := List.all_eq_true.mp h1 c hc
  rcases Bool.eq_false_or_eq_true (isCode c) with hi | hi
  · exact h2 c (List.mem_filter.mpr ⟨hc, hi⟩)
  · simpa [hi] using h
set_option maxRecDepth 65536 in
theorem w_c0 : (Jvm.Cond.code x code maxLocals ret).before args0 about1 = true := code_word (m := ⟨1, 1⟩) (meth := k1m1) (c := k1c1) (by decide +kernel) rfl rfl rfl (by decide +kernel)
set_option maxRecDepth 65536 in
theorem w_c1 : (Jvm.Cond.code ({ cls := "java/lang/Math", name := "max", desc := "(II)I" } : Jvm.MethodName) jdk_29_method_65_code (2 : Nat) (Option.some Jvm.ClassFile.FieldType.int)).before args0 about1 = true := code_word (m := ⟨2, 1⟩) (meth := k2m1) (c := k2c1) (by decide +kernel) rfl rfl rfl (by decide +kernel)
set_option maxRecDepth 65536 in
theorem w_c2 : (Jvm.Cond.code ({ cls := "com/example/tempo_feed/tempofeed/core/PollingPolicy", name := "checkBudget", desc := "(IJ)V" } : Jvm.MethodName) prog_19_method_9_code (5 : Nat) (Option.none : Option Jvm.ClassFile.FieldType)).before args0 about1 = true := code_word (m := ⟨7, 0⟩) (meth := k7m0) (c := k7c0) (by decide +kernel) rfl rfl rfl (by decide +kernel)
def codes1 : List Jvm.Cond := [Jvm.Cond.code x code maxLocals ret, Jvm.Cond.code ({ cls := "java/lang/Math", name := "max", desc := "(II)I" } : Jvm.MethodName) jdk_29_method_65_code (2 : Nat) (Option.some Jvm.ClassFile.FieldType.int), Jvm.Cond.code ({ cls := "com/example/tempo_feed/tempofeed/core/PollingPolicy", name := "checkBudget", desc := "(IJ)V" } : Jvm.MethodName) prog_19_method_9_code (5 : Nat) (Option.none : Option Jvm.ClassFile.FieldType)]
set_option maxRecDepth 65536 in
theorem codes_eq : words1.filter isCode = codes1 := rfl
theorem w_codes : ∀ c ∈ words1.filter isCode, c.before args0 about1 = true := by
  rw [codes_eq]
  intro c hc
  simp only [codes1, List.mem_cons, List.not_mem_nil, or_false] at hc
  rcases hc with rfl | rfl | rfl
  · exact w_c0
  · exact w_c1
  · exact w_c2
set_option maxRecDepth 65536 in
theorem w_t1 : words1.all (fun c => isCode c || c.before args0 about1) = true := by decide +kernel
theorem w_tables : (allAtoms (Jvm.Cond.code x code maxLocals ret :: tables_1)).before args0 about1 = true := by
  rw [allAtoms_all]
  show words1.all (fun c => c.before args0 about1) = true
  refine all_split ?_ w_codes
  rw [w_t1]
set_option maxRecDepth 65536 in
theorem w_case : (Jvm.Cond.and given_1 narrow_1).before args0 about1 = true := by decide +kernel
theorem w_applies : (headSpec (Jvm.Cond.code x code maxLocals ret :: tables_1) room_1).applies x e0.platform about1 = true :=
  (Spec.applies_iff w_frames).mpr ⟨w_running, w_runnable, w_alone, w_named, w_hears, w_ripe, w_room, w_tables⟩
theorem atStart : AtStart classFile x code maxLocals ret World_1 tables_1 room_1 Calls_1 rest_1 Pre_1 launch0 p0 e0 about1 theMethod args0 below0 :=
  ⟨lists_1, trivial, launch0.admits_env _ _ _, launch0.least_env, fairChoices_fair.cas, fairChoices_fair.clock, w_frames, w_args, w_heap, w_applies, trivial, trivial, w_case⟩
end start1
theorem witness_1 : WitnessClaimed_1 := ⟨start1.p0, start1.e0, start1.about1, start1.theMethod, start1.args0, start1.below0, start1.atStart⟩
end Jvm.Pilot.@@N@@
