import JvmDerived
import JvmDerived.Pilot.@@N@@Statement
import JvmDerived.Pilot.@@N@@Code
set_option linter.unusedVariables false
set_option linter.unusedSimpArgs false
@@BLOCK:NumsL.lean.txt@@
namespace Jvm.OwnKit
open Sem ClassFile Op Lib Jvm.Stand Jvm.Free Jvm.LawKit Jvm.RoadKit
def Go (tb : Tables) (e : Env) (below : List Frame) (P : State → Outcome → Prop) (S : State) : Prop := ∃ U o, Steps tb e below S U ∧ U.status = .running ∧ Ended U below o ∧ P U o
theorem Go.s {tb : Tables} {e : Env} {below : List Frame} {P : State → Outcome → Prop} {S S' : State} (k : ∀ {t : State}, Steps tb e below S' t → Steps tb e below S t) (f : Go tb e below P S') : Go tb e below P S := by
  obtain ⟨U, o, h1, h2⟩ := f
  exact ⟨U, o, k h1, h2⟩
theorem Go.cast {tb : Tables} {e : Env} {below : List Frame} {P : State → Outcome → Prop} {T : State} {g g' : JFrame} (q : g = g') (f : Go tb e below P (T.setTop g')) : Go tb e below P (T.setTop g) := q ▸ f
/-- the contract of a body, at one heap and one list of arguments -/
def Con (l : Launch) (Z : State) (y : MethodName) (bytes : ByteArray) (maxL : Nat) (ret : Option FieldType) (ws : List Jvm.Cond) (rm : Room) (as' : Array Value) (h : Heap) (Q : Option Value → Heap → List Loc → Prop) : Prop :=
  MetFree l y (head1 (Cond.code y bytes maxL ret :: ws) rm) (fun a U => a = as' ∧ Z.Warmed39 U.vm ∧ U.heap = h) (fun _ _ _ _ _ => True) (fun _ U o U' => ∃ v L, o = .returned v ∧ Q v U'.heap L ∧ FrameEnd U o U' L rm.cells rm.slots)
theorem Con.intro {l : Launch} {Z : State} {y : MethodName} {bytes : ByteArray} {maxL : Nat} {ret : Option FieldType} {ws : List Jvm.Cond} {rm : Room} {as' : Array Value} {h : Heap} {Q : Option Value → Heap → List Loc → Prop} (hpn : plainFor y = true)
    (body : ∀ (p : Program) (e : Env) (s : State) (m : MethodId) (below : List Frame) (meth : Method) (c : Code) (s₁ : State) (P : State → Outcome → Prop), p.tables.exec = Jvm.exec → c.code = bytes → c.maxLocals = maxL → s.vm.findClass y.cls = some m.cls → meth.name = y.name → meth.sig.returnType = ret → meth.locks = false → Z.Warmed39 s.vm →
      Stand p l e rm s m as' below meth c s₁ [] 0 0 → s₁.heap = h → (∀ U v L, Q v U.heap L → FrameEnd s (.returned v) U L rm.cells rm.slots → P U (.returned v)) → Go p.tables e below P (s₁.setTop (entryFrame m as' maxL))) :
    Con l Z y bytes maxL ret ws rm as' h Q := by
  refine MetFree.of_bodySF hpn hisR ?_
  intro p e s m args below meth c s₁ Bd hml0 hP hK
  obtain ⟨rfl, hZ, hh⟩ := hP
  exact body p e s m below meth c s₁ _ Bd.exec Bd.bytes hml0 (findClass_of_methodNamed Bd.named) (name_of_methodNamed Bd.named Bd.method).1 Bd.returns (BodyLoose.notSynchronized Bd) hZ (Stand.of_body Bd) (by rw [← hh, Bd.state]; rfl) fun U v L q f => ⟨v, L, rfl, q, f⟩
theorem Con.mono {l : Launch} {Z : State} {y : MethodName} {bytes : ByteArray} {maxL : Nat} {ret : Option FieldType} {ws : List Jvm.Cond} {rm : Room} {as' : Array Value} {h : Heap} {Q Q' : Option Value → Heap → List Loc → Prop} (C : Con l Z y bytes maxL ret ws rm as' h Q) (q : ∀ v h L, Q v h L → Q' v h L) : Con l Z y bytes maxL ret ws rm as' h Q' := by
  intro p e ha hc hk s m args below hf happ hP hK
  obtain ⟨n, o, h1, h2, h3, v, L, h4, h5, h6⟩ := C p e ha hc hk s m args below hf happ hP hK
  exact ⟨n, o, h1, h2, h3, v, L, h4, q _ _ _ h5, h6⟩
def ConH (l : Launch) (Z : State) (y : MethodName) (bytes : ByteArray) (maxL : Nat) (ret : Option FieldType) (hs : List (Nat × Nat × Nat × Nat)) (ws : List Jvm.Cond) (rm : Room) (as' : Array Value) (h : Heap) (Q : Option Value → Heap → List Loc → Prop) : Prop :=
  MetFree l y (head1 (Cond.codeWith y bytes maxL ret hs :: ws) rm) (fun a U => a = as' ∧ Z.Warmed39 U.vm ∧ U.heap = h) (fun _ _ _ _ _ => True) (fun _ U o U' => ∃ v L, o = .returned v ∧ Q v U'.heap L ∧ FrameEnd U o U' L rm.cells rm.slots)
theorem ConH.intro {l : Launch} {Z : State} {y : MethodName} {bytes : ByteArray} {maxL : Nat} {ret : Option FieldType} {hs : List (Nat × Nat × Nat × Nat)} {ws : List Jvm.Cond} {rm : Room} {as' : Array Value} {h : Heap} {Q : Option Value → Heap → List Loc → Prop} (hpn : plainFor y = true)
    (body : ∀ (p : Program) (e : Env) (s : State) (m : MethodId) (below : List Frame) (meth : Method) (c : Code) (s₁ : State) (P : State → Outcome → Prop), p.tables.exec = Jvm.exec → c.code = bytes → c.maxLocals = maxL → s.vm.findClass y.cls = some m.cls → meth.name = y.name → meth.sig.returnType = ret → meth.locks = false → Z.Warmed39 s.vm →
      Stand p l e rm s m as' below meth c s₁ [] 0 0 → s₁.heap = h → (∀ U v L, Q v U.heap L → FrameEnd s (.returned v) U L rm.cells rm.slots → P U (.returned v)) → Go p.tables e below P (s₁.setTop (entryFrame m as' maxL))) :
    ConH l Z y bytes maxL ret hs ws rm as' h Q := by
  refine MetFree.of_bodySF hpn hisWith ?_
  intro p e s m args below meth c s₁ Bd hml0 hP hK
  obtain ⟨rfl, hZ, hh⟩ := hP
  exact body p e s m below meth c s₁ _ Bd.exec Bd.bytes hml0 (findClass_of_methodNamed Bd.named) (name_of_methodNamed Bd.named Bd.method).1 Bd.returns (BodyLoose.notSynchronized Bd) hZ (Stand.of_body Bd) (by rw [← hh, Bd.state]; rfl) fun U v L q f => ⟨v, L, rfl, q, f⟩
section Walk
variable {p : Program} {l : Launch} {e : Env} {R : Room} {s : State} {m : MethodId} {args : Array Value} {below : List Frame} {meth : Method} {c : Code} {T : State} {locs : List Loc} {cells slots : Nat} {P : State → Outcome → Prop} {Z : State} {a0 : Array Value} {h : Heap}
theorem Go.ret (X : Stand p l e R s m args below meth c T locs cells slots) (hx : p.tables.exec = Jvm.exec) (hlk : meth.locks = false) {pc : Nat} {Ls : Array Slot} {w : Value} {t : FieldType} {i : Instr} {rest : List Value} (hret : meth.sig.returnType = some t) (hn : narrow t w = w)
    (hi : (i = .ireturn ∧ (t = .int ∨ t = .boolean ∨ t = .byte ∨ t = .char ∨ t = .short) ∧ ∃ z, w = .int z) ∨ (i = .lreturn ∧ t = .long ∧ ∃ z, w = .long z) ∨ (i = .dreturn ∧ t = .double ∧ ∃ z, w = .double z) ∨ (i = .freturn ∧ t = .float ∧ ∃ z, w = .float z) ∨ (i = .areturn ∧ t.isReference = true ∧ w.isRef = true))
    (hd : decode c.code pc = .ok (i, 1)) (hP : ∀ U : State, U.heap = T.heap → FrameEnd s (.returned (some w)) U locs cells slots → P U (.returned (some w))) : Go p.tables e below P (T.setTop (mkF m pc Ls (w :: rest))) := by
  obtain ⟨fs, hr, hrun, hended, hW, hsame⟩ := X.leave (v := some w) (fun h => by rw [hret] at h; cases h) hlk
  exact ⟨_, _, retOut X hx hret hn hi hd hr, hrun, hended, hP _ rfl ⟨⟨_, rfl⟩, hW, hsame⟩⟩
theorem Go.retI (X : Stand p l e R s m args below meth c T locs cells slots) (hx : p.tables.exec = Jvm.exec) (hlk : meth.locks = false) {pc : Nat} {Ls : Array Slot} {z : Int32} {rest : List Value} (hret : meth.sig.returnType = some .int)
    (hd : decode c.code pc = .ok (.ireturn, 1)) (hP : ∀ U : State, U.heap = T.heap → FrameEnd s (.returned (some (.int z))) U locs cells slots → P U (.returned (some (.int z)))) : Go p.tables e below P (T.setTop (mkF m pc Ls (.int z :: rest))) :=
  Go.ret X hx hlk hret rfl (Or.inl ⟨rfl, Or.inl rfl, _, rfl⟩) hd hP
theorem Go.retZ (X : Stand p l e R s m args below meth c T locs cells slots) (hx : p.tables.exec = Jvm.exec) (hlk : meth.locks = false) {pc : Nat} {Ls : Array Slot} {z : Int32} {rest : List Value} (hret : meth.sig.returnType = some .boolean) (hz : z = 0 ∨ z = 1)
    (hd : decode c.code pc = .ok (.ireturn, 1)) (hP : ∀ U : State, U.heap = T.heap → FrameEnd s (.returned (some (.int z))) U locs cells slots → P U (.returned (some (.int z)))) : Go p.tables e below P (T.setTop (mkF m pc Ls (.int z :: rest))) :=
  Go.ret X hx hlk hret (by rcases hz with rfl | rfl <;> rfl) (Or.inl ⟨rfl, Or.inr (Or.inl rfl), _, rfl⟩) hd hP
theorem Go.retJ (X : Stand p l e R s m args below meth c T locs cells slots) (hx : p.tables.exec = Jvm.exec) (hlk : meth.locks = false) {pc : Nat} {Ls : Array Slot} {z : Int64} {rest : List Value} (hret : meth.sig.returnType = some .long)
    (hd : decode c.code pc = .ok (.lreturn, 1)) (hP : ∀ U : State, U.heap = T.heap → FrameEnd s (.returned (some (.long z))) U locs cells slots → P U (.returned (some (.long z)))) : Go p.tables e below P (T.setTop (mkF m pc Ls (.long z :: rest))) :=
  Go.ret X hx hlk hret rfl (Or.inr (Or.inl ⟨rfl, rfl, _, rfl⟩)) hd hP
theorem Go.retR (X : Stand p l e R s m args below meth c T locs cells slots) (hx : p.tables.exec = Jvm.exec) (hlk : meth.locks = false) {pc : Nat} {Ls : Array Slot} {w : Value} {t : FieldType} {rest : List Value} (hret : meth.sig.returnType = some t) (ht : t.isReference = true) (hw : w.isRef = true)
    (hd : decode c.code pc = .ok (.areturn, 1)) (hP : ∀ U : State, U.heap = T.heap → FrameEnd s (.returned (some w)) U locs cells slots → P U (.returned (some w))) : Go p.tables e below P (T.setTop (mkF m pc Ls (w :: rest))) :=
  Go.ret X hx hlk hret (by rcases ref_cases hw with rfl | ⟨z, rfl⟩ <;> cases t <;> first | rfl | (cases ht)) (Or.inr (Or.inr (Or.inr (Or.inr ⟨rfl, ht, hw⟩)))) hd hP
theorem Go.retV (X : Stand p l e R s m args below meth c T locs cells slots) (hx : p.tables.exec = Jvm.exec) (hlk : meth.locks = false) {pc : Nat} {Ls : Array Slot} (hret : meth.sig.returnType = none)
    (hd : decode c.code pc = .ok (.return_, 1)) (hP : ∀ U : State, U.heap = T.heap → FrameEnd s (.returned none) U locs cells slots → P U (.returned none)) : Go p.tables e below P (T.setTop (mkF m pc Ls [])) := by
  obtain ⟨fs, hr, hrun, hended, hW, hsame⟩ := X.leave (v := none) (fun _ => rfl) hlk
  exact ⟨_, _, X.returnOut hx hret hd hr, hrun, hended, hP _ rfl ⟨⟨_, rfl⟩, hW, hsame⟩⟩
theorem Con.static {y : MethodName} {bytes : ByteArray} {maxL : Nat} {ret : Option FieldType} {rm : Room} {as' : Array Value} {Q : Option Value → Heap → List Loc → Prop} (C : Con l Z y bytes maxL ret [] rm as' h Q)
    (X : Stand p l e R s m args below meth c T locs cells slots) (hx : p.tables.exec = Jvm.exec) (hZ : Z.Warmed39 s.vm) {own : String} {index W : Nat} (hown : s.vm.findClass own = some m.cls)
    (wl : (Cond.methodLink own index y).before a0 Z = true) (wst : (Cond.static y).before a0 Z = true) (wz : (Cond.initialized y.cls).before a0 Z = true) (wc : (Cond.code y bytes maxL ret).before a0 Z = true)
    (hy : y.cls ≠ "java/lang/invoke/MethodHandle" ∧ y.cls ≠ "java/lang/invoke/VarHandle") (hf : rm.frames + 1 ≤ R.frames) (hl : W + (maxL + 11) + rm.locals ≤ R.locals) (hce : cells + rm.cells ≤ R.cells) (hsl : slots + rm.slots ≤ R.slots) (eT : T.heap = h)
    {g : JFrame} (hg : g.method = m) (hsize : g.locals.size = c.maxLocals) {argsL rest : List Value} (has : argsL.toArray = as') (hlen : ∀ sig, parseMethodDescriptor y.desc = some sig → argsL.length = sig.parameters.length)
    (hstack : g.stack = argsL.reverse ++ rest) (hW : 2 * g.monitorRoom + (rest.map fun v => v.category).sum ≤ W) (hdg : decode c.code g.pc = .ok (.invokestatic index, 3)) :
    ∃ (v : Option Value) (T' : State) (L : List Loc), Stand p l e R s m args below meth c T' (locs ++ L) (cells + rm.cells) (slots + rm.slots) ∧ Q v T'.heap L ∧
      ∀ {t : State}, Steps p.tables e below (T'.setTop { g with pc := g.pc + 3, stack := v.toList ++ rest }) t → Steps p.tables e below (T.setTop g) t := by
  obtain ⟨v, vm₁, ⟨T', L', k', n'⟩, -, X', ⟨L, hQ, e1, e2, e3⟩, st⟩ := Jvm.LawKit.callS X hx hown (mvT hZ wl) (mvT hZ wst) (mvT hZ wz) (mvT hZ wc) hy (backOf (W := W) C hZ wc wz hf hl) hg hsize hlen hstack hW hdg (fun _ _ => ⟨has, eT, hce, hsl⟩)
  dsimp only [Pt.U, Pt.locs, Pt.cells, Pt.slots] at X' e1 e2 e3 st hQ
  subst e1 e2 e3
  exact ⟨v, T', L, X', hQ, fun {t} k => st t k⟩
theorem Con.special {y : MethodName} {bytes : ByteArray} {maxL : Nat} {rm : Room} {as' : Array Value} {Q : Option Value → Heap → List Loc → Prop} (C : Con l Z y bytes maxL none [] rm as' h Q) (hy1 : y.name = "<init>")
    (X : Stand p l e R s m args below meth c T locs cells slots) (hx : p.tables.exec = Jvm.exec) (hZ : Z.Warmed39 s.vm) {own : String} {index W : Nat} (hown : s.vm.findClass own = some m.cls)
    (wl : (Cond.methodLink own index y).before a0 Z = true) (wi : (Cond.instanceMethod y).before a0 Z = true) (wz : (Cond.initialized y.cls).before a0 Z = true) (wc : (Cond.code y bytes maxL none).before a0 Z = true)
    (hy : y.cls ≠ "java/lang/invoke/MethodHandle" ∧ y.cls ≠ "java/lang/invoke/VarHandle") (hf : rm.frames + 1 ≤ R.frames) (hl : W + (maxL + 11) + rm.locals ≤ R.locals) (hce : cells + rm.cells ≤ R.cells) (hsl : slots + rm.slots ≤ R.slots) (eT : T.heap = h)
    {g : JFrame} (hg : g.method = m) (hsize : g.locals.size = c.maxLocals) {a : Addr} {argsL rest : List Value} (has : (Value.ref a :: argsL).toArray = as') (hlen : ∀ sig, parseMethodDescriptor y.desc = some sig → argsL.length = sig.parameters.length)
    (hstack : g.stack = argsL.reverse ++ .ref a :: rest) (hW : 2 * g.monitorRoom + (rest.map fun v => v.category).sum ≤ W) (hdg : decode c.code g.pc = .ok (.invokespecial index, 3)) :
    ∃ (v : Option Value) (T' : State) (L : List Loc), Stand p l e R s m args below meth c T' (locs ++ L) (cells + rm.cells) (slots + rm.slots) ∧ Q v T'.heap L ∧
      ∀ {t : State}, Steps p.tables e below (T'.setTop { g with pc := g.pc + 3, stack := v.toList ++ rest }) t → Steps p.tables e below (T.setTop g) t := by
  obtain ⟨v, vm₁, ⟨T', L', k', n'⟩, -, X', ⟨L, hQ, e1, e2, e3⟩, st⟩ := X.specialBack hx hy1 hown (mvT hZ wl) (mvT hZ wi) (mvT hZ wc) hy (backOf (W := W) C hZ wc wz hf hl) hg hsize (Steps.refl _) hlen hstack hW hdg (fun _ _ => ⟨has, eT, hce, hsl⟩)
  dsimp only [Pt.U, Pt.locs, Pt.cells, Pt.slots] at X' e1 e2 e3 st hQ
  subst e1 e2 e3
  exact ⟨v, T', L, X', hQ, fun {t} k => st.trans k⟩
theorem ConH.special {y : MethodName} {bytes : ByteArray} {maxL : Nat} {rm : Room} {as' : Array Value} {Q : Option Value → Heap → List Loc → Prop} {hs : List (Nat × Nat × Nat × Nat)} (C : ConH l Z y bytes maxL none hs [] rm as' h Q) (hy1 : y.name = "<init>")
    (X : Stand p l e R s m args below meth c T locs cells slots) (hx : p.tables.exec = Jvm.exec) (hZ : Z.Warmed39 s.vm) {own : String} {index W : Nat} (hown : s.vm.findClass own = some m.cls)
    (wl : (Cond.methodLink own index y).before a0 Z = true) (wi : (Cond.instanceMethod y).before a0 Z = true) (wz : (Cond.initialized y.cls).before a0 Z = true) (wc : (Cond.codeWith y bytes maxL none hs).before a0 Z = true)
    (hy : y.cls ≠ "java/lang/invoke/MethodHandle" ∧ y.cls ≠ "java/lang/invoke/VarHandle") (hf : rm.frames + 1 ≤ R.frames) (hl : W + (maxL + 11) + rm.locals ≤ R.locals) (hce : cells + rm.cells ≤ R.cells) (hsl : slots + rm.slots ≤ R.slots) (eT : T.heap = h)
    {g : JFrame} (hg : g.method = m) (hsize : g.locals.size = c.maxLocals) {a : Addr} {argsL rest : List Value} (has : (Value.ref a :: argsL).toArray = as') (hlen : ∀ sig, parseMethodDescriptor y.desc = some sig → argsL.length = sig.parameters.length)
    (hstack : g.stack = argsL.reverse ++ .ref a :: rest) (hW : 2 * g.monitorRoom + (rest.map fun v => v.category).sum ≤ W) (hdg : decode c.code g.pc = .ok (.invokespecial index, 3)) :
    ∃ (v : Option Value) (T' : State) (L : List Loc), Stand p l e R s m args below meth c T' (locs ++ L) (cells + rm.cells) (slots + rm.slots) ∧ Q v T'.heap L ∧
      ∀ {t : State}, Steps p.tables e below (T'.setTop { g with pc := g.pc + 3, stack := v.toList ++ rest }) t → Steps p.tables e below (T.setTop g) t := by
  obtain ⟨v, vm₁, ⟨T', L', k', n'⟩, -, X', ⟨L, hQ, e1, e2, e3⟩, st⟩ := X.specialBackH hx hy1 hown (mvT hZ wl) (mvT hZ wi) (mvT hZ wc) hy (backOfWith (W := W) C hZ wc wz hf hl) hg hsize (Steps.refl _) hlen hstack hW hdg (fun _ _ => ⟨has, eT, hce, hsl⟩)
  dsimp only [Pt.U, Pt.locs, Pt.cells, Pt.slots] at X' e1 e2 e3 st hQ
  subst e1 e2 e3
  exact ⟨v, T', L, X', hQ, fun {t} k => st.trans k⟩
theorem Con.virtual {y : MethodName} {bytes : ByteArray} {maxL : Nat} {ret : Option FieldType} {rm : Room} {as' : Array Value} {Q : Option Value → Heap → List Loc → Prop} (K : Con l Z y bytes maxL ret [] rm as' h Q)
    (X : Stand p l e R s m args below meth c T locs cells slots) (hx : p.tables.exec = Jvm.exec) (hZ : Z.Warmed39 s.vm) {own C : String} {index W : Nat} (hown : s.vm.findClass own = some m.cls)
    (wl : (Cond.methodLink own index y).before a0 Z = true) (wd : (Cond.declares y).before a0 Z = true) (wsel : (Cond.selects C y y).before a0 Z = true) (wi : (Cond.instanceMethod y).before a0 Z = true) (wz : (Cond.initialized y.cls).before a0 Z = true) (wc : (Cond.code y bytes maxL ret).before a0 Z = true)
    (hy : y.cls ≠ "java/lang/invoke/MethodHandle" ∧ y.cls ≠ "java/lang/invoke/VarHandle") (hf : rm.frames + 1 ≤ R.frames) (hl : W + (maxL + 11) + rm.locals ≤ R.locals) (hce : cells + rm.cells ≤ R.cells) (hsl : slots + rm.slots ≤ R.slots) (eT : T.heap = h)
    {g : JFrame} (hg : g.method = m) (hsize : g.locals.size = c.maxLocals) {a : Addr} (E : Exa Z h a C) {argsL rest : List Value} (has : (Value.ref a :: argsL).toArray = as') (hlen : ∀ sig, parseMethodDescriptor y.desc = some sig → argsL.length = sig.parameters.length)
    (hstack : g.stack = argsL.reverse ++ .ref a :: rest) (hW : 2 * g.monitorRoom + (rest.map fun v => v.category).sum ≤ W) (hdg : decode c.code g.pc = .ok (.invokevirtual index, 3)) :
    ∃ (v : Option Value) (T' : State) (L : List Loc), Stand p l e R s m args below meth c T' (locs ++ L) (cells + rm.cells) (slots + rm.slots) ∧ Q v T'.heap L ∧
      ∀ {t : State}, Steps p.tables e below (T'.setTop { g with pc := g.pc + 3, stack := v.toList ++ rest }) t → Steps p.tables e below (T.setTop g) t := by
  obtain ⟨cq, kq, qa, qb, qc⟩ := isOf hZ eT E
  obtain ⟨v, vm₁, ⟨T', L', k', n'⟩, -, X', ⟨L, hQ, e1, e2, e3⟩, st⟩ := X.virtualBack hx hown (mvT hZ wl) (mvT hZ wd) (notFace_of_selects (args := #[]) (mvT hZ wsel)) (mvT hZ wsel) (mvT hZ wi) hy (backOf (W := W) K hZ wc wz hf hl) qa qc hg hsize (Steps.refl _) hlen hstack hW hdg (fun _ _ => ⟨has, eT, hce, hsl⟩)
  dsimp only [Pt.U, Pt.locs, Pt.cells, Pt.slots] at X' e1 e2 e3 st hQ
  subst e1 e2 e3
  exact ⟨v, T', L, X', hQ, fun {t} k => st.trans k⟩
theorem Con.priv {y : MethodName} {bytes : ByteArray} {maxL : Nat} {ret : Option FieldType} {rm : Room} {as' : Array Value} {Q : Option Value → Heap → List Loc → Prop} (K : Con l Z y bytes maxL ret [] rm as' h Q)
    (X : Stand p l e R s m args below meth c T locs cells slots) (hx : p.tables.exec = Jvm.exec) (hZ : Z.Warmed39 s.vm) {own C : String} {index W kk : Nat} (hown : s.vm.findClass own = some m.cls)
    (wl : (Cond.methodLink own index y).before a0 Z = true) (wn : (Cond.instantiable y.cls kk).before a0 Z = true) (wp : (Cond.privateMethod y).before a0 Z = true) (wi : (Cond.instanceMethod y).before a0 Z = true) (wz : (Cond.initialized y.cls).before a0 Z = true) (wc : (Cond.code y bytes maxL ret).before a0 Z = true)
    (hy : y.cls ≠ "java/lang/invoke/MethodHandle" ∧ y.cls ≠ "java/lang/invoke/VarHandle") (hf : rm.frames + 1 ≤ R.frames) (hl : W + (maxL + 11) + rm.locals ≤ R.locals) (hce : cells + rm.cells ≤ R.cells) (hsl : slots + rm.slots ≤ R.slots) (eT : T.heap = h)
    {g : JFrame} (hg : g.method = m) (hsize : g.locals.size = c.maxLocals) {a : Addr} (E : Exa Z h a C) {argsL rest : List Value} (has : (Value.ref a :: argsL).toArray = as') (hlen : ∀ sig, parseMethodDescriptor y.desc = some sig → argsL.length = sig.parameters.length)
    (hstack : g.stack = argsL.reverse ++ .ref a :: rest) (hW : 2 * g.monitorRoom + (rest.map fun v => v.category).sum ≤ W) (hdg : decode c.code g.pc = .ok (.invokevirtual index, 3)) :
    ∃ (v : Option Value) (T' : State) (L : List Loc), Stand p l e R s m args below meth c T' (locs ++ L) (cells + rm.cells) (slots + rm.slots) ∧ Q v T'.heap L ∧
      ∀ {t : State}, Steps p.tables e below (T'.setTop { g with pc := g.pc + 3, stack := v.toList ++ rest }) t → Steps p.tables e below (T.setTop g) t := by
  have hpa : s.PrivateAt y := Cond.privateMethod_at (mvP hZ wp (args := args))
  have win : (Cond.instanceMethod y).before args s = true := mvT hZ wi
  have wnn : (Cond.instantiable y.cls kk).before args s = true := mvT hZ wn
  obtain ⟨ci, ki, i1, i2, i3, i4, -⟩ := Cond.instantiable_spec wnn
  have hni : ki.isInterface = false := (Bool.or_eq_false_iff.mp i4).1
  obtain ⟨cl, hcl, hob⟩ := E.cell
  obtain ⟨v, vm₁, ⟨T', L', k', n'⟩, -, X', ⟨L, hQ, e1, e2, e3⟩, st⟩ := X.privateBack hx hown (mvT hZ wl) win (selects_self_of_private i1 i2 hni hpa win hy) hpa (mvT hZ wc) hy (backOf (W := W) K hZ wc wz hf hl) hg hsize (Steps.refl _) (by rw [eT]; exact hcl) hob hlen hstack hW hdg (fun _ _ => ⟨has, eT, hce, hsl⟩)
  dsimp only [Pt.U, Pt.locs, Pt.cells, Pt.slots] at X' e1 e2 e3 st hQ
  subst e1 e2 e3
  exact ⟨v, T', L, X', hQ, fun {t} k => st.trans k⟩
theorem Con.virtualUp {x z : MethodName} {bytes : ByteArray} {maxL : Nat} {ret : Option FieldType} {rm : Room} {as' : Array Value} {Q : Option Value → Heap → List Loc → Prop} (K : Con l Z z bytes maxL ret [] rm as' h Q)
    (X : Stand p l e R s m args below meth c T locs cells slots) (hx : p.tables.exec = Jvm.exec) (hZ : Z.Warmed39 s.vm) {own C owner : String} {index W : Nat} (hown : s.vm.findClass own = some m.cls)
    (wl : (Cond.methodLink own index x).before a0 Z = true) (wsm : (Cond.sameMethod x.cls owner x.name x.desc).before a0 Z = true) (wd : (Cond.declares ⟨owner, x.name, x.desc⟩).before a0 Z = true) (wsel : (Cond.selects C x z).before a0 Z = true) (wi : (Cond.instanceMethod z).before a0 Z = true) (wz : (Cond.initialized z.cls).before a0 Z = true) (wc : (Cond.code z bytes maxL ret).before a0 Z = true)
    (ho : owner ≠ "java/lang/invoke/MethodHandle" ∧ owner ≠ "java/lang/invoke/VarHandle") (hf : rm.frames + 1 ≤ R.frames) (hl : W + (maxL + 11) + rm.locals ≤ R.locals) (hce : cells + rm.cells ≤ R.cells) (hsl : slots + rm.slots ≤ R.slots) (eT : T.heap = h)
    {g : JFrame} (hg : g.method = m) (hsize : g.locals.size = c.maxLocals) {a : Addr} (E : Exa Z h a C) {argsL rest : List Value} (has : (Value.ref a :: argsL).toArray = as') (hlen : ∀ sig, parseMethodDescriptor x.desc = some sig → argsL.length = sig.parameters.length)
    (hstack : g.stack = argsL.reverse ++ .ref a :: rest) (hW : 2 * g.monitorRoom + (rest.map fun v => v.category).sum ≤ W) (hdg : decode c.code g.pc = .ok (.invokevirtual index, 3)) :
    ∃ (v : Option Value) (T' : State) (L : List Loc), Stand p l e R s m args below meth c T' (locs ++ L) (cells + rm.cells) (slots + rm.slots) ∧ Q v T'.heap L ∧
      ∀ {t : State}, Steps p.tables e below (T'.setTop { g with pc := g.pc + 3, stack := v.toList ++ rest }) t → Steps p.tables e below (T.setTop g) t := by
  obtain ⟨cq, kq, qa, qb, qc⟩ := isOf hZ eT E
  obtain ⟨v, vm₁, ⟨T', L', k', n'⟩, -, X', ⟨L, hQ, e1, e2, e3⟩, st⟩ := X.virtualBackUp hx hown (mvT hZ wl) (mvT hZ wsm) (mvT hZ wd) ho (mvT hZ wsel) (mvT hZ wi) (backOf (W := W) K hZ wc wz hf hl) qa qc hg hsize (Steps.refl _) hlen hstack hW hdg (fun _ _ => ⟨has, eT, hce, hsl⟩)
  dsimp only [Pt.U, Pt.locs, Pt.cells, Pt.slots] at X' e1 e2 e3 st hQ
  subst e1 e2 e3
  exact ⟨v, T', L, X', hQ, fun {t} k => st.trans k⟩
/-- the cell of an object is one that the model knows -/
def Kn (h : Heap) (a : Addr) : Prop := ∃ cell : Cell, h[a]? = some cell ∧ cell.vm ≠ .unknown
theorem Kn.of_new {h' : Heap} {a : Addr} (u : ∃ cell : Cell, h'[a]? = some cell ∧ cell.vm = .none ∧ cell.monitor = {}) : Kn h' a := by obtain ⟨c, h1, h2, -⟩ := u; exact ⟨c, h1, by rw [h2]; simp⟩
theorem Kn.ext {h h' : Heap} {a : Addr} (F : Kn h a) (E : Ext h h') : Kn h' a := by obtain ⟨c, h1, h2⟩ := F; exact ⟨c, E.2 _ _ h1, h2⟩
theorem Kn.keep {h h' : Heap} {a : Addr} {ws : List Addr} (F : Kn h a) (K : Keep h h' ws) : Kn h' a := by
  obtain ⟨c, h1, h2⟩ := F; obtain ⟨c', q, -, q2, -⟩ := K.2.2 a c h1; exact ⟨c', q, by rw [q2]; exact h2⟩
theorem Kn.wr {h h' : Heap} {a b : Addr} {sl : Nat} {v : Value} (F : Kn h a) (W : Wr h h' b sl v) : Kn h' a := F.keep (Keep.of_wr W)
theorem Kn.fld {h : Heap} {a : Addr} {O n d : String} {v : Value} {Z : State} (F : Fld Z h a O n d v) : Kn h a := by obtain ⟨c, _, _, _, _, h1, -, -, h4, -⟩ := F; exact ⟨c, h1, h4⟩
theorem lremM {g : JFrame} {target : State} (X : Stand p l e R s m args below meth c T locs cells slots) (hx : p.tables.exec = Jvm.exec) (hg : g.method = m) {x y : Int64} {rest : List Value} (hd : decode c.code g.pc = .ok (.lrem, 1)) (hs : g.stack = .long y :: .long x :: rest) (hy : y ≠ 0)
    (hr : Steps p.tables e below (T.setTop { g with pc := g.pc + 1, stack := .long (x % y) :: rest }) target) : Steps p.tables e below (T.setTop g) target := by
  exact XT.lrem X.here hx hg hd hs hy (by rw [lrem_mod]; exact hr)
theorem Sta.own_keep {Z : State} {h h' : Heap} {C n d : String} {v : Value} {ws : List Addr} (F : Sta Z h C n d v) (K : Keep h h' ws) (q : ∀ a ∈ ws, ∃ C', Exa Z h a C') : Sta Z h' C n d v := by
  obtain ⟨cf, i, k, f, st, cell, h1, h2, h3, h4, h5, h6, h7⟩ := F
  refine ⟨cf, i, k, f, st, cell, h1, h2, h3, h4, K.2.1 st cell h5 fun hm => ?_, h6, h7⟩
  obtain ⟨C', c2, _, g1, -, -, g4, -⟩ := q st hm
  cases h5.symm.trans g1
  rw [h6] at g4; cases g4
theorem own_nar {t : FieldType} {v : Value} (h : v.isRef = true) (ht : t.isReference = true) : narrow t v = v := by
  rcases ref_cases h with rfl | ⟨z, rfl⟩ <;> cases t <;> first | rfl | (cases ht)
theorem own_fit {t : FieldType} {v : Value} (h : v.isRef = true) (ht : t.isReference = true) : fits t v = true := by
  rcases ref_cases h with rfl | ⟨z, rfl⟩ <;> cases t <;> first | rfl | (cases ht)
theorem own_eq_int {t : Term} {k : Int32} {args : Array Value} {first s : State} {o : Option Outcome} {idx : List Nat} (h : (Cond.eq t (Term.int k)).value args first o s idx = some true) : t.eval args first o idx s = some (.int k) := by
  simp only [Cond.value, Term.eval] at h
  cases ht : t.eval args first o idx s with
  | none => simp [ht] at h
  | some x => cases x <;> simp [ht] at h ⊢; exact h
theorem pop2L {g : JFrame} {target : State} (X : Stand p l e R s m args below meth c T locs cells slots) (hx : p.tables.exec = Jvm.exec) (hg : g.method = m) {x : Int64} {rest : List Value} (hd : decode c.code g.pc = .ok (.pop2, 1)) (hs : g.stack = .long x :: rest)
    (hr : Steps p.tables e below (T.setTop { g with pc := g.pc + 1, stack := rest }) target) : Steps p.tables e below (T.setTop g) target := by
  subst hg
  jvm_step X.here [X.here.top, hx, hd, Op.pop2.wp_sem, hs, Value.category]
  exact hr
theorem own_tdiv (D k : Int) : (0 ≤ D ∧ D.tdiv k = D / k) ∨ (D < 0 ∧ D.tdiv k = -((-D) / k)) := by
  rcases Int.lt_or_le D 0 with h | h
  · refine Or.inr ⟨h, ?_⟩
    have e : D.tdiv k = -((-D).tdiv k) := by rw [Int.neg_tdiv]; omega
    rw [e, Int.tdiv_eq_ediv_of_nonneg (by omega)]
  · exact Or.inl ⟨h, Int.tdiv_eq_ediv_of_nonneg h⟩
theorem own_tmod (D k : Int) : (0 ≤ D ∧ D.tmod k = D % k) ∨ (D < 0 ∧ D.tmod k = -((-D) % k)) := by
  rcases Int.lt_or_le D 0 with h | h
  · refine Or.inr ⟨h, ?_⟩
    have e : D.tmod k = -((-D).tmod k) := by rw [Int.neg_tmod]; omega
    rw [e, Int.tmod_eq_emod_of_nonneg (by omega)]
  · exact Or.inl ⟨h, Int.tmod_eq_emod_of_nonneg h⟩
end Walk
end Jvm.OwnKit
namespace Jvm.Pilot.@@N@@
open Jvm Jvm.ClassFile Sem Op Lib Jvm.Free Jvm.Stand Jvm.LawKit Jvm.RoadKit Bundle Jvm.Pilot.@@N@@.Jvm.D Jvm.OwnKit
def own_f4 (x : Int64) : Int64 := (if x < (0 : Int64) then (-x) else x)
theorem own_ef4 (m : MethodId) (x : Int64) : entryFrame m #[(.long x)] 2 = mkF m 0 #[.val (.long x), .second] [] := by
  (first | (simp [entryFrame, mkF, argsToLocals, Value.category]; done) | rfl)
theorem own_d4_0 : decode jdk_29_method_61_code 0 = .ok (.lload_n 0, 1) := by decide +kernel
theorem own_d4_1 : decode jdk_29_method_61_code 1 = .ok (.lconst 0, 1) := by decide +kernel
theorem own_d4_2 : decode jdk_29_method_61_code 2 = .ok (.lcmp, 1) := by decide +kernel
theorem own_d4_3 : decode jdk_29_method_61_code 3 = .ok (.ifCond .ge 8, 3) := by decide +kernel
theorem own_d4_6 : decode jdk_29_method_61_code 6 = .ok (.lload_n 0, 1) := by decide +kernel
theorem own_d4_7 : decode jdk_29_method_61_code 7 = .ok (.lneg, 1) := by decide +kernel
theorem own_d4_8 : decode jdk_29_method_61_code 8 = .ok (.goto 4, 3) := by decide +kernel
theorem own_d4_12 : decode jdk_29_method_61_code 12 = .ok (.lreturn, 1) := by decide +kernel
theorem own_d4_11 : decode jdk_29_method_61_code 11 = .ok (.lload_n 0, 1) := by decide +kernel
set_option maxRecDepth 65536 in
set_option maxHeartbeats 40000000 in
theorem own_rm4 (l : Launch) (Z : State) (a0 : Array Value) (hw : ∀ d ∈ tables_1, d.before a0 Z = true) (ws : List Jvm.Cond) (x : Int64) (h0 : Heap) (n0 : Nat) (Z0 : n0 ≤ h0.size)   :
    Con l Z (⟨"java/lang/Math", "abs", "(J)J"⟩ : MethodName) jdk_29_method_61_code 2 (some .long) ws ({ frames := 0, cells := 0, slots := 0, locals := 0 } : Room) #[(.long x)] h0 (fun v h L => v = some (.long (own_f4 x)) ∧ Fr n0 L ∧ h = h0) := by
  refine Con.intro (Jvm.Free.JP.mathPlain rfl (by decide +kernel)) ?_
  intro p e s m below meth c s₁ P hx hby hml hown hnm hret hlk hZ X0 e0 hP
  have N0 := Fr.nil n0
  have hown : s.vm.findClass "java/lang/Math" = some m.cls := hown
  refine Go.cast (own_ef4 m x) ?_
  show Go p.tables e below P (s₁.setTop (mkF m 0 #[.val (.long x), .second] []))
  refine Go.s (fun k => XT.lloadN X0.here hx rfl (hb hby own_d4_0) rfl k) ?_
  show Go p.tables e below P (s₁.setTop (mkF m 1 #[.val (.long x), .second] [(.long x)]))
  refine Go.s (fun k => XT.lconst X0.here hx rfl (hb hby own_d4_1) k) ?_
  show Go p.tables e below P (s₁.setTop (mkF m 2 #[.val (.long x), .second] [(.long (0 : Int64)), (.long x)]))
  refine Go.s (fun k => XT.lcmp X0.here hx rfl (hb hby own_d4_2) rfl k) ?_
  show Go p.tables e below P (s₁.setTop (mkF m 3 #[.val (.long x), .second] [(.int (XT.cmpL x (0 : Int64)))]))
  by_cases hc3 : x < (0 : Int64)
  · skip
    refine Go.s (fun k => XS.ifNo X0.here hx rfl (hb hby own_d4_3) rfl (XT.ll_ge_f hc3) k) ?_
    show Go p.tables e below P (s₁.setTop (mkF m 6 #[.val (.long x), .second] []))
    refine Go.s (fun k => XT.lloadN X0.here hx rfl (hb hby own_d4_6) rfl k) ?_
    show Go p.tables e below P (s₁.setTop (mkF m 7 #[.val (.long x), .second] [(.long x)]))
    refine Go.s (fun k => XT.lneg X0.here hx rfl (hb hby own_d4_7) rfl k) ?_
    show Go p.tables e below P (s₁.setTop (mkF m 8 #[.val (.long x), .second] [(.long (-x))]))
    refine Go.s (fun k => XS.goto X0.here hx rfl (pc0 := 8) (pc' := 12) rfl (hb hby own_d4_8) (by decide) (by decide) k) ?_
    show Go p.tables e below P (s₁.setTop (mkF m 12 #[.val (.long x), .second] [(.long (-x))]))
    exact Go.retJ X0 hx hlk hret (hb hby own_d4_12) (fun U hU hF => hP U _ _ (by rw [hU, e0]; exact ⟨congrArg some (congrArg Value.long (Eq.symm (by rw [own_f4]; rw [if_pos hc3]))), N0, rfl⟩) ⟨hF.1, hF.2.1, hF.2.2.mono (by decide) (by decide)⟩)
  · skip
    refine Go.s (fun k => XS.ifYes X0.here hx rfl (pc0 := 3) (pc' := 11) rfl (hb hby own_d4_3) rfl (XT.ll_ge_t hc3) (by decide) (by decide) k) ?_
    show Go p.tables e below P (s₁.setTop (mkF m 11 #[.val (.long x), .second] []))
    refine Go.s (fun k => XT.lloadN X0.here hx rfl (hb hby own_d4_11) rfl k) ?_
    show Go p.tables e below P (s₁.setTop (mkF m 12 #[.val (.long x), .second] [(.long x)]))
    exact Go.retJ X0 hx hlk hret (hb hby own_d4_12) (fun U hU hF => hP U _ _ (by rw [hU, e0]; exact ⟨congrArg some (congrArg Value.long (Eq.symm (by rw [own_f4]; rw [if_neg hc3]))), N0, rfl⟩) ⟨hF.1, hF.2.1, hF.2.2.mono (by decide) (by decide)⟩)
def own_f3 (x : Int64) (y : Int64) : Int64 := (x * y)
theorem own_ef3 (m : MethodId) (x : Int64) (y : Int64) : entryFrame m #[(.long x), (.long y)] 10 = mkF m 0 #[.val (.long x), .second, .val (.long y), .second, .unset, .unset, .unset, .unset, .unset, .unset] [] := by
  (first | (simp [entryFrame, mkF, argsToLocals, Value.category]; done) | rfl)
theorem own_d3_0 : decode jdk_29_method_30_code 0 = .ok (.lload_n 0, 1) := by decide +kernel
theorem own_d3_1 : decode jdk_29_method_30_code 1 = .ok (.lload_n 2, 1) := by decide +kernel
theorem own_d3_2 : decode jdk_29_method_30_code 2 = .ok (.lmul, 1) := by decide +kernel
theorem own_d3_3 : decode jdk_29_method_30_code 3 = .ok (.lstore 4, 2) := by decide +kernel
theorem own_d3_5 : decode jdk_29_method_30_code 5 = .ok (.lload_n 0, 1) := by decide +kernel
theorem own_pd_0 : parseMethodDescriptor "(J)J" = some ⟨[.long], some .long⟩ := by decide +kernel
theorem own_d3_6 : decode jdk_29_method_30_code 6 = .ok (.invokestatic 122, 3) := by decide +kernel
theorem own_d3_9 : decode jdk_29_method_30_code 9 = .ok (.lstore 6, 2) := by decide +kernel
theorem own_d3_11 : decode jdk_29_method_30_code 11 = .ok (.lload_n 2, 1) := by decide +kernel
theorem own_d3_12 : decode jdk_29_method_30_code 12 = .ok (.invokestatic 122, 3) := by decide +kernel
theorem own_d3_15 : decode jdk_29_method_30_code 15 = .ok (.lstore 8, 2) := by decide +kernel
theorem own_d3_17 : decode jdk_29_method_30_code 17 = .ok (.lload 6, 2) := by decide +kernel
theorem own_d3_19 : decode jdk_29_method_30_code 19 = .ok (.lload 8, 2) := by decide +kernel
theorem own_d3_21 : decode jdk_29_method_30_code 21 = .ok (.lor, 1) := by decide +kernel
theorem own_d3_22 : decode jdk_29_method_30_code 22 = .ok (.bipush 31, 2) := by decide +kernel
theorem own_d3_24 : decode jdk_29_method_30_code 24 = .ok (.lushr, 1) := by decide +kernel
theorem own_d3_25 : decode jdk_29_method_30_code 25 = .ok (.lconst 0, 1) := by decide +kernel
theorem own_d3_26 : decode jdk_29_method_30_code 26 = .ok (.lcmp, 1) := by decide +kernel
theorem own_d3_27 : decode jdk_29_method_30_code 27 = .ok (.ifCond .eq 44, 3) := by decide +kernel
theorem own_d3_71 : decode jdk_29_method_30_code 71 = .ok (.lload 4, 2) := by decide +kernel
theorem own_d3_73 : decode jdk_29_method_30_code 73 = .ok (.lreturn, 1) := by decide +kernel
set_option maxRecDepth 65536 in
set_option maxHeartbeats 40000000 in
theorem own_rm3 (l : Launch) (Z : State) (a0 : Array Value) (hw : ∀ d ∈ tables_1, d.before a0 Z = true) (ws : List Jvm.Cond) (x : Int64) (y : Int64) (h0 : Heap) (n0 : Nat) (Z0 : n0 ≤ h0.size)  (hz : XT.ushrL (own_f4 x ||| own_f4 y) 31 = 0) :
    Con l Z (⟨"java/lang/Math", "multiplyExact", "(JJ)J"⟩ : MethodName) jdk_29_method_30_code 10 (some .long) ws ({ frames := 1, cells := 0, slots := 0, locals := 13 } : Room) #[(.long x), (.long y)] h0 (fun v h L => v = some (.long (own_f3 x y)) ∧ Fr n0 L ∧ h = h0) := by
  refine Con.intro (Jvm.Free.JP.mathPlain rfl (by decide +kernel)) ?_
  intro p e s m below meth c s₁ P hx hby hml hown hnm hret hlk hZ X0 e0 hP
  have N0 := Fr.nil n0
  have hown : s.vm.findClass "java/lang/Math" = some m.cls := hown
  refine Go.cast (own_ef3 m x y) ?_
  show Go p.tables e below P (s₁.setTop (mkF m 0 #[.val (.long x), .second, .val (.long y), .second, .unset, .unset, .unset, .unset, .unset, .unset] []))
  refine Go.s (fun k => XT.lloadN X0.here hx rfl (hb hby own_d3_0) rfl k) ?_
  show Go p.tables e below P (s₁.setTop (mkF m 1 #[.val (.long x), .second, .val (.long y), .second, .unset, .unset, .unset, .unset, .unset, .unset] [(.long x)]))
  refine Go.s (fun k => XT.lloadN X0.here hx rfl (hb hby own_d3_1) rfl k) ?_
  show Go p.tables e below P (s₁.setTop (mkF m 2 #[.val (.long x), .second, .val (.long y), .second, .unset, .unset, .unset, .unset, .unset, .unset] [(.long y), (.long x)]))
  refine Go.s (fun k => XT.lmul X0.here hx rfl (hb hby own_d3_2) rfl k) ?_
  show Go p.tables e below P (s₁.setTop (mkF m 3 #[.val (.long x), .second, .val (.long y), .second, .unset, .unset, .unset, .unset, .unset, .unset] [(.long (x * y))]))
  refine Go.s (fun k => XT.lstore X0.here hx rfl (hb hby own_d3_3) rfl (l' := #[.val (.long x), .second, .val (.long y), .second, .val (.long (x * y)), .second, .unset, .unset, .unset, .unset]) rfl k) ?_
  show Go p.tables e below P (s₁.setTop (mkF m 5 #[.val (.long x), .second, .val (.long y), .second, .val (.long (x * y)), .second, .unset, .unset, .unset, .unset] []))
  refine Go.s (fun k => XT.lloadN X0.here hx rfl (hb hby own_d3_5) rfl k) ?_
  show Go p.tables e below P (s₁.setTop (mkF m 6 #[.val (.long x), .second, .val (.long y), .second, .val (.long (x * y)), .second, .unset, .unset, .unset, .unset] [(.long x)]))
  obtain ⟨v1, T1, L1, X1, Q1, st1⟩ := Con.static (own_rm4 l Z a0 hw [] x h0 n0 Z0  ) X0 hx hZ (W := 0) hown (hw _ (List.mem_of_getElem? (i := 15) rfl)) (hw _ (List.mem_of_getElem? (i := 16) rfl)) (hw _ (List.mem_of_getElem? (i := 13) rfl)) (hw _ (List.mem_of_getElem? (i := 17) rfl)) (by decide) (by decide) (by decide) (by decide) (by decide) e0 (g := (mkF m 6 #[.val (.long x), .second, .val (.long y), .second, .val (.long (x * y)), .second, .unset, .unset, .unset, .unset] [(.long x)])) rfl (by rw [hml]; rfl) (argsL := [(.long x)]) (rest := []) rfl (lenOf own_pd_0 rfl) rfl (by show 2 * 0 + _ ≤ _; exact Nat.le_of_eq rfl) (hb hby own_d3_6)
  obtain ⟨rfl, Nq1, e1⟩ := Q1
  have N1 := Fr.app N0 Nq1
  refine Go.s (fun {t} => st1) ?_
  show Go p.tables e below P (T1.setTop (mkF m 9 #[.val (.long x), .second, .val (.long y), .second, .val (.long (x * y)), .second, .unset, .unset, .unset, .unset] [(.long (own_f4 x))]))
  refine Go.s (fun k => XT.lstore X1.here hx rfl (hb hby own_d3_9) rfl (l' := #[.val (.long x), .second, .val (.long y), .second, .val (.long (x * y)), .second, .val (.long (own_f4 x)), .second, .unset, .unset]) rfl k) ?_
  show Go p.tables e below P (T1.setTop (mkF m 11 #[.val (.long x), .second, .val (.long y), .second, .val (.long (x * y)), .second, .val (.long (own_f4 x)), .second, .unset, .unset] []))
  refine Go.s (fun k => XT.lloadN X1.here hx rfl (hb hby own_d3_11) rfl k) ?_
  show Go p.tables e below P (T1.setTop (mkF m 12 #[.val (.long x), .second, .val (.long y), .second, .val (.long (x * y)), .second, .val (.long (own_f4 x)), .second, .unset, .unset] [(.long y)]))
  obtain ⟨v2, T2, L2, X2, Q2, st2⟩ := Con.static (own_rm4 l Z a0 hw [] y h0 n0 Z0  ) X1 hx hZ (W := 0) hown (hw _ (List.mem_of_getElem? (i := 15) rfl)) (hw _ (List.mem_of_getElem? (i := 16) rfl)) (hw _ (List.mem_of_getElem? (i := 13) rfl)) (hw _ (List.mem_of_getElem? (i := 17) rfl)) (by decide) (by decide) (by decide) (by decide) (by decide) e1 (g := (mkF m 12 #[.val (.long x), .second, .val (.long y), .second, .val (.long (x * y)), .second, .val (.long (own_f4 x)), .second, .unset, .unset] [(.long y)])) rfl (by rw [hml]; rfl) (argsL := [(.long y)]) (rest := []) rfl (lenOf own_pd_0 rfl) rfl (by show 2 * 0 + _ ≤ _; exact Nat.le_of_eq rfl) (hb hby own_d3_12)
  obtain ⟨rfl, Nq2, e2⟩ := Q2
  have N2 := Fr.app N1 Nq2
  refine Go.s (fun {t} => st2) ?_
  show Go p.tables e below P (T2.setTop (mkF m 15 #[.val (.long x), .second, .val (.long y), .second, .val (.long (x * y)), .second, .val (.long (own_f4 x)), .second, .unset, .unset] [(.long (own_f4 y))]))
  refine Go.s (fun k => XT.lstore X2.here hx rfl (hb hby own_d3_15) rfl (l' := #[.val (.long x), .second, .val (.long y), .second, .val (.long (x * y)), .second, .val (.long (own_f4 x)), .second, .val (.long (own_f4 y)), .second]) rfl k) ?_
  show Go p.tables e below P (T2.setTop (mkF m 17 #[.val (.long x), .second, .val (.long y), .second, .val (.long (x * y)), .second, .val (.long (own_f4 x)), .second, .val (.long (own_f4 y)), .second] []))
  refine Go.s (fun k => XT.lload X2.here hx rfl (hb hby own_d3_17) rfl k) ?_
  show Go p.tables e below P (T2.setTop (mkF m 19 #[.val (.long x), .second, .val (.long y), .second, .val (.long (x * y)), .second, .val (.long (own_f4 x)), .second, .val (.long (own_f4 y)), .second] [(.long (own_f4 x))]))
  refine Go.s (fun k => XT.lload X2.here hx rfl (hb hby own_d3_19) rfl k) ?_
  show Go p.tables e below P (T2.setTop (mkF m 21 #[.val (.long x), .second, .val (.long y), .second, .val (.long (x * y)), .second, .val (.long (own_f4 x)), .second, .val (.long (own_f4 y)), .second] [(.long (own_f4 y)), (.long (own_f4 x))]))
  refine Go.s (fun k => XT.lor X2.here hx rfl (hb hby own_d3_21) rfl k) ?_
  show Go p.tables e below P (T2.setTop (mkF m 22 #[.val (.long x), .second, .val (.long y), .second, .val (.long (x * y)), .second, .val (.long (own_f4 x)), .second, .val (.long (own_f4 y)), .second] [(.long ((own_f4 x) ||| (own_f4 y)))]))
  refine Go.s (fun k => XS.bipush X2.here hx rfl (hb hby own_d3_22) k) ?_
  show Go p.tables e below P (T2.setTop (mkF m 24 #[.val (.long x), .second, .val (.long y), .second, .val (.long (x * y)), .second, .val (.long (own_f4 x)), .second, .val (.long (own_f4 y)), .second] [(.int (31 : Int32)), (.long ((own_f4 x) ||| (own_f4 y)))]))
  refine Go.s (fun k => XT.lushr X2.here hx rfl (hb hby own_d3_24) rfl k) ?_
  show Go p.tables e below P (T2.setTop (mkF m 25 #[.val (.long x), .second, .val (.long y), .second, .val (.long (x * y)), .second, .val (.long (own_f4 x)), .second, .val (.long (own_f4 y)), .second] [(.long (XT.ushrL ((own_f4 x) ||| (own_f4 y)) (31 : Int32)))]))
  refine Go.s (fun k => XT.lconst X2.here hx rfl (hb hby own_d3_25) k) ?_
  show Go p.tables e below P (T2.setTop (mkF m 26 #[.val (.long x), .second, .val (.long y), .second, .val (.long (x * y)), .second, .val (.long (own_f4 x)), .second, .val (.long (own_f4 y)), .second] [(.long (0 : Int64)), (.long (XT.ushrL ((own_f4 x) ||| (own_f4 y)) (31 : Int32)))]))
  refine Go.s (fun k => XT.lcmp X2.here hx rfl (hb hby own_d3_26) rfl k) ?_
  show Go p.tables e below P (T2.setTop (mkF m 27 #[.val (.long x), .second, .val (.long y), .second, .val (.long (x * y)), .second, .val (.long (own_f4 x)), .second, .val (.long (own_f4 y)), .second] [(.int (XT.cmpL (XT.ushrL ((own_f4 x) ||| (own_f4 y)) (31 : Int32)) (0 : Int64)))]))
  refine Go.s (fun k => XS.ifYes X2.here hx rfl (pc0 := 27) (pc' := 71) rfl (hb hby own_d3_27) rfl (XT.ll_eq_t hz) (by decide) (by decide) k) ?_
  show Go p.tables e below P (T2.setTop (mkF m 71 #[.val (.long x), .second, .val (.long y), .second, .val (.long (x * y)), .second, .val (.long (own_f4 x)), .second, .val (.long (own_f4 y)), .second] []))
  refine Go.s (fun k => XT.lload X2.here hx rfl (hb hby own_d3_71) rfl k) ?_
  show Go p.tables e below P (T2.setTop (mkF m 73 #[.val (.long x), .second, .val (.long y), .second, .val (.long (x * y)), .second, .val (.long (own_f4 x)), .second, .val (.long (own_f4 y)), .second] [(.long (x * y))]))
  exact Go.retJ X2 hx hlk hret (hb hby own_d3_73) (fun U hU hF => hP U _ _ (by rw [hU, e2]; exact ⟨congrArg some (congrArg Value.long (Eq.symm (by rw [own_f3]))), N2, rfl⟩) ⟨hF.1, hF.2.1, hF.2.2.mono (by decide) (by decide)⟩)
def own_f6 (x : Int64) (y : Int64) : Int64 := (if (x ^^^ y) < (0 : Int64) then (if ((x / y) * y) = x then (x / y) else ((x / y) - (1 : Int64))) else (x / y))
theorem own_ef6 (m : MethodId) (x : Int64) (y : Int64) : entryFrame m #[(.long x), (.long y)] 6 = mkF m 0 #[.val (.long x), .second, .val (.long y), .second, .unset, .unset] [] := by
  (first | (simp [entryFrame, mkF, argsToLocals, Value.category]; done) | rfl)
theorem own_d6_0 : decode jdk_29_method_49_code 0 = .ok (.lload_n 0, 1) := by decide +kernel
theorem own_d6_1 : decode jdk_29_method_49_code 1 = .ok (.lload_n 2, 1) := by decide +kernel
theorem own_d6_2 : decode jdk_29_method_49_code 2 = .ok (.ldiv, 1) := by decide +kernel
theorem own_d6_3 : decode jdk_29_method_49_code 3 = .ok (.lstore 4, 2) := by decide +kernel
theorem own_d6_5 : decode jdk_29_method_49_code 5 = .ok (.lload_n 0, 1) := by decide +kernel
theorem own_d6_6 : decode jdk_29_method_49_code 6 = .ok (.lload_n 2, 1) := by decide +kernel
theorem own_d6_7 : decode jdk_29_method_49_code 7 = .ok (.lxor, 1) := by decide +kernel
theorem own_d6_8 : decode jdk_29_method_49_code 8 = .ok (.lconst 0, 1) := by decide +kernel
theorem own_d6_9 : decode jdk_29_method_49_code 9 = .ok (.lcmp, 1) := by decide +kernel
theorem own_d6_10 : decode jdk_29_method_49_code 10 = .ok (.ifCond .ge 17, 3) := by decide +kernel
theorem own_d6_13 : decode jdk_29_method_49_code 13 = .ok (.lload 4, 2) := by decide +kernel
theorem own_d6_15 : decode jdk_29_method_49_code 15 = .ok (.lload_n 2, 1) := by decide +kernel
theorem own_d6_16 : decode jdk_29_method_49_code 16 = .ok (.lmul, 1) := by decide +kernel
theorem own_d6_17 : decode jdk_29_method_49_code 17 = .ok (.lload_n 0, 1) := by decide +kernel
theorem own_d6_18 : decode jdk_29_method_49_code 18 = .ok (.lcmp, 1) := by decide +kernel
theorem own_d6_19 : decode jdk_29_method_49_code 19 = .ok (.ifCond .eq 8, 3) := by decide +kernel
theorem own_d6_27 : decode jdk_29_method_49_code 27 = .ok (.lload 4, 2) := by decide +kernel
theorem own_d6_29 : decode jdk_29_method_49_code 29 = .ok (.lreturn, 1) := by decide +kernel
theorem own_d6_22 : decode jdk_29_method_49_code 22 = .ok (.lload 4, 2) := by decide +kernel
theorem own_d6_24 : decode jdk_29_method_49_code 24 = .ok (.lconst 1, 1) := by decide +kernel
theorem own_d6_25 : decode jdk_29_method_49_code 25 = .ok (.lsub, 1) := by decide +kernel
theorem own_d6_26 : decode jdk_29_method_49_code 26 = .ok (.lreturn, 1) := by decide +kernel
set_option maxRecDepth 65536 in
set_option maxHeartbeats 40000000 in
theorem own_rm6 (l : Launch) (Z : State) (a0 : Array Value) (hw : ∀ d ∈ tables_1, d.before a0 Z = true) (ws : List Jvm.Cond) (x : Int64) (y : Int64) (h0 : Heap) (n0 : Nat) (Z0 : n0 ≤ h0.size)  (hy : y ≠ 0) :
    Con l Z (⟨"java/lang/Math", "floorDiv", "(JJ)J"⟩ : MethodName) jdk_29_method_49_code 6 (some .long) ws ({ frames := 0, cells := 0, slots := 0, locals := 0 } : Room) #[(.long x), (.long y)] h0 (fun v h L => v = some (.long (own_f6 x y)) ∧ Fr n0 L ∧ h = h0) := by
  refine Con.intro (Jvm.Free.JP.mathPlain rfl (by decide +kernel)) ?_
  intro p e s m below meth c s₁ P hx hby hml hown hnm hret hlk hZ X0 e0 hP
  have N0 := Fr.nil n0
  have hown : s.vm.findClass "java/lang/Math" = some m.cls := hown
  refine Go.cast (own_ef6 m x y) ?_
  show Go p.tables e below P (s₁.setTop (mkF m 0 #[.val (.long x), .second, .val (.long y), .second, .unset, .unset] []))
  refine Go.s (fun k => XT.lloadN X0.here hx rfl (hb hby own_d6_0) rfl k) ?_
  show Go p.tables e below P (s₁.setTop (mkF m 1 #[.val (.long x), .second, .val (.long y), .second, .unset, .unset] [(.long x)]))
  refine Go.s (fun k => XT.lloadN X0.here hx rfl (hb hby own_d6_1) rfl k) ?_
  show Go p.tables e below P (s₁.setTop (mkF m 2 #[.val (.long x), .second, .val (.long y), .second, .unset, .unset] [(.long y), (.long x)]))
  refine Go.s (fun k => XT.ldiv X0.here hx rfl (hb hby own_d6_2) rfl hy k) ?_
  show Go p.tables e below P (s₁.setTop (mkF m 3 #[.val (.long x), .second, .val (.long y), .second, .unset, .unset] [(.long (x / y))]))
  refine Go.s (fun k => XT.lstore X0.here hx rfl (hb hby own_d6_3) rfl (l' := #[.val (.long x), .second, .val (.long y), .second, .val (.long (x / y)), .second]) rfl k) ?_
  show Go p.tables e below P (s₁.setTop (mkF m 5 #[.val (.long x), .second, .val (.long y), .second, .val (.long (x / y)), .second] []))
  refine Go.s (fun k => XT.lloadN X0.here hx rfl (hb hby own_d6_5) rfl k) ?_
  show Go p.tables e below P (s₁.setTop (mkF m 6 #[.val (.long x), .second, .val (.long y), .second, .val (.long (x / y)), .second] [(.long x)]))
  refine Go.s (fun k => XT.lloadN X0.here hx rfl (hb hby own_d6_6) rfl k) ?_
  show Go p.tables e below P (s₁.setTop (mkF m 7 #[.val (.long x), .second, .val (.long y), .second, .val (.long (x / y)), .second] [(.long y), (.long x)]))
  refine Go.s (fun k => XT.lxor X0.here hx rfl (hb hby own_d6_7) rfl k) ?_
  show Go p.tables e below P (s₁.setTop (mkF m 8 #[.val (.long x), .second, .val (.long y), .second, .val (.long (x / y)), .second] [(.long (x ^^^ y))]))
  refine Go.s (fun k => XT.lconst X0.here hx rfl (hb hby own_d6_8) k) ?_
  show Go p.tables e below P (s₁.setTop (mkF m 9 #[.val (.long x), .second, .val (.long y), .second, .val (.long (x / y)), .second] [(.long (0 : Int64)), (.long (x ^^^ y))]))
  refine Go.s (fun k => XT.lcmp X0.here hx rfl (hb hby own_d6_9) rfl k) ?_
  show Go p.tables e below P (s₁.setTop (mkF m 10 #[.val (.long x), .second, .val (.long y), .second, .val (.long (x / y)), .second] [(.int (XT.cmpL (x ^^^ y) (0 : Int64)))]))
  by_cases hc10 : (x ^^^ y) < (0 : Int64)
  · skip
    refine Go.s (fun k => XS.ifNo X0.here hx rfl (hb hby own_d6_10) rfl (XT.ll_ge_f hc10) k) ?_
    show Go p.tables e below P (s₁.setTop (mkF m 13 #[.val (.long x), .second, .val (.long y), .second, .val (.long (x / y)), .second] []))
    refine Go.s (fun k => XT.lload X0.here hx rfl (hb hby own_d6_13) rfl k) ?_
    show Go p.tables e below P (s₁.setTop (mkF m 15 #[.val (.long x), .second, .val (.long y), .second, .val (.long (x / y)), .second] [(.long (x / y))]))
    refine Go.s (fun k => XT.lloadN X0.here hx rfl (hb hby own_d6_15) rfl k) ?_
    show Go p.tables e below P (s₁.setTop (mkF m 16 #[.val (.long x), .second, .val (.long y), .second, .val (.long (x / y)), .second] [(.long y), (.long (x / y))]))
    refine Go.s (fun k => XT.lmul X0.here hx rfl (hb hby own_d6_16) rfl k) ?_
    show Go p.tables e below P (s₁.setTop (mkF m 17 #[.val (.long x), .second, .val (.long y), .second, .val (.long (x / y)), .second] [(.long ((x / y) * y))]))
    refine Go.s (fun k => XT.lloadN X0.here hx rfl (hb hby own_d6_17) rfl k) ?_
    show Go p.tables e below P (s₁.setTop (mkF m 18 #[.val (.long x), .second, .val (.long y), .second, .val (.long (x / y)), .second] [(.long x), (.long ((x / y) * y))]))
    refine Go.s (fun k => XT.lcmp X0.here hx rfl (hb hby own_d6_18) rfl k) ?_
    show Go p.tables e below P (s₁.setTop (mkF m 19 #[.val (.long x), .second, .val (.long y), .second, .val (.long (x / y)), .second] [(.int (XT.cmpL ((x / y) * y) x))]))
    by_cases hc19 : ((x / y) * y) = x
    · skip
      refine Go.s (fun k => XS.ifYes X0.here hx rfl (pc0 := 19) (pc' := 27) rfl (hb hby own_d6_19) rfl (XT.ll_eq_t hc19) (by decide) (by decide) k) ?_
      show Go p.tables e below P (s₁.setTop (mkF m 27 #[.val (.long x), .second, .val (.long y), .second, .val (.long (x / y)), .second] []))
      refine Go.s (fun k => XT.lload X0.here hx rfl (hb hby own_d6_27) rfl k) ?_
      show Go p.tables e below P (s₁.setTop (mkF m 29 #[.val (.long x), .second, .val (.long y), .second, .val (.long (x / y)), .second] [(.long (x / y))]))
      exact Go.retJ X0 hx hlk hret (hb hby own_d6_29) (fun U hU hF => hP U _ _ (by rw [hU, e0]; exact ⟨congrArg some (congrArg Value.long (Eq.symm (by rw [own_f6]; rw [if_pos hc10]; rw [if_pos hc19]))), N0, rfl⟩) ⟨hF.1, hF.2.1, hF.2.2.mono (by decide) (by decide)⟩)
    · skip
      refine Go.s (fun k => XS.ifNo X0.here hx rfl (hb hby own_d6_19) rfl (XT.ll_eq_f hc19) k) ?_
      show Go p.tables e below P (s₁.setTop (mkF m 22 #[.val (.long x), .second, .val (.long y), .second, .val (.long (x / y)), .second] []))
      refine Go.s (fun k => XT.lload X0.here hx rfl (hb hby own_d6_22) rfl k) ?_
      show Go p.tables e below P (s₁.setTop (mkF m 24 #[.val (.long x), .second, .val (.long y), .second, .val (.long (x / y)), .second] [(.long (x / y))]))
      refine Go.s (fun k => XT.lconst X0.here hx rfl (hb hby own_d6_24) k) ?_
      show Go p.tables e below P (s₁.setTop (mkF m 25 #[.val (.long x), .second, .val (.long y), .second, .val (.long (x / y)), .second] [(.long (1 : Int64)), (.long (x / y))]))
      refine Go.s (fun k => XT.lsub X0.here hx rfl (hb hby own_d6_25) rfl k) ?_
      show Go p.tables e below P (s₁.setTop (mkF m 26 #[.val (.long x), .second, .val (.long y), .second, .val (.long (x / y)), .second] [(.long ((x / y) - (1 : Int64)))]))
      exact Go.retJ X0 hx hlk hret (hb hby own_d6_26) (fun U hU hF => hP U _ _ (by rw [hU, e0]; exact ⟨congrArg some (congrArg Value.long (Eq.symm (by rw [own_f6]; rw [if_pos hc10]; rw [if_neg hc19]))), N0, rfl⟩) ⟨hF.1, hF.2.1, hF.2.2.mono (by decide) (by decide)⟩)
  · skip
    refine Go.s (fun k => XS.ifYes X0.here hx rfl (pc0 := 10) (pc' := 27) rfl (hb hby own_d6_10) rfl (XT.ll_ge_t hc10) (by decide) (by decide) k) ?_
    show Go p.tables e below P (s₁.setTop (mkF m 27 #[.val (.long x), .second, .val (.long y), .second, .val (.long (x / y)), .second] []))
    refine Go.s (fun k => XT.lload X0.here hx rfl (hb hby own_d6_27) rfl k) ?_
    show Go p.tables e below P (s₁.setTop (mkF m 29 #[.val (.long x), .second, .val (.long y), .second, .val (.long (x / y)), .second] [(.long (x / y))]))
    exact Go.retJ X0 hx hlk hret (hb hby own_d6_29) (fun U hU hF => hP U _ _ (by rw [hU, e0]; exact ⟨congrArg some (congrArg Value.long (Eq.symm (by rw [own_f6]; rw [if_neg hc10]))), N0, rfl⟩) ⟨hF.1, hF.2.1, hF.2.2.mono (by decide) (by decide)⟩)
theorem own_ef1 (m : MethodId) (a : Addr) (og : Int64) (pe : Int64) (co : Int64) : entryFrame m #[(.ref a), (.long og), (.long pe), (.long co)] 8 = mkF m 0 #[.val (.ref a), .val (.long og), .second, .val (.long pe), .second, .val (.long co), .second, .unset] [] := by
  (first | (simp [entryFrame, mkF, argsToLocals, Value.category]; done) | rfl)
theorem own_pn_0 : plainName "com/example/tempo_feed/tempofeed/core/EvenlySpacedPolls" = true := by first | (simp [plainName, overriddenIn]; done) | decide +kernel
theorem own_d1_0 : decode prog_16_method_1_code 0 = .ok (.aload_n 0, 1) := by decide +kernel
theorem own_d1_1 : decode prog_16_method_1_code 1 = .ok (.invokespecial 1, 3) := by decide +kernel
theorem own_d1_4 : decode prog_16_method_1_code 4 = .ok (.lload_n 3, 1) := by decide +kernel
theorem own_d1_5 : decode prog_16_method_1_code 5 = .ok (.lconst 1, 1) := by decide +kernel
theorem own_d1_6 : decode prog_16_method_1_code 6 = .ok (.lcmp, 1) := by decide +kernel
theorem own_d1_7 : decode prog_16_method_1_code 7 = .ok (.ifCond .lt 10, 3) := by decide +kernel
theorem own_d1_10 : decode prog_16_method_1_code 10 = .ok (.lload 5, 2) := by decide +kernel
theorem own_d1_12 : decode prog_16_method_1_code 12 = .ok (.lconst 1, 1) := by decide +kernel
theorem own_d1_13 : decode prog_16_method_1_code 13 = .ok (.lcmp, 1) := by decide +kernel
theorem own_d1_14 : decode prog_16_method_1_code 14 = .ok (.ifCond .ge 19, 3) := by decide +kernel
theorem own_d1_33 : decode prog_16_method_1_code 33 = .ok (.lload_n 3, 1) := by decide +kernel
theorem own_d1_34 : decode prog_16_method_1_code 34 = .ok (.lload 5, 2) := by decide +kernel
theorem own_pd_1 : parseMethodDescriptor "(JJ)J" = some ⟨[.long, .long], some .long⟩ := by decide +kernel
theorem own_d1_36 : decode prog_16_method_1_code 36 = .ok (.invokestatic 16, 3) := by decide +kernel
theorem own_d1_39 : decode prog_16_method_1_code 39 = .ok (.pop2, 1) := by decide +kernel
theorem own_d1_40 : decode prog_16_method_1_code 40 = .ok (.goto 23, 3) := by decide +kernel
theorem own_d1_63 : decode prog_16_method_1_code 63 = .ok (.aload_n 0, 1) := by decide +kernel
theorem own_d1_64 : decode prog_16_method_1_code 64 = .ok (.lload_n 1, 1) := by decide +kernel
theorem own_d1_65 : decode prog_16_method_1_code 65 = .ok (.putfield 28, 3) := by decide +kernel
theorem own_d1_68 : decode prog_16_method_1_code 68 = .ok (.aload_n 0, 1) := by decide +kernel
theorem own_d1_69 : decode prog_16_method_1_code 69 = .ok (.lload_n 3, 1) := by decide +kernel
theorem own_d1_70 : decode prog_16_method_1_code 70 = .ok (.putfield 34, 3) := by decide +kernel
theorem own_d1_73 : decode prog_16_method_1_code 73 = .ok (.aload_n 0, 1) := by decide +kernel
theorem own_d1_74 : decode prog_16_method_1_code 74 = .ok (.lload 5, 2) := by decide +kernel
theorem own_d1_76 : decode prog_16_method_1_code 76 = .ok (.putfield 37, 3) := by decide +kernel
theorem own_d1_79 : decode prog_16_method_1_code 79 = .ok (.return_, 1) := by decide +kernel
set_option maxRecDepth 65536 in
set_option maxHeartbeats 40000000 in
theorem own_rm1 (l : Launch) (Z : State) (a0 : Array Value) (hw : ∀ d ∈ tables_1, d.before a0 Z = true) (ws : List Jvm.Cond) (a : Addr) (og : Int64) (pe : Int64) (co : Int64) (h0 : Heap) (n0 : Nat) (Z0 : n0 ≤ h0.size) (E0 : Exa Z h0 a "com/example/tempo_feed/tempofeed/core/EvenlySpacedPolls") (U0 : Kn h0 a) (G0 : n0 ≤ a) (hp1 : ¬ pe < 1) (hp2 : ¬ co < 1) (hz_pe : XT.ushrL (own_f4 pe ||| own_f4 co) 31 = 0) :
    ConH l Z (⟨"com/example/tempo_feed/tempofeed/core/EvenlySpacedPolls", "<init>", "(JJJ)V"⟩ : MethodName) prog_16_method_1_code 8 none [((33 : Nat), (40 : Nat), (43 : Nat), (22 : Nat))] ws ({ frames := 2, cells := 0, slots := 0, locals := 34 } : Room) #[(.ref a), (.long og), (.long pe), (.long co)] h0 (fun v h L => v = none ∧ Fr n0 L ∧ Keep h0 h [a] ∧ Fld Z h a "com/example/tempo_feed/tempofeed/core/EvenlySpacedPolls" "count" "J" (.long co) ∧ Fld Z h a "com/example/tempo_feed/tempofeed/core/EvenlySpacedPolls" "originEpochSecond" "J" (.long og) ∧ Fld Z h a "com/example/tempo_feed/tempofeed/core/EvenlySpacedPolls" "periodSeconds" "J" (.long pe)) := by
  refine ConH.intro (plainFor_of_name own_pn_0) ?_
  intro p e s m below meth c s₁ P hx hby hml hown hnm hret hlk hZ X0 e0 hP
  have N0 := Fr.nil n0
  have hown : s.vm.findClass "com/example/tempo_feed/tempofeed/core/EvenlySpacedPolls" = some m.cls := hown
  refine Go.cast (own_ef1 m a og pe co) ?_
  show Go p.tables e below P (s₁.setTop (mkF m 0 #[.val (.ref a), .val (.long og), .second, .val (.long pe), .second, .val (.long co), .second, .unset] []))
  refine Go.s (fun k => XS.aloadN X0.here hx rfl (hb hby own_d1_0) rfl rfl k) ?_
  show Go p.tables e below P (s₁.setTop (mkF m 1 #[.val (.ref a), .val (.long og), .second, .val (.long pe), .second, .val (.long co), .second, .unset] [(.ref a)]))
  obtain ⟨T1, X1, e1, st1⟩ := initO X0 hx hZ hown (hw _ (List.mem_of_getElem? (i := 8) rfl)) (hw _ (List.mem_of_getElem? (i := 9) rfl)) (hw _ (List.mem_of_getElem? (i := 10) rfl)) e0 (g := (mkF m 1 #[.val (.ref a), .val (.long og), .second, .val (.long pe), .second, .val (.long co), .second, .unset] [(.ref a)])) rfl (by rw [hml]; rfl) rfl (hb hby own_d1_1) (by decide) (W := 0) (by show 2 * 0 + _ ≤ _; exact Nat.le_of_eq rfl) (by decide)
  refine Go.s (fun {t} => st1 t) ?_
  show Go p.tables e below P (T1.setTop (mkF m 4 #[.val (.ref a), .val (.long og), .second, .val (.long pe), .second, .val (.long co), .second, .unset] []))
  refine Go.s (fun k => XT.lloadN X1.here hx rfl (hb hby own_d1_4) rfl k) ?_
  show Go p.tables e below P (T1.setTop (mkF m 5 #[.val (.ref a), .val (.long og), .second, .val (.long pe), .second, .val (.long co), .second, .unset] [(.long pe)]))
  refine Go.s (fun k => XT.lconst X1.here hx rfl (hb hby own_d1_5) k) ?_
  show Go p.tables e below P (T1.setTop (mkF m 6 #[.val (.ref a), .val (.long og), .second, .val (.long pe), .second, .val (.long co), .second, .unset] [(.long (1 : Int64)), (.long pe)]))
  refine Go.s (fun k => XT.lcmp X1.here hx rfl (hb hby own_d1_6) rfl k) ?_
  show Go p.tables e below P (T1.setTop (mkF m 7 #[.val (.ref a), .val (.long og), .second, .val (.long pe), .second, .val (.long co), .second, .unset] [(.int (XT.cmpL pe (1 : Int64)))]))
  refine Go.s (fun k => XS.ifNo X1.here hx rfl (hb hby own_d1_7) rfl (XT.ll_lt_f hp1) k) ?_
  show Go p.tables e below P (T1.setTop (mkF m 10 #[.val (.ref a), .val (.long og), .second, .val (.long pe), .second, .val (.long co), .second, .unset] []))
  refine Go.s (fun k => XT.lload X1.here hx rfl (hb hby own_d1_10) rfl k) ?_
  show Go p.tables e below P (T1.setTop (mkF m 12 #[.val (.ref a), .val (.long og), .second, .val (.long pe), .second, .val (.long co), .second, .unset] [(.long co)]))
  refine Go.s (fun k => XT.lconst X1.here hx rfl (hb hby own_d1_12) k) ?_
  show Go p.tables e below P (T1.setTop (mkF m 13 #[.val (.ref a), .val (.long og), .second, .val (.long pe), .second, .val (.long co), .second, .unset] [(.long (1 : Int64)), (.long co)]))
  refine Go.s (fun k => XT.lcmp X1.here hx rfl (hb hby own_d1_13) rfl k) ?_
  show Go p.tables e below P (T1.setTop (mkF m 14 #[.val (.ref a), .val (.long og), .second, .val (.long pe), .second, .val (.long co), .second, .unset] [(.int (XT.cmpL co (1 : Int64)))]))
  refine Go.s (fun k => XS.ifYes X1.here hx rfl (pc0 := 14) (pc' := 33) rfl (hb hby own_d1_14) rfl (XT.ll_ge_t hp2) (by decide) (by decide) k) ?_
  show Go p.tables e below P (T1.setTop (mkF m 33 #[.val (.ref a), .val (.long og), .second, .val (.long pe), .second, .val (.long co), .second, .unset] []))
  refine Go.s (fun k => XT.lloadN X1.here hx rfl (hb hby own_d1_33) rfl k) ?_
  show Go p.tables e below P (T1.setTop (mkF m 34 #[.val (.ref a), .val (.long og), .second, .val (.long pe), .second, .val (.long co), .second, .unset] [(.long pe)]))
  refine Go.s (fun k => XT.lload X1.here hx rfl (hb hby own_d1_34) rfl k) ?_
  show Go p.tables e below P (T1.setTop (mkF m 36 #[.val (.ref a), .val (.long og), .second, .val (.long pe), .second, .val (.long co), .second, .unset] [(.long co), (.long pe)]))
  obtain ⟨v2, T2, L2, X2, Q2, st2⟩ := Con.static (own_rm3 l Z a0 hw [] pe co h0 n0 Z0  hz_pe) X1 hx hZ (W := 0) hown (hw _ (List.mem_of_getElem? (i := 11) rfl)) (hw _ (List.mem_of_getElem? (i := 12) rfl)) (hw _ (List.mem_of_getElem? (i := 13) rfl)) (hw _ (List.mem_of_getElem? (i := 14) rfl)) (by decide) (by decide) (by decide) (by decide) (by decide) e1 (g := (mkF m 36 #[.val (.ref a), .val (.long og), .second, .val (.long pe), .second, .val (.long co), .second, .unset] [(.long co), (.long pe)])) rfl (by rw [hml]; rfl) (argsL := [(.long pe), (.long co)]) (rest := []) rfl (lenOf own_pd_1 rfl) rfl (by show 2 * 0 + _ ≤ _; exact Nat.le_of_eq rfl) (hb hby own_d1_36)
  obtain ⟨rfl, Nq2, e2⟩ := Q2
  have N2 := Fr.app N0 Nq2
  refine Go.s (fun {t} => st2) ?_
  show Go p.tables e below P (T2.setTop (mkF m 39 #[.val (.ref a), .val (.long og), .second, .val (.long pe), .second, .val (.long co), .second, .unset] [(.long (own_f3 pe co))]))
  refine Go.s (fun k => pop2L X2 hx rfl (hb hby own_d1_39) rfl k) ?_
  show Go p.tables e below P (T2.setTop (mkF m 40 #[.val (.ref a), .val (.long og), .second, .val (.long pe), .second, .val (.long co), .second, .unset] []))
  refine Go.s (fun k => XS.goto X2.here hx rfl (pc0 := 40) (pc' := 63) rfl (hb hby own_d1_40) (by decide) (by decide) k) ?_
  show Go p.tables e below P (T2.setTop (mkF m 63 #[.val (.ref a), .val (.long og), .second, .val (.long pe), .second, .val (.long co), .second, .unset] []))
  refine Go.s (fun k => XS.aloadN X2.here hx rfl (hb hby own_d1_63) rfl rfl k) ?_
  show Go p.tables e below P (T2.setTop (mkF m 64 #[.val (.ref a), .val (.long og), .second, .val (.long pe), .second, .val (.long co), .second, .unset] [(.ref a)]))
  refine Go.s (fun k => XT.lloadN X2.here hx rfl (hb hby own_d1_64) rfl k) ?_
  show Go p.tables e below P (T2.setTop (mkF m 65 #[.val (.ref a), .val (.long og), .second, .val (.long pe), .second, .val (.long co), .second, .unset] [(.long og), (.ref a)]))
  obtain ⟨u3, Fo3⟩ := fld_laid E0 U0 (hw _ (List.mem_of_getElem? (i := 3) rfl)) (Or.inr (hw _ (List.mem_of_getElem? (i := 19) rfl)))
  obtain ⟨T3, H3, X3, e3, W3, st3⟩ := putF X2 hx hZ hown (host := "") (Or.inl (hw _ (List.mem_of_getElem? (i := 18) rfl))) Via.refl e2 Fo3 E0 (Or.inr ⟨(hw _ (List.mem_of_getElem? (i := 19) rfl)), rfl, hnm⟩) (hw _ (List.mem_of_getElem? (i := 3) rfl)) (ty := .long) (by decide) rfl rfl (g := (mkF m 65 #[.val (.ref a), .val (.long og), .second, .val (.long pe), .second, .val (.long co), .second, .unset] [(.long og), (.ref a)])) rfl rfl (hb hby own_d1_65)
  refine Go.s (fun {t} => st3 t) ?_
  have Fw3 := Fld.same W3 Fo3
  have E0_4 := Exa.wr W3 E0
  have U0_5 := Kn.wr U0 W3
  have N3 := Fr.snoc X3 N2 G0
  have Zs3 := Nat.le_trans Z0 (Keep.of_wr W3).1
  have K3 : Keep h0 H3 [a] := (Keep.refl h0 [a]).wr W3 (Or.inl (List.mem_of_getElem? (i := 0) rfl))
  show Go p.tables e below P (T3.setTop (mkF m 68 #[.val (.ref a), .val (.long og), .second, .val (.long pe), .second, .val (.long co), .second, .unset] []))
  refine Go.s (fun k => XS.aloadN X3.here hx rfl (hb hby own_d1_68) rfl rfl k) ?_
  show Go p.tables e below P (T3.setTop (mkF m 69 #[.val (.ref a), .val (.long og), .second, .val (.long pe), .second, .val (.long co), .second, .unset] [(.ref a)]))
  refine Go.s (fun k => XT.lloadN X3.here hx rfl (hb hby own_d1_69) rfl k) ?_
  show Go p.tables e below P (T3.setTop (mkF m 70 #[.val (.ref a), .val (.long og), .second, .val (.long pe), .second, .val (.long co), .second, .unset] [(.long pe), (.ref a)]))
  obtain ⟨u6, Fo6⟩ := fld_laid E0_4 U0_5 (hw _ (List.mem_of_getElem? (i := 3) rfl)) (Or.inr (hw _ (List.mem_of_getElem? (i := 21) rfl)))
  obtain ⟨T6, H6, X6, e6, W6, st6⟩ := putF X3 hx hZ hown (host := "") (Or.inl (hw _ (List.mem_of_getElem? (i := 20) rfl))) Via.refl e3 Fo6 E0_4 (Or.inr ⟨(hw _ (List.mem_of_getElem? (i := 21) rfl)), rfl, hnm⟩) (hw _ (List.mem_of_getElem? (i := 3) rfl)) (ty := .long) (by decide) rfl rfl (g := (mkF m 70 #[.val (.ref a), .val (.long og), .second, .val (.long pe), .second, .val (.long co), .second, .unset] [(.long pe), (.ref a)])) rfl rfl (hb hby own_d1_70)
  refine Go.s (fun {t} => st6 t) ?_
  have Fw6 := Fld.same W6 Fo6
  have E0_7 := Exa.wr W6 E0_4
  have U0_8 := Kn.wr U0_5 W6
  have Fw3_9 := Fld.other W6 Fw3 (Or.inr (slot_ne (Or.inr (hw _ (List.mem_of_getElem? (i := 19) rfl))) (Or.inr (hw _ (List.mem_of_getElem? (i := 21) rfl))) (by decide) (t := .long) (t' := .long) (by decide) (by decide)))
  have N6 := Fr.snoc X6 N3 G0
  have Zs6 := Nat.le_trans Zs3 (Keep.of_wr W6).1
  have K6 : Keep h0 H6 [a] := K3.wr W6 (Or.inl (List.mem_of_getElem? (i := 0) rfl))
  show Go p.tables e below P (T6.setTop (mkF m 73 #[.val (.ref a), .val (.long og), .second, .val (.long pe), .second, .val (.long co), .second, .unset] []))
  refine Go.s (fun k => XS.aloadN X6.here hx rfl (hb hby own_d1_73) rfl rfl k) ?_
  show Go p.tables e below P (T6.setTop (mkF m 74 #[.val (.ref a), .val (.long og), .second, .val (.long pe), .second, .val (.long co), .second, .unset] [(.ref a)]))
  refine Go.s (fun k => XT.lload X6.here hx rfl (hb hby own_d1_74) rfl k) ?_
  show Go p.tables e below P (T6.setTop (mkF m 76 #[.val (.ref a), .val (.long og), .second, .val (.long pe), .second, .val (.long co), .second, .unset] [(.long co), (.ref a)]))
  obtain ⟨u10, Fo10⟩ := fld_laid E0_7 U0_8 (hw _ (List.mem_of_getElem? (i := 3) rfl)) (Or.inr (hw _ (List.mem_of_getElem? (i := 23) rfl)))
  obtain ⟨T10, H10, X10, e10, W10, st10⟩ := putF X6 hx hZ hown (host := "") (Or.inl (hw _ (List.mem_of_getElem? (i := 22) rfl))) Via.refl e6 Fo10 E0_7 (Or.inr ⟨(hw _ (List.mem_of_getElem? (i := 23) rfl)), rfl, hnm⟩) (hw _ (List.mem_of_getElem? (i := 3) rfl)) (ty := .long) (by decide) rfl rfl (g := (mkF m 76 #[.val (.ref a), .val (.long og), .second, .val (.long pe), .second, .val (.long co), .second, .unset] [(.long co), (.ref a)])) rfl rfl (hb hby own_d1_76)
  refine Go.s (fun {t} => st10 t) ?_
  have Fw10 := Fld.same W10 Fo10
  have E0_11 := Exa.wr W10 E0_7
  have U0_12 := Kn.wr U0_8 W10
  have Fw3_13 := Fld.other W10 Fw3_9 (Or.inr (slot_ne (Or.inr (hw _ (List.mem_of_getElem? (i := 19) rfl))) (Or.inr (hw _ (List.mem_of_getElem? (i := 23) rfl))) (by decide) (t := .long) (t' := .long) (by decide) (by decide)))
  have Fw6_14 := Fld.other W10 Fw6 (Or.inr (slot_ne (Or.inr (hw _ (List.mem_of_getElem? (i := 21) rfl))) (Or.inr (hw _ (List.mem_of_getElem? (i := 23) rfl))) (by decide) (t := .long) (t' := .long) (by decide) (by decide)))
  have N10 := Fr.snoc X10 N6 G0
  have Zs10 := Nat.le_trans Zs6 (Keep.of_wr W10).1
  have K10 : Keep h0 H10 [a] := K6.wr W10 (Or.inl (List.mem_of_getElem? (i := 0) rfl))
  show Go p.tables e below P (T10.setTop (mkF m 79 #[.val (.ref a), .val (.long og), .second, .val (.long pe), .second, .val (.long co), .second, .unset] []))
  exact Go.retV X10 hx hlk hret (hb hby own_d1_79) (fun U hU hF => hP U _ _ (by rw [hU, e10]; exact ⟨rfl, N10, K10, Fw10, Fw3_13, Fw6_14⟩) ⟨hF.1, hF.2.1, hF.2.2.mono (by decide) (by decide)⟩)
def own_f5 (ix : Int64) (og : Int64) (pe : Int64) (co : Int64) : Int64 := (og + (own_f6 (own_f3 ix pe) co))
theorem own_ef5 (m : MethodId) (a : Addr) (ix : Int64) : entryFrame m #[(.ref a), (.long ix)] 3 = mkF m 0 #[.val (.ref a), .val (.long ix), .second] [] := by
  (first | (simp [entryFrame, mkF, argsToLocals, Value.category]; done) | rfl)
theorem own_d5_0 : decode prog_16_method_3_code 0 = .ok (.aload_n 0, 1) := by decide +kernel
theorem own_d5_1 : decode prog_16_method_3_code 1 = .ok (.getfield 28, 3) := by decide +kernel
theorem own_d5_4 : decode prog_16_method_3_code 4 = .ok (.lload_n 1, 1) := by decide +kernel
theorem own_d5_5 : decode prog_16_method_3_code 5 = .ok (.aload_n 0, 1) := by decide +kernel
theorem own_d5_6 : decode prog_16_method_3_code 6 = .ok (.getfield 34, 3) := by decide +kernel
theorem own_d5_9 : decode prog_16_method_3_code 9 = .ok (.invokestatic 16, 3) := by decide +kernel
theorem own_d5_12 : decode prog_16_method_3_code 12 = .ok (.aload_n 0, 1) := by decide +kernel
theorem own_d5_13 : decode prog_16_method_3_code 13 = .ok (.getfield 37, 3) := by decide +kernel
theorem own_d5_16 : decode prog_16_method_3_code 16 = .ok (.invokestatic 45, 3) := by decide +kernel
theorem own_d5_19 : decode prog_16_method_3_code 19 = .ok (.ladd, 1) := by decide +kernel
theorem own_d5_20 : decode prog_16_method_3_code 20 = .ok (.lreturn, 1) := by decide +kernel
set_option maxRecDepth 65536 in
set_option maxHeartbeats 40000000 in
theorem own_rm5 (l : Launch) (Z : State) (a0 : Array Value) (hw : ∀ d ∈ tables_1, d.before a0 Z = true) (ws : List Jvm.Cond) (a : Addr) (ix : Int64) (og : Int64) (pe : Int64) (co : Int64) (h0 : Heap) (n0 : Nat) (Z0 : n0 ≤ h0.size)  (F_originEpochSecond : Fld Z h0 a "com/example/tempo_feed/tempofeed/core/EvenlySpacedPolls" "originEpochSecond" "J" (.long og)) (F_periodSeconds : Fld Z h0 a "com/example/tempo_feed/tempofeed/core/EvenlySpacedPolls" "periodSeconds" "J" (.long pe)) (F_count : Fld Z h0 a "com/example/tempo_feed/tempofeed/core/EvenlySpacedPolls" "count" "J" (.long co)) (hz_ix : XT.ushrL (own_f4 ix ||| own_f4 pe) 31 = 0) (hco : co ≠ 0) :
    Con l Z (⟨"com/example/tempo_feed/tempofeed/core/EvenlySpacedPolls", "poll", "(J)J"⟩ : MethodName) prog_16_method_3_code 3 (some .long) ws ({ frames := 2, cells := 0, slots := 0, locals := 36 } : Room) #[(.ref a), (.long ix)] h0 (fun v h L => v = some (.long (own_f5 ix og pe co)) ∧ Fr n0 L ∧ h = h0) := by
  refine Con.intro (plainFor_of_name own_pn_0) ?_
  intro p e s m below meth c s₁ P hx hby hml hown hnm hret hlk hZ X0 e0 hP
  have N0 := Fr.nil n0
  have hown : s.vm.findClass "com/example/tempo_feed/tempofeed/core/EvenlySpacedPolls" = some m.cls := hown
  refine Go.cast (own_ef5 m a ix) ?_
  show Go p.tables e below P (s₁.setTop (mkF m 0 #[.val (.ref a), .val (.long ix), .second] []))
  refine Go.s (fun k => XS.aloadN X0.here hx rfl (hb hby own_d5_0) rfl rfl k) ?_
  show Go p.tables e below P (s₁.setTop (mkF m 1 #[.val (.ref a), .val (.long ix), .second] [(.ref a)]))
  obtain ⟨T1, X1, e1, st1⟩ := getF X0 hx hZ hown (host := "") (Or.inl (hw _ (List.mem_of_getElem? (i := 18) rfl))) Via.refl e0 F_originEpochSecond (g := (mkF m 1 #[.val (.ref a), .val (.long ix), .second] [(.ref a)])) rfl rfl (hb hby own_d5_1)
  refine Go.s (fun {t} => st1 t) ?_
  show Go p.tables e below P (T1.setTop (mkF m 4 #[.val (.ref a), .val (.long ix), .second] [(.long og)]))
  refine Go.s (fun k => XT.lloadN X1.here hx rfl (hb hby own_d5_4) rfl k) ?_
  show Go p.tables e below P (T1.setTop (mkF m 5 #[.val (.ref a), .val (.long ix), .second] [(.long ix), (.long og)]))
  refine Go.s (fun k => XS.aloadN X1.here hx rfl (hb hby own_d5_5) rfl rfl k) ?_
  show Go p.tables e below P (T1.setTop (mkF m 6 #[.val (.ref a), .val (.long ix), .second] [(.ref a), (.long ix), (.long og)]))
  obtain ⟨T2, X2, e2, st2⟩ := getF X1 hx hZ hown (host := "") (Or.inl (hw _ (List.mem_of_getElem? (i := 20) rfl))) Via.refl e1 F_periodSeconds (g := (mkF m 6 #[.val (.ref a), .val (.long ix), .second] [(.ref a), (.long ix), (.long og)])) rfl rfl (hb hby own_d5_6)
  refine Go.s (fun {t} => st2 t) ?_
  show Go p.tables e below P (T2.setTop (mkF m 9 #[.val (.ref a), .val (.long ix), .second] [(.long pe), (.long ix), (.long og)]))
  obtain ⟨v3, T3, L3, X3, Q3, st3⟩ := Con.static (own_rm3 l Z a0 hw [] ix pe h0 n0 Z0  hz_ix) X2 hx hZ (W := 2) hown (hw _ (List.mem_of_getElem? (i := 11) rfl)) (hw _ (List.mem_of_getElem? (i := 12) rfl)) (hw _ (List.mem_of_getElem? (i := 13) rfl)) (hw _ (List.mem_of_getElem? (i := 14) rfl)) (by decide) (by decide) (by decide) (by decide) (by decide) e2 (g := (mkF m 9 #[.val (.ref a), .val (.long ix), .second] [(.long pe), (.long ix), (.long og)])) rfl (by rw [hml]; rfl) (argsL := [(.long ix), (.long pe)]) (rest := [(.long og)]) rfl (lenOf own_pd_1 rfl) rfl (by show 2 * 0 + _ ≤ _; exact Nat.le_of_eq rfl) (hb hby own_d5_9)
  obtain ⟨rfl, Nq3, e3⟩ := Q3
  have N3 := Fr.app N0 Nq3
  refine Go.s (fun {t} => st3) ?_
  show Go p.tables e below P (T3.setTop (mkF m 12 #[.val (.ref a), .val (.long ix), .second] [(.long (own_f3 ix pe)), (.long og)]))
  refine Go.s (fun k => XS.aloadN X3.here hx rfl (hb hby own_d5_12) rfl rfl k) ?_
  show Go p.tables e below P (T3.setTop (mkF m 13 #[.val (.ref a), .val (.long ix), .second] [(.ref a), (.long (own_f3 ix pe)), (.long og)]))
  obtain ⟨T4, X4, e4, st4⟩ := getF X3 hx hZ hown (host := "") (Or.inl (hw _ (List.mem_of_getElem? (i := 22) rfl))) Via.refl e3 F_count (g := (mkF m 13 #[.val (.ref a), .val (.long ix), .second] [(.ref a), (.long (own_f3 ix pe)), (.long og)])) rfl rfl (hb hby own_d5_13)
  refine Go.s (fun {t} => st4 t) ?_
  show Go p.tables e below P (T4.setTop (mkF m 16 #[.val (.ref a), .val (.long ix), .second] [(.long co), (.long (own_f3 ix pe)), (.long og)]))
  obtain ⟨v5, T5, L5, X5, Q5, st5⟩ := Con.static (own_rm6 l Z a0 hw [] (own_f3 ix pe) co h0 n0 Z0  hco) X4 hx hZ (W := 2) hown (hw _ (List.mem_of_getElem? (i := 29) rfl)) (hw _ (List.mem_of_getElem? (i := 30) rfl)) (hw _ (List.mem_of_getElem? (i := 13) rfl)) (hw _ (List.mem_of_getElem? (i := 31) rfl)) (by decide) (by decide) (by decide) (by decide) (by decide) e4 (g := (mkF m 16 #[.val (.ref a), .val (.long ix), .second] [(.long co), (.long (own_f3 ix pe)), (.long og)])) rfl (by rw [hml]; rfl) (argsL := [(.long (own_f3 ix pe)), (.long co)]) (rest := [(.long og)]) rfl (lenOf own_pd_1 rfl) rfl (by show 2 * 0 + _ ≤ _; exact Nat.le_of_eq rfl) (hb hby own_d5_16)
  obtain ⟨rfl, Nq5, e5⟩ := Q5
  have N5 := Fr.app N3 Nq5
  refine Go.s (fun {t} => st5) ?_
  show Go p.tables e below P (T5.setTop (mkF m 19 #[.val (.ref a), .val (.long ix), .second] [(.long (own_f6 (own_f3 ix pe) co)), (.long og)]))
  refine Go.s (fun k => XT.ladd X5.here hx rfl (hb hby own_d5_19) rfl k) ?_
  show Go p.tables e below P (T5.setTop (mkF m 20 #[.val (.ref a), .val (.long ix), .second] [(.long (og + (own_f6 (own_f3 ix pe) co)))]))
  exact Go.retJ X5 hx hlk hret (hb hby own_d5_20) (fun U hU hF => hP U _ _ (by rw [hU, e5]; exact ⟨congrArg some (congrArg Value.long (Eq.symm (by rw [own_f5]))), N5, rfl⟩) ⟨hF.1, hF.2.1, hF.2.2.mono (by decide) (by decide)⟩)
theorem own_bits (z : Int64) (h0 : 0 ≤ z.toInt) (h1 : z.toInt < 2 ^ 31) : XT.ushrL z 31 = 0 := by
  have q := Jvm.Kit.i64_lushr (x := z) (Jvm.Kit.i64_nonneg.mpr h0) (n := (31 : Int32).toInt64.toUInt64 &&& Int64.toUInt64 63) (k := 31) (by decide) (by decide)
  apply Int64.toInt_inj.mp
  have c0 : (0 : Int64).toInt = 0 := rfl
  show ((z.toUInt64 >>> ((31 : Int32).toInt64.toUInt64 &&& Int64.toUInt64 63)).toInt64).toInt = _
  rw [q, c0]; omega
theorem own_nat (z : Int64) (h0 : 0 ≤ z.toInt) : z.toInt = (z.toBitVec.toNat : Int) := by
  have e : z.toInt = z.toBitVec.toInt := rfl
  have l := z.toBitVec.isLt
  rw [e, BitVec.toInt_eq_toNat_cond] at h0 ⊢
  split at h0 <;> omega
theorem own_orb (u v : Int64) (h0 : 0 ≤ u.toInt) (h1 : u.toInt < 2 ^ 31) (g0 : 0 ≤ v.toInt) (g1 : v.toInt < 2 ^ 31) : XT.ushrL (u ||| v) 31 = 0 := by
  have a := own_nat u h0
  have b := own_nat v g0
  have c : (u ||| v).toBitVec.toNat < 2 ^ 31 := by
    rw [Int64.toBitVec_or, BitVec.toNat_or]
    exact Nat.or_lt_two_pow (by omega) (by omega)
  have d : (u ||| v).toInt = ((u ||| v).toBitVec.toNat : Int) := by
    have e : (u ||| v).toInt = (u ||| v).toBitVec.toInt := rfl
    rw [e, BitVec.toInt_eq_toNat_cond, if_pos (by omega)]
  exact own_bits _ (by omega) (by omega)
theorem own_abs (x : Int64) (h0 : -2 ^ 31 < x.toInt) (h1 : x.toInt < 2 ^ 31) : 0 ≤ (own_f4 x).toInt ∧ (own_f4 x).toInt < 2 ^ 31 := by
  have c0 : (0 : Int64).toInt = 0 := rfl
  rw [own_f4]
  split <;> rename_i q <;> rw [Int64.lt_iff_toInt_lt] at q
  · rw [Jvm.Kit.i64_neg (by omega)]; omega
  · omega
theorem own_me (x y : Int64) (h0 : -2 ^ 31 < x.toInt) (h1 : x.toInt < 2 ^ 31) (g0 : -2 ^ 31 < y.toInt) (g1 : y.toInt < 2 ^ 31) : XT.ushrL (own_f4 x ||| own_f4 y) 31 = 0 := by
  have a := own_abs x h0 h1
  have b := own_abs y g0 g1
  exact own_orb _ _ a.1 a.2 b.1 b.2
theorem own_pe (p : Int32) (v : Int64) (h : v = (p &&& 1048575).toInt64 + 1) : 1 ≤ v.toInt ∧ v.toInt ≤ 2 ^ 20 := by
  have e := Jvm.Kit.i32_mask p 1048575 (k := 20) (by decide) (by decide)
  have w := Jvm.Kit.i64_of_i32 (p &&& 1048575)
  have c1 : (1 : Int64).toInt = 1 := rfl
  rw [h, Jvm.Kit.i64_add (by omega) (by omega)]; omega
theorem own_co (p : Int32) (v : Int64) (h : v = (p &&& 524287).toInt64 + 1) : 1 ≤ v.toInt ∧ v.toInt ≤ 2 ^ 19 := by
  have e := Jvm.Kit.i32_mask p 524287 (k := 19) (by decide) (by decide)
  have w := Jvm.Kit.i64_of_i32 (p &&& 524287)
  have c1 : (1 : Int64).toInt = 1 := rfl
  rw [h, Jvm.Kit.i64_add (by omega) (by omega)]; omega
theorem own_ix (q v : Int64) (h : v = (q <<< ((40 : Int32).toInt64 &&& 63)) >>> ((40 : Int32).toInt64 &&& 63)) : -2 ^ 23 ≤ v.toInt ∧ v.toInt < 2 ^ 23 := by
  have e := Jvm.Kit.i64_shr (q <<< ((40 : Int32).toInt64 &&& 63)) ((40 : Int32).toInt64 &&& 63) (k := 40) (by decide)
  have a := (q <<< ((40 : Int32).toInt64 &&& 63)).toInt_lt
  have b := (q <<< ((40 : Int32).toInt64 &&& 63)).le_toInt
  rw [h, e]
  omega
theorem own_pre (pe co ix : Int64) (h1 : 1 ≤ pe.toInt ∧ pe.toInt ≤ 2 ^ 20) (h2 : 1 ≤ co.toInt ∧ co.toInt ≤ 2 ^ 19) (h3 : -2 ^ 23 ≤ ix.toInt ∧ ix.toInt < 2 ^ 23) : ¬ pe < 1 ∧ ¬ co < 1 ∧ XT.ushrL (own_f4 pe ||| own_f4 co) 31 = 0 ∧ XT.ushrL (own_f4 ix ||| own_f4 pe) 31 = 0 ∧ co ≠ 0 := by
  have c1 : (1 : Int64).toInt = 1 := rfl
  refine ⟨?_, ?_, own_me _ _ (by omega) (by omega) (by omega) (by omega), own_me _ _ (by omega) (by omega) (by omega) (by omega), fun q => ?_⟩
  · rw [Int64.lt_iff_toInt_lt]; omega
  · rw [Int64.lt_iff_toInt_lt]; omega
  · rw [q] at h2; exact absurd h2.1 (by decide)
theorem own_prod (A B : Int) (h1 : 1 ≤ B) (h2 : B ≤ 2 ^ 20) (h3 : -2 ^ 23 ≤ A) (h4 : A < 2 ^ 23) : -2 ^ 43 ≤ A * B ∧ A * B ≤ 2 ^ 43 := by
  have a : A * B ≤ 2 ^ 23 * B := Int.mul_le_mul_of_nonneg_right (by omega) (by omega)
  have b : (-2 ^ 23) * B ≤ A * B := Int.mul_le_mul_of_nonneg_right h3 (by omega)
  omega
theorem own_fl (N D : Int) (h : 1 ≤ D) : (N / D) * D ≤ N ∧ N < (N / D) * D + D := by
  have d := Int.emod_add_mul_ediv N D
  have m0 := Int.emod_nonneg N (show D ≠ 0 by omega)
  have m1 := Int.emod_lt_of_pos N (show 0 < D by omega)
  have c : D * (N / D) = (N / D) * D := Int.mul_comm _ _
  omega
theorem own_rng (N D : Int) (h : 1 ≤ D) (h1 : -2 ^ 43 ≤ N) (h2 : N ≤ 2 ^ 43) : -2 ^ 43 ≤ N / D ∧ N / D ≤ 2 ^ 43 := by
  have a := own_fl N D h
  constructor
  · apply Int.le_ediv_of_mul_le (by omega)
    have : (2 : Int) ^ 43 * 1 ≤ 2 ^ 43 * D := Int.mul_le_mul_of_nonneg_left h (by decide)
    omega
  · have : N / D < 2 ^ 43 + 1 := by
      apply Int.ediv_lt_of_lt_mul (by omega)
      have : ((2 : Int) ^ 43 + 1) * 1 ≤ (2 ^ 43 + 1) * D := Int.mul_le_mul_of_nonneg_left h (by decide)
      omega
    omega
theorem own_fd (x y : Int64) (h : 1 ≤ y.toInt) (h1 : -2 ^ 43 ≤ x.toInt) (h2 : x.toInt ≤ 2 ^ 43) (h3 : y.toInt ≤ 2 ^ 19) : (own_f6 x y).toInt = x.toInt / y.toInt := by
  have c0 : (0 : Int64).toInt = 0 := rfl
  have c1 : (1 : Int64).toInt = 1 := rfl
  have d : (x / y).toInt = x.toInt.tdiv y.toInt := Jvm.Kit.i64_div (by omega)
  have ng : (x ^^^ y < 0) ↔ x.toInt < 0 := by
    rw [XT.xor_neg64, XT.negI64, XT.negI64]; omega
  have fl := own_fl x.toInt y.toInt h
  have rg := own_rng x.toInt y.toInt h h1 h2
  rcases own_tdiv x.toInt y.toInt with ⟨p, q⟩ | ⟨p, q⟩
  · rw [own_f6, if_neg (fun z => by have := ng.mp z; omega), d, q]
  · have fl' := own_fl (-x.toInt) y.toInt h
    have rg' := own_rng (-x.toInt) y.toInt h (by omega) (by omega)
    have m : (x / y * y).toInt = x.toInt.tdiv y.toInt * y.toInt := by
      rw [Int64.toInt_mul, d, Jvm.Kit.bmod64]
      · rw [q, Int.neg_mul]; omega
      · rw [q, Int.neg_mul]; omega
    rw [own_f6, if_pos (ng.mpr p)]
    by_cases z : x / y * y = x
    · have z' : x.toInt.tdiv y.toInt * y.toInt = x.toInt := by rw [← m, z]
      rw [if_pos z, d]
      have e : x.toInt / y.toInt = x.toInt.tdiv y.toInt := by
        apply Int.ediv_eq_of_eq_mul_left (by omega)
        omega
      rw [e]
    · have z' : x.toInt.tdiv y.toInt * y.toInt ≠ x.toInt := fun u => z (Int64.toInt_inj.mp (by rw [m, u]))
      have s : (x / y - 1).toInt = x.toInt.tdiv y.toInt - 1 := by rw [Jvm.Kit.i64_sub (by rw [d, q, c1]; omega) (by rw [d, q, c1]; omega), d, c1]
      rw [if_neg z, s, q]
      rw [q, Int.neg_mul] at z'
      symm
      have e1 : (-(-x.toInt / y.toInt) - 1) * y.toInt = -((-x.toInt / y.toInt) * y.toInt) - y.toInt := by rw [Int.sub_mul, Int.neg_mul, Int.one_mul]
      have l1 : -(-x.toInt / y.toInt) - 1 ≤ x.toInt / y.toInt := by
        apply Int.le_ediv_of_mul_le (by omega)
        omega
      have l2 : x.toInt / y.toInt < -(-x.toInt / y.toInt) - 1 + 1 := by
        apply Int.ediv_lt_of_lt_mul (by omega)
        have e2 : (-(-x.toInt / y.toInt) - 1 + 1) * y.toInt = -((-x.toInt / y.toInt) * y.toInt) := by
          rw [show -(-x.toInt / y.toInt) - 1 + 1 = -(-x.toInt / y.toInt) from by omega, Int.neg_mul]
        omega
      omega
theorem own_d (og pe co ix d : Int64) (h : d = own_f5 ix og pe co - og) (h1 : 1 ≤ pe.toInt ∧ pe.toInt ≤ 2 ^ 20) (h2 : 1 ≤ co.toInt ∧ co.toInt ≤ 2 ^ 19) (h3 : -2 ^ 23 ≤ ix.toInt ∧ ix.toInt < 2 ^ 23) :
    ¬ d < (-8796093022208 : Int64) ∧ ¬ (8796093022208 : Int64) < d ∧ ¬ ix * pe < d * co ∧ ix * pe < d * co + co := by
  have a := own_prod ix.toInt pe.toInt h1.1 h1.2 h3.1 h3.2
  have p : (ix * pe).toInt = ix.toInt * pe.toInt := Jvm.Kit.i64_mul (by omega) (by omega)
  have e : d = own_f6 (ix * pe) co := by
    rw [h, own_f5, own_f3]
    apply Int64.toInt_inj.mp
    rw [Int64.toInt_sub, Int64.toInt_add, Int.bmod_sub_bmod]
    have := (own_f6 (ix * pe) co).toInt_lt; have := (own_f6 (ix * pe) co).le_toInt
    rw [show og.toInt + (own_f6 (ix * pe) co).toInt - og.toInt = (own_f6 (ix * pe) co).toInt from by omega]
    exact Jvm.Kit.bmod64 (by omega) (by omega)
  have f := own_fd (ix * pe) co h2.1 (by omega) (by omega) h2.2
  rw [← e, p] at f
  have fl := own_fl (ix.toInt * pe.toInt) co.toInt h2.1
  have rg := own_rng (ix.toInt * pe.toInt) co.toInt h2.1 (by omega) (by omega)
  rw [← f] at fl rg
  have m : (d * co).toInt = d.toInt * co.toInt := Jvm.Kit.i64_mul (by omega) (by omega)
  have s : (d * co + co).toInt = d.toInt * co.toInt + co.toInt := by rw [Jvm.Kit.i64_add (by omega) (by omega), m]
  have k1 : (-8796093022208 : Int64).toInt = -8796093022208 := rfl
  have k2 : (8796093022208 : Int64).toInt = 8796093022208 := rfl
  simp only [Int64.lt_iff_toInt_lt, p, m, s, k1, k2]
  omega
theorem own_ef0 (m : MethodId) (q0 : Int64) (q1 : Int64) (p2 : Int32) (p3 : Int32) : entryFrame m #[(.long q0), (.long q1), (.int p2), (.int p3)] maxLocals = mkF m 0 #[.val (.long q0), .second, .val (.long q1), .second, .val (.int p2), .val (.int p3), .unset, .unset, .unset, .unset, .unset, .unset, .unset, .unset, .unset, .unset, .unset, .unset, .unset] [] := by
  (first | (simp [entryFrame, mkF, argsToLocals, Value.category, maxLocals]; done) | rfl)
theorem own_pn_1 : plainName "com/example/tempo_feed/tempofeed/core/EvenlySpacedPollsPollPinLaw" = true := by first | (simp [plainName, overriddenIn]; done) | decide +kernel
theorem own_pd_2 : parseMethodDescriptor "(JJJ)V" = some ⟨[.long, .long, .long], none⟩ := by decide +kernel
set_option maxRecDepth 65536 in
set_option maxHeartbeats 40000000 in
theorem own_rm0 (l : Launch) (Z : State) (a0 : Array Value) (hw : ∀ d ∈ tables_1, d.before a0 Z = true) (ws : List Jvm.Cond) (q0 : Int64) (q1 : Int64) (p2 : Int32) (p3 : Int32) (h0 : Heap) (n0 : Nat) (Z0 : n0 ≤ h0.size)  :
    Con l Z x code maxLocals ret ws room_1 #[(.long q0), (.long q1), (.int p2), (.int p3)] h0 (fun v h L => v = some (.int 1) ∧ Fr n0 L) := by
  refine Con.intro (plainFor_of_name own_pn_1) ?_
  intro p e s m below meth c s₁ P hx hby hml hown hnm hret hlk hZ X0 e0 hP
  have N0 := Fr.nil n0
  have hml : c.maxLocals = 19 := hml
  have hown : s.vm.findClass "com/example/tempo_feed/tempofeed/core/EvenlySpacedPollsPollPinLaw" = some m.cls := hown
  have hret : meth.sig.returnType = some .boolean := hret
  refine Go.cast (own_ef0 m q0 q1 p2 p3) ?_
  show Go p.tables e below P (s₁.setTop (mkF m 0 #[.val (.long q0), .second, .val (.long q1), .second, .val (.int p2), .val (.int p3), .unset, .unset, .unset, .unset, .unset, .unset, .unset, .unset, .unset, .unset, .unset, .unset, .unset] []))
  refine Go.s (fun k => XS.iload X0.here hx rfl (hb hby at_0) rfl k) ?_
  show Go p.tables e below P (s₁.setTop (mkF m 2 #[.val (.long q0), .second, .val (.long q1), .second, .val (.int p2), .val (.int p3), .unset, .unset, .unset, .unset, .unset, .unset, .unset, .unset, .unset, .unset, .unset, .unset, .unset] [(.int p2)]))
  refine Go.s (fun k => X0.ldcI hx hown (mvT hZ (hw _ (List.mem_of_getElem? (i := 0) rfl))) rfl (hb hby at_2) k) ?_
  show Go p.tables e below P (s₁.setTop (mkF m 4 #[.val (.long q0), .second, .val (.long q1), .second, .val (.int p2), .val (.int p3), .unset, .unset, .unset, .unset, .unset, .unset, .unset, .unset, .unset, .unset, .unset, .unset, .unset] [(.int (1048575 : Int32)), (.int p2)]))
  refine Go.s (fun k => XS.iand X0.here hx rfl (hb hby at_4) rfl k) ?_
  show Go p.tables e below P (s₁.setTop (mkF m 5 #[.val (.long q0), .second, .val (.long q1), .second, .val (.int p2), .val (.int p3), .unset, .unset, .unset, .unset, .unset, .unset, .unset, .unset, .unset, .unset, .unset, .unset, .unset] [(.int (p2 &&& (1048575 : Int32)))]))
  refine Go.s (fun k => XT.i2l X0.here hx rfl (hb hby at_5) rfl k) ?_
  show Go p.tables e below P (s₁.setTop (mkF m 6 #[.val (.long q0), .second, .val (.long q1), .second, .val (.int p2), .val (.int p3), .unset, .unset, .unset, .unset, .unset, .unset, .unset, .unset, .unset, .unset, .unset, .unset, .unset] [(.long (p2 &&& (1048575 : Int32)).toInt64)]))
  refine Go.s (fun k => XT.lconst X0.here hx rfl (hb hby at_6) k) ?_
  show Go p.tables e below P (s₁.setTop (mkF m 7 #[.val (.long q0), .second, .val (.long q1), .second, .val (.int p2), .val (.int p3), .unset, .unset, .unset, .unset, .unset, .unset, .unset, .unset, .unset, .unset, .unset, .unset, .unset] [(.long (1 : Int64)), (.long (p2 &&& (1048575 : Int32)).toInt64)]))
  refine Go.s (fun k => XT.ladd X0.here hx rfl (hb hby at_7) rfl k) ?_
  show Go p.tables e below P (s₁.setTop (mkF m 8 #[.val (.long q0), .second, .val (.long q1), .second, .val (.int p2), .val (.int p3), .unset, .unset, .unset, .unset, .unset, .unset, .unset, .unset, .unset, .unset, .unset, .unset, .unset] [(.long ((p2 &&& (1048575 : Int32)).toInt64 + (1 : Int64)))]))
  refine Go.s (fun k => XT.lstore X0.here hx rfl (hb hby at_8) rfl (l' := #[.val (.long q0), .second, .val (.long q1), .second, .val (.int p2), .val (.int p3), .val (.long ((p2 &&& (1048575 : Int32)).toInt64 + (1 : Int64))), .second, .unset, .unset, .unset, .unset, .unset, .unset, .unset, .unset, .unset, .unset, .unset]) rfl k) ?_
  show Go p.tables e below P (s₁.setTop (mkF m 10 #[.val (.long q0), .second, .val (.long q1), .second, .val (.int p2), .val (.int p3), .val (.long ((p2 &&& (1048575 : Int32)).toInt64 + (1 : Int64))), .second, .unset, .unset, .unset, .unset, .unset, .unset, .unset, .unset, .unset, .unset, .unset] []))
  refine (?_ : ∀ pe : Int64, pe = ((p2 &&& (1048575 : Int32)).toInt64 + (1 : Int64)) → Go p.tables e below P (s₁.setTop (mkF m 10 #[.val (.long q0), .second, .val (.long q1), .second, .val (.int p2), .val (.int p3), .val (.long pe), .second, .unset, .unset, .unset, .unset, .unset, .unset, .unset, .unset, .unset, .unset, .unset] []))) _ rfl
  intro pe hpe
  have h1 := own_pe p2 pe hpe
  refine Go.s (fun k => XS.iload X0.here hx rfl (hb hby at_10) rfl k) ?_
  show Go p.tables e below P (s₁.setTop (mkF m 12 #[.val (.long q0), .second, .val (.long q1), .second, .val (.int p2), .val (.int p3), .val (.long pe), .second, .unset, .unset, .unset, .unset, .unset, .unset, .unset, .unset, .unset, .unset, .unset] [(.int p3)]))
  refine Go.s (fun k => X0.ldcI hx hown (mvT hZ (hw _ (List.mem_of_getElem? (i := 1) rfl))) rfl (hb hby at_12) k) ?_
  show Go p.tables e below P (s₁.setTop (mkF m 14 #[.val (.long q0), .second, .val (.long q1), .second, .val (.int p2), .val (.int p3), .val (.long pe), .second, .unset, .unset, .unset, .unset, .unset, .unset, .unset, .unset, .unset, .unset, .unset] [(.int (524287 : Int32)), (.int p3)]))
  refine Go.s (fun k => XS.iand X0.here hx rfl (hb hby at_14) rfl k) ?_
  show Go p.tables e below P (s₁.setTop (mkF m 15 #[.val (.long q0), .second, .val (.long q1), .second, .val (.int p2), .val (.int p3), .val (.long pe), .second, .unset, .unset, .unset, .unset, .unset, .unset, .unset, .unset, .unset, .unset, .unset] [(.int (p3 &&& (524287 : Int32)))]))
  refine Go.s (fun k => XT.i2l X0.here hx rfl (hb hby at_15) rfl k) ?_
  show Go p.tables e below P (s₁.setTop (mkF m 16 #[.val (.long q0), .second, .val (.long q1), .second, .val (.int p2), .val (.int p3), .val (.long pe), .second, .unset, .unset, .unset, .unset, .unset, .unset, .unset, .unset, .unset, .unset, .unset] [(.long (p3 &&& (524287 : Int32)).toInt64)]))
  refine Go.s (fun k => XT.lconst X0.here hx rfl (hb hby at_16) k) ?_
  show Go p.tables e below P (s₁.setTop (mkF m 17 #[.val (.long q0), .second, .val (.long q1), .second, .val (.int p2), .val (.int p3), .val (.long pe), .second, .unset, .unset, .unset, .unset, .unset, .unset, .unset, .unset, .unset, .unset, .unset] [(.long (1 : Int64)), (.long (p3 &&& (524287 : Int32)).toInt64)]))
  refine Go.s (fun k => XT.ladd X0.here hx rfl (hb hby at_17) rfl k) ?_
  show Go p.tables e below P (s₁.setTop (mkF m 18 #[.val (.long q0), .second, .val (.long q1), .second, .val (.int p2), .val (.int p3), .val (.long pe), .second, .unset, .unset, .unset, .unset, .unset, .unset, .unset, .unset, .unset, .unset, .unset] [(.long ((p3 &&& (524287 : Int32)).toInt64 + (1 : Int64)))]))
  refine Go.s (fun k => XT.lstore X0.here hx rfl (hb hby at_18) rfl (l' := #[.val (.long q0), .second, .val (.long q1), .second, .val (.int p2), .val (.int p3), .val (.long pe), .second, .val (.long ((p3 &&& (524287 : Int32)).toInt64 + (1 : Int64))), .second, .unset, .unset, .unset, .unset, .unset, .unset, .unset, .unset, .unset]) rfl k) ?_
  show Go p.tables e below P (s₁.setTop (mkF m 20 #[.val (.long q0), .second, .val (.long q1), .second, .val (.int p2), .val (.int p3), .val (.long pe), .second, .val (.long ((p3 &&& (524287 : Int32)).toInt64 + (1 : Int64))), .second, .unset, .unset, .unset, .unset, .unset, .unset, .unset, .unset, .unset] []))
  refine (?_ : ∀ co : Int64, co = ((p3 &&& (524287 : Int32)).toInt64 + (1 : Int64)) → Go p.tables e below P (s₁.setTop (mkF m 20 #[.val (.long q0), .second, .val (.long q1), .second, .val (.int p2), .val (.int p3), .val (.long pe), .second, .val (.long co), .second, .unset, .unset, .unset, .unset, .unset, .unset, .unset, .unset, .unset] []))) _ rfl
  intro co hcox
  have h2 := own_co p3 co hcox
  refine Go.s (fun k => XT.lloadN X0.here hx rfl (hb hby at_20) rfl k) ?_
  show Go p.tables e below P (s₁.setTop (mkF m 21 #[.val (.long q0), .second, .val (.long q1), .second, .val (.int p2), .val (.int p3), .val (.long pe), .second, .val (.long co), .second, .unset, .unset, .unset, .unset, .unset, .unset, .unset, .unset, .unset] [(.long q1)]))
  refine Go.s (fun k => XS.bipush X0.here hx rfl (hb hby at_21) k) ?_
  show Go p.tables e below P (s₁.setTop (mkF m 23 #[.val (.long q0), .second, .val (.long q1), .second, .val (.int p2), .val (.int p3), .val (.long pe), .second, .val (.long co), .second, .unset, .unset, .unset, .unset, .unset, .unset, .unset, .unset, .unset] [(.int (40 : Int32)), (.long q1)]))
  refine Go.s (fun k => XT.lshl X0.here hx rfl (hb hby at_23) rfl k) ?_
  show Go p.tables e below P (s₁.setTop (mkF m 24 #[.val (.long q0), .second, .val (.long q1), .second, .val (.int p2), .val (.int p3), .val (.long pe), .second, .val (.long co), .second, .unset, .unset, .unset, .unset, .unset, .unset, .unset, .unset, .unset] [(.long (q1 <<< ((40 : Int32).toInt64 &&& 63)))]))
  refine Go.s (fun k => XS.bipush X0.here hx rfl (hb hby at_24) k) ?_
  show Go p.tables e below P (s₁.setTop (mkF m 26 #[.val (.long q0), .second, .val (.long q1), .second, .val (.int p2), .val (.int p3), .val (.long pe), .second, .val (.long co), .second, .unset, .unset, .unset, .unset, .unset, .unset, .unset, .unset, .unset] [(.int (40 : Int32)), (.long (q1 <<< ((40 : Int32).toInt64 &&& 63)))]))
  refine Go.s (fun k => XT.lshr X0.here hx rfl (hb hby at_26) rfl k) ?_
  show Go p.tables e below P (s₁.setTop (mkF m 27 #[.val (.long q0), .second, .val (.long q1), .second, .val (.int p2), .val (.int p3), .val (.long pe), .second, .val (.long co), .second, .unset, .unset, .unset, .unset, .unset, .unset, .unset, .unset, .unset] [(.long ((q1 <<< ((40 : Int32).toInt64 &&& 63)) >>> ((40 : Int32).toInt64 &&& 63)))]))
  refine Go.s (fun k => XT.lstore X0.here hx rfl (hb hby at_27) rfl (l' := #[.val (.long q0), .second, .val (.long q1), .second, .val (.int p2), .val (.int p3), .val (.long pe), .second, .val (.long co), .second, .val (.long ((q1 <<< ((40 : Int32).toInt64 &&& 63)) >>> ((40 : Int32).toInt64 &&& 63))), .second, .unset, .unset, .unset, .unset, .unset, .unset, .unset]) rfl k) ?_
  show Go p.tables e below P (s₁.setTop (mkF m 29 #[.val (.long q0), .second, .val (.long q1), .second, .val (.int p2), .val (.int p3), .val (.long pe), .second, .val (.long co), .second, .val (.long ((q1 <<< ((40 : Int32).toInt64 &&& 63)) >>> ((40 : Int32).toInt64 &&& 63))), .second, .unset, .unset, .unset, .unset, .unset, .unset, .unset] []))
  refine (?_ : ∀ ix : Int64, ix = ((q1 <<< ((40 : Int32).toInt64 &&& 63)) >>> ((40 : Int32).toInt64 &&& 63)) → Go p.tables e below P (s₁.setTop (mkF m 29 #[.val (.long q0), .second, .val (.long q1), .second, .val (.int p2), .val (.int p3), .val (.long pe), .second, .val (.long co), .second, .val (.long ix), .second, .unset, .unset, .unset, .unset, .unset, .unset, .unset] []))) _ rfl
  intro ix hix
  have h3 := own_ix q1 ix hix
  obtain ⟨hp1, hp2, hz_pe, hz_ix, hco⟩ := own_pre pe co ix h1 h2 h3
  obtain ⟨T1, H1, X1, e1, E1, A1, D1, U1, st1⟩ := newO X0 hx hZ hown (hw _ (List.mem_of_getElem? (i := 2) rfl)) (hw _ (List.mem_of_getElem? (i := 3) rfl)) (hw _ (List.mem_of_getElem? (i := 4) rfl)) e0 (g := (mkF m 29 #[.val (.long q0), .second, .val (.long q1), .second, .val (.int p2), .val (.int p3), .val (.long pe), .second, .val (.long co), .second, .val (.long ix), .second, .unset, .unset, .unset, .unset, .unset, .unset, .unset] [])) rfl (hb hby at_29) (by decide) (by decide)
  refine Go.s (fun {t} => st1 t) ?_
  obtain ⟨b1, g1⟩ : ∃ z, z = h0.size := ⟨_, rfl⟩
  rw [← g1] at A1 D1 U1
  rw [← g1]
  have G_b1 : n0 ≤ b1 := Nat.le_trans Z0 (Nat.le_of_eq g1.symm)
  have Zs1 := Nat.le_trans Z0 E1.1
  have Kn1 := Kn.of_new U1
  show Go p.tables e below P (T1.setTop (mkF m 32 #[.val (.long q0), .second, .val (.long q1), .second, .val (.int p2), .val (.int p3), .val (.long pe), .second, .val (.long co), .second, .val (.long ix), .second, .unset, .unset, .unset, .unset, .unset, .unset, .unset] [(.ref b1)]))
  refine Go.s (fun k => XS.dup X1.here hx rfl (hb hby at_32) rfl rfl k) ?_
  show Go p.tables e below P (T1.setTop (mkF m 33 #[.val (.long q0), .second, .val (.long q1), .second, .val (.int p2), .val (.int p3), .val (.long pe), .second, .val (.long co), .second, .val (.long ix), .second, .unset, .unset, .unset, .unset, .unset, .unset, .unset] [(.ref b1), (.ref b1)]))
  refine Go.s (fun k => XT.lloadN X1.here hx rfl (hb hby at_33) rfl k) ?_
  show Go p.tables e below P (T1.setTop (mkF m 34 #[.val (.long q0), .second, .val (.long q1), .second, .val (.int p2), .val (.int p3), .val (.long pe), .second, .val (.long co), .second, .val (.long ix), .second, .unset, .unset, .unset, .unset, .unset, .unset, .unset] [(.long q0), (.ref b1), (.ref b1)]))
  refine Go.s (fun k => XT.lload X1.here hx rfl (hb hby at_34) rfl k) ?_
  show Go p.tables e below P (T1.setTop (mkF m 36 #[.val (.long q0), .second, .val (.long q1), .second, .val (.int p2), .val (.int p3), .val (.long pe), .second, .val (.long co), .second, .val (.long ix), .second, .unset, .unset, .unset, .unset, .unset, .unset, .unset] [(.long pe), (.long q0), (.ref b1), (.ref b1)]))
  refine Go.s (fun k => XT.lload X1.here hx rfl (hb hby at_36) rfl k) ?_
  show Go p.tables e below P (T1.setTop (mkF m 38 #[.val (.long q0), .second, .val (.long q1), .second, .val (.int p2), .val (.int p3), .val (.long pe), .second, .val (.long co), .second, .val (.long ix), .second, .unset, .unset, .unset, .unset, .unset, .unset, .unset] [(.long co), (.long pe), (.long q0), (.ref b1), (.ref b1)]))
  obtain ⟨v2, T2, L2, X2, Q2, st2⟩ := ConH.special (own_rm1 l Z a0 hw [] b1 q0 pe co H1 n0 Zs1 A1 Kn1 G_b1  hp1 hp2 hz_pe) rfl X1 hx hZ (W := 1) hown (hw _ (List.mem_of_getElem? (i := 5) rfl)) (hw _ (List.mem_of_getElem? (i := 6) rfl)) (hw _ (List.mem_of_getElem? (i := 4) rfl)) (hw _ (List.mem_of_getElem? (i := 7) rfl)) (by decide) (by decide) (by decide) (by decide) (by decide) e1 (g := (mkF m 38 #[.val (.long q0), .second, .val (.long q1), .second, .val (.int p2), .val (.int p3), .val (.long pe), .second, .val (.long co), .second, .val (.long ix), .second, .unset, .unset, .unset, .unset, .unset, .unset, .unset] [(.long co), (.long pe), (.long q0), (.ref b1), (.ref b1)])) rfl (by rw [hml]; rfl) (argsL := [(.long q0), (.long pe), (.long co)]) (rest := [(.ref b1)]) rfl (lenOf own_pd_2 rfl) rfl (by show 2 * 0 + _ ≤ _; exact Nat.le_of_eq rfl) (hb hby at_38)
  obtain ⟨H2, e2⟩ : ∃ z, T2.heap = z := ⟨_, rfl⟩
  rw [e2] at Q2
  obtain ⟨rfl, Nq2, Kq2, Fq2_count, Fq2_originEpochSecond, Fq2_periodSeconds⟩ := Q2
  have N2 := Fr.app N0 Nq2
  have Zs2 := Nat.le_trans Zs1 Kq2.1
  have A1_3 := Exa.keep A1 Kq2
  have Kn1_4 := Kn.keep Kn1 Kq2
  refine Go.s (fun {t} => st2) ?_
  show Go p.tables e below P (T2.setTop (mkF m 41 #[.val (.long q0), .second, .val (.long q1), .second, .val (.int p2), .val (.int p3), .val (.long pe), .second, .val (.long co), .second, .val (.long ix), .second, .unset, .unset, .unset, .unset, .unset, .unset, .unset] [(.ref b1)]))
  refine Go.s (fun k => XS.astore X2.here hx rfl (hb hby at_41) rfl rfl (l' := #[.val (.long q0), .second, .val (.long q1), .second, .val (.int p2), .val (.int p3), .val (.long pe), .second, .val (.long co), .second, .val (.long ix), .second, .val (.ref b1), .unset, .unset, .unset, .unset, .unset, .unset]) rfl k) ?_
  show Go p.tables e below P (T2.setTop (mkF m 43 #[.val (.long q0), .second, .val (.long q1), .second, .val (.int p2), .val (.int p3), .val (.long pe), .second, .val (.long co), .second, .val (.long ix), .second, .val (.ref b1), .unset, .unset, .unset, .unset, .unset, .unset] []))
  refine Go.s (fun k => XS.aload X2.here hx rfl (hb hby at_43) rfl rfl k) ?_
  show Go p.tables e below P (T2.setTop (mkF m 45 #[.val (.long q0), .second, .val (.long q1), .second, .val (.int p2), .val (.int p3), .val (.long pe), .second, .val (.long co), .second, .val (.long ix), .second, .val (.ref b1), .unset, .unset, .unset, .unset, .unset, .unset] [(.ref b1)]))
  refine Go.s (fun k => XT.lload X2.here hx rfl (hb hby at_45) rfl k) ?_
  show Go p.tables e below P (T2.setTop (mkF m 47 #[.val (.long q0), .second, .val (.long q1), .second, .val (.int p2), .val (.int p3), .val (.long pe), .second, .val (.long co), .second, .val (.long ix), .second, .val (.ref b1), .unset, .unset, .unset, .unset, .unset, .unset] [(.long ix), (.ref b1)]))
  obtain ⟨v5, T5, L5, X5, Q5, st5⟩ := Con.virtual (own_rm5 l Z a0 hw [] b1 ix q0 pe co H2 n0 Zs2 Fq2_originEpochSecond Fq2_periodSeconds Fq2_count hz_ix hco) X2 hx hZ (W := 0) hown (hw _ (List.mem_of_getElem? (i := 24) rfl)) (hw _ (List.mem_of_getElem? (i := 25) rfl)) (hw _ (List.mem_of_getElem? (i := 27) rfl)) (hw _ (List.mem_of_getElem? (i := 26) rfl)) (hw _ (List.mem_of_getElem? (i := 4) rfl)) (hw _ (List.mem_of_getElem? (i := 28) rfl)) (by decide) (by decide) (by decide) (by decide) (by decide) e2 (g := (mkF m 47 #[.val (.long q0), .second, .val (.long q1), .second, .val (.int p2), .val (.int p3), .val (.long pe), .second, .val (.long co), .second, .val (.long ix), .second, .val (.ref b1), .unset, .unset, .unset, .unset, .unset, .unset] [(.long ix), (.ref b1)])) rfl (by rw [hml]; rfl) A1_3 (argsL := [(.long ix)]) (rest := []) rfl (lenOf own_pd_0 rfl) rfl (by show 2 * 0 + _ ≤ _; exact Nat.le_of_eq rfl) (hb hby at_47)
  obtain ⟨rfl, Nq5, e5⟩ := Q5
  have N5 := Fr.app N2 Nq5
  refine Go.s (fun {t} => st5) ?_
  show Go p.tables e below P (T5.setTop (mkF m 50 #[.val (.long q0), .second, .val (.long q1), .second, .val (.int p2), .val (.int p3), .val (.long pe), .second, .val (.long co), .second, .val (.long ix), .second, .val (.ref b1), .unset, .unset, .unset, .unset, .unset, .unset] [(.long (own_f5 ix q0 pe co))]))
  refine Go.s (fun k => XT.lloadN X5.here hx rfl (hb hby at_50) rfl k) ?_
  show Go p.tables e below P (T5.setTop (mkF m 51 #[.val (.long q0), .second, .val (.long q1), .second, .val (.int p2), .val (.int p3), .val (.long pe), .second, .val (.long co), .second, .val (.long ix), .second, .val (.ref b1), .unset, .unset, .unset, .unset, .unset, .unset] [(.long q0), (.long (own_f5 ix q0 pe co))]))
  refine Go.s (fun k => XT.lsub X5.here hx rfl (hb hby at_51) rfl k) ?_
  show Go p.tables e below P (T5.setTop (mkF m 52 #[.val (.long q0), .second, .val (.long q1), .second, .val (.int p2), .val (.int p3), .val (.long pe), .second, .val (.long co), .second, .val (.long ix), .second, .val (.ref b1), .unset, .unset, .unset, .unset, .unset, .unset] [(.long ((own_f5 ix q0 pe co) - q0))]))
  refine Go.s (fun k => XT.lstore X5.here hx rfl (hb hby at_52) rfl (l' := #[.val (.long q0), .second, .val (.long q1), .second, .val (.int p2), .val (.int p3), .val (.long pe), .second, .val (.long co), .second, .val (.long ix), .second, .val (.ref b1), .val (.long ((own_f5 ix q0 pe co) - q0)), .second, .unset, .unset, .unset, .unset]) rfl k) ?_
  show Go p.tables e below P (T5.setTop (mkF m 54 #[.val (.long q0), .second, .val (.long q1), .second, .val (.int p2), .val (.int p3), .val (.long pe), .second, .val (.long co), .second, .val (.long ix), .second, .val (.ref b1), .val (.long ((own_f5 ix q0 pe co) - q0)), .second, .unset, .unset, .unset, .unset] []))
  refine (?_ : ∀ dv : Int64, dv = ((own_f5 ix q0 pe co) - q0) → Go p.tables e below P (T5.setTop (mkF m 54 #[.val (.long q0), .second, .val (.long q1), .second, .val (.int p2), .val (.int p3), .val (.long pe), .second, .val (.long co), .second, .val (.long ix), .second, .val (.ref b1), .val (.long dv), .second, .unset, .unset, .unset, .unset] []))) _ rfl
  intro dv hdv
  obtain ⟨k1, k2, k3, k4⟩ := own_d q0 pe co ix dv hdv h1 h2 h3
  refine Go.s (fun k => XT.lload X5.here hx rfl (hb hby at_54) rfl k) ?_
  show Go p.tables e below P (T5.setTop (mkF m 56 #[.val (.long q0), .second, .val (.long q1), .second, .val (.int p2), .val (.int p3), .val (.long pe), .second, .val (.long co), .second, .val (.long ix), .second, .val (.ref b1), .val (.long dv), .second, .unset, .unset, .unset, .unset] [(.long ix)]))
  refine Go.s (fun k => XT.lload X5.here hx rfl (hb hby at_56) rfl k) ?_
  show Go p.tables e below P (T5.setTop (mkF m 58 #[.val (.long q0), .second, .val (.long q1), .second, .val (.int p2), .val (.int p3), .val (.long pe), .second, .val (.long co), .second, .val (.long ix), .second, .val (.ref b1), .val (.long dv), .second, .unset, .unset, .unset, .unset] [(.long pe), (.long ix)]))
  refine Go.s (fun k => XT.lmul X5.here hx rfl (hb hby at_58) rfl k) ?_
  show Go p.tables e below P (T5.setTop (mkF m 59 #[.val (.long q0), .second, .val (.long q1), .second, .val (.int p2), .val (.int p3), .val (.long pe), .second, .val (.long co), .second, .val (.long ix), .second, .val (.ref b1), .val (.long dv), .second, .unset, .unset, .unset, .unset] [(.long (ix * pe))]))
  refine Go.s (fun k => XT.lstore X5.here hx rfl (hb hby at_59) rfl (l' := #[.val (.long q0), .second, .val (.long q1), .second, .val (.int p2), .val (.int p3), .val (.long pe), .second, .val (.long co), .second, .val (.long ix), .second, .val (.ref b1), .val (.long dv), .second, .val (.long (ix * pe)), .second, .unset, .unset]) rfl k) ?_
  show Go p.tables e below P (T5.setTop (mkF m 61 #[.val (.long q0), .second, .val (.long q1), .second, .val (.int p2), .val (.int p3), .val (.long pe), .second, .val (.long co), .second, .val (.long ix), .second, .val (.ref b1), .val (.long dv), .second, .val (.long (ix * pe)), .second, .unset, .unset] []))
  refine Go.s (fun k => XT.lload X5.here hx rfl (hb hby at_61) rfl k) ?_
  show Go p.tables e below P (T5.setTop (mkF m 63 #[.val (.long q0), .second, .val (.long q1), .second, .val (.int p2), .val (.int p3), .val (.long pe), .second, .val (.long co), .second, .val (.long ix), .second, .val (.ref b1), .val (.long dv), .second, .val (.long (ix * pe)), .second, .unset, .unset] [(.long dv)]))
  refine Go.s (fun k => X5.ldc2J hx hown (mvT hZ (hw _ (List.mem_of_getElem? (i := 32) rfl))) rfl (hb hby at_63) k) ?_
  show Go p.tables e below P (T5.setTop (mkF m 66 #[.val (.long q0), .second, .val (.long q1), .second, .val (.int p2), .val (.int p3), .val (.long pe), .second, .val (.long co), .second, .val (.long ix), .second, .val (.ref b1), .val (.long dv), .second, .val (.long (ix * pe)), .second, .unset, .unset] [(.long (-8796093022208 : Int64)), (.long dv)]))
  refine Go.s (fun k => XT.lcmp X5.here hx rfl (hb hby at_66) rfl k) ?_
  show Go p.tables e below P (T5.setTop (mkF m 67 #[.val (.long q0), .second, .val (.long q1), .second, .val (.int p2), .val (.int p3), .val (.long pe), .second, .val (.long co), .second, .val (.long ix), .second, .val (.ref b1), .val (.long dv), .second, .val (.long (ix * pe)), .second, .unset, .unset] [(.int (XT.cmpL dv (-8796093022208 : Int64)))]))
  refine Go.s (fun k => XS.ifNo X5.here hx rfl (hb hby at_67) rfl (XT.ll_lt_f k1) k) ?_
  show Go p.tables e below P (T5.setTop (mkF m 70 #[.val (.long q0), .second, .val (.long q1), .second, .val (.int p2), .val (.int p3), .val (.long pe), .second, .val (.long co), .second, .val (.long ix), .second, .val (.ref b1), .val (.long dv), .second, .val (.long (ix * pe)), .second, .unset, .unset] []))
  refine Go.s (fun k => XT.lload X5.here hx rfl (hb hby at_70) rfl k) ?_
  show Go p.tables e below P (T5.setTop (mkF m 72 #[.val (.long q0), .second, .val (.long q1), .second, .val (.int p2), .val (.int p3), .val (.long pe), .second, .val (.long co), .second, .val (.long ix), .second, .val (.ref b1), .val (.long dv), .second, .val (.long (ix * pe)), .second, .unset, .unset] [(.long dv)]))
  refine Go.s (fun k => X5.ldc2J hx hown (mvT hZ (hw _ (List.mem_of_getElem? (i := 33) rfl))) rfl (hb hby at_72) k) ?_
  show Go p.tables e below P (T5.setTop (mkF m 75 #[.val (.long q0), .second, .val (.long q1), .second, .val (.int p2), .val (.int p3), .val (.long pe), .second, .val (.long co), .second, .val (.long ix), .second, .val (.ref b1), .val (.long dv), .second, .val (.long (ix * pe)), .second, .unset, .unset] [(.long (8796093022208 : Int64)), (.long dv)]))
  refine Go.s (fun k => XT.lcmp X5.here hx rfl (hb hby at_75) rfl k) ?_
  show Go p.tables e below P (T5.setTop (mkF m 76 #[.val (.long q0), .second, .val (.long q1), .second, .val (.int p2), .val (.int p3), .val (.long pe), .second, .val (.long co), .second, .val (.long ix), .second, .val (.ref b1), .val (.long dv), .second, .val (.long (ix * pe)), .second, .unset, .unset] [(.int (XT.cmpL dv (8796093022208 : Int64)))]))
  refine Go.s (fun k => XS.ifYes X5.here hx rfl (pc0 := 76) (pc' := 81) rfl (hb hby at_76) rfl (XT.ll_le_t k2) (by decide) (by decide) k) ?_
  show Go p.tables e below P (T5.setTop (mkF m 81 #[.val (.long q0), .second, .val (.long q1), .second, .val (.int p2), .val (.int p3), .val (.long pe), .second, .val (.long co), .second, .val (.long ix), .second, .val (.ref b1), .val (.long dv), .second, .val (.long (ix * pe)), .second, .unset, .unset] []))
  refine Go.s (fun k => XT.lload X5.here hx rfl (hb hby at_81) rfl k) ?_
  show Go p.tables e below P (T5.setTop (mkF m 83 #[.val (.long q0), .second, .val (.long q1), .second, .val (.int p2), .val (.int p3), .val (.long pe), .second, .val (.long co), .second, .val (.long ix), .second, .val (.ref b1), .val (.long dv), .second, .val (.long (ix * pe)), .second, .unset, .unset] [(.long dv)]))
  refine Go.s (fun k => XT.lload X5.here hx rfl (hb hby at_83) rfl k) ?_
  show Go p.tables e below P (T5.setTop (mkF m 85 #[.val (.long q0), .second, .val (.long q1), .second, .val (.int p2), .val (.int p3), .val (.long pe), .second, .val (.long co), .second, .val (.long ix), .second, .val (.ref b1), .val (.long dv), .second, .val (.long (ix * pe)), .second, .unset, .unset] [(.long co), (.long dv)]))
  refine Go.s (fun k => XT.lmul X5.here hx rfl (hb hby at_85) rfl k) ?_
  show Go p.tables e below P (T5.setTop (mkF m 86 #[.val (.long q0), .second, .val (.long q1), .second, .val (.int p2), .val (.int p3), .val (.long pe), .second, .val (.long co), .second, .val (.long ix), .second, .val (.ref b1), .val (.long dv), .second, .val (.long (ix * pe)), .second, .unset, .unset] [(.long (dv * co))]))
  refine Go.s (fun k => XT.lstore X5.here hx rfl (hb hby at_86) rfl (l' := #[.val (.long q0), .second, .val (.long q1), .second, .val (.int p2), .val (.int p3), .val (.long pe), .second, .val (.long co), .second, .val (.long ix), .second, .val (.ref b1), .val (.long dv), .second, .val (.long (ix * pe)), .second, .val (.long (dv * co)), .second]) rfl k) ?_
  show Go p.tables e below P (T5.setTop (mkF m 88 #[.val (.long q0), .second, .val (.long q1), .second, .val (.int p2), .val (.int p3), .val (.long pe), .second, .val (.long co), .second, .val (.long ix), .second, .val (.ref b1), .val (.long dv), .second, .val (.long (ix * pe)), .second, .val (.long (dv * co)), .second] []))
  refine Go.s (fun k => XT.lload X5.here hx rfl (hb hby at_88) rfl k) ?_
  show Go p.tables e below P (T5.setTop (mkF m 90 #[.val (.long q0), .second, .val (.long q1), .second, .val (.int p2), .val (.int p3), .val (.long pe), .second, .val (.long co), .second, .val (.long ix), .second, .val (.ref b1), .val (.long dv), .second, .val (.long (ix * pe)), .second, .val (.long (dv * co)), .second] [(.long (dv * co))]))
  refine Go.s (fun k => XT.lload X5.here hx rfl (hb hby at_90) rfl k) ?_
  show Go p.tables e below P (T5.setTop (mkF m 92 #[.val (.long q0), .second, .val (.long q1), .second, .val (.int p2), .val (.int p3), .val (.long pe), .second, .val (.long co), .second, .val (.long ix), .second, .val (.ref b1), .val (.long dv), .second, .val (.long (ix * pe)), .second, .val (.long (dv * co)), .second] [(.long (ix * pe)), (.long (dv * co))]))
  refine Go.s (fun k => XT.lcmp X5.here hx rfl (hb hby at_92) rfl k) ?_
  show Go p.tables e below P (T5.setTop (mkF m 93 #[.val (.long q0), .second, .val (.long q1), .second, .val (.int p2), .val (.int p3), .val (.long pe), .second, .val (.long co), .second, .val (.long ix), .second, .val (.ref b1), .val (.long dv), .second, .val (.long (ix * pe)), .second, .val (.long (dv * co)), .second] [(.int (XT.cmpL (dv * co) (ix * pe)))]))
  refine Go.s (fun k => XS.ifNo X5.here hx rfl (hb hby at_93) rfl (XT.ll_gt_f k3) k) ?_
  show Go p.tables e below P (T5.setTop (mkF m 96 #[.val (.long q0), .second, .val (.long q1), .second, .val (.int p2), .val (.int p3), .val (.long pe), .second, .val (.long co), .second, .val (.long ix), .second, .val (.ref b1), .val (.long dv), .second, .val (.long (ix * pe)), .second, .val (.long (dv * co)), .second] []))
  refine Go.s (fun k => XT.lload X5.here hx rfl (hb hby at_96) rfl k) ?_
  show Go p.tables e below P (T5.setTop (mkF m 98 #[.val (.long q0), .second, .val (.long q1), .second, .val (.int p2), .val (.int p3), .val (.long pe), .second, .val (.long co), .second, .val (.long ix), .second, .val (.ref b1), .val (.long dv), .second, .val (.long (ix * pe)), .second, .val (.long (dv * co)), .second] [(.long (ix * pe))]))
  refine Go.s (fun k => XT.lload X5.here hx rfl (hb hby at_98) rfl k) ?_
  show Go p.tables e below P (T5.setTop (mkF m 100 #[.val (.long q0), .second, .val (.long q1), .second, .val (.int p2), .val (.int p3), .val (.long pe), .second, .val (.long co), .second, .val (.long ix), .second, .val (.ref b1), .val (.long dv), .second, .val (.long (ix * pe)), .second, .val (.long (dv * co)), .second] [(.long (dv * co)), (.long (ix * pe))]))
  refine Go.s (fun k => XT.lload X5.here hx rfl (hb hby at_100) rfl k) ?_
  show Go p.tables e below P (T5.setTop (mkF m 102 #[.val (.long q0), .second, .val (.long q1), .second, .val (.int p2), .val (.int p3), .val (.long pe), .second, .val (.long co), .second, .val (.long ix), .second, .val (.ref b1), .val (.long dv), .second, .val (.long (ix * pe)), .second, .val (.long (dv * co)), .second] [(.long co), (.long (dv * co)), (.long (ix * pe))]))
  refine Go.s (fun k => XT.ladd X5.here hx rfl (hb hby at_102) rfl k) ?_
  show Go p.tables e below P (T5.setTop (mkF m 103 #[.val (.long q0), .second, .val (.long q1), .second, .val (.int p2), .val (.int p3), .val (.long pe), .second, .val (.long co), .second, .val (.long ix), .second, .val (.ref b1), .val (.long dv), .second, .val (.long (ix * pe)), .second, .val (.long (dv * co)), .second] [(.long ((dv * co) + co)), (.long (ix * pe))]))
  refine Go.s (fun k => XT.lcmp X5.here hx rfl (hb hby at_103) rfl k) ?_
  show Go p.tables e below P (T5.setTop (mkF m 104 #[.val (.long q0), .second, .val (.long q1), .second, .val (.int p2), .val (.int p3), .val (.long pe), .second, .val (.long co), .second, .val (.long ix), .second, .val (.ref b1), .val (.long dv), .second, .val (.long (ix * pe)), .second, .val (.long (dv * co)), .second] [(.int (XT.cmpL (ix * pe) ((dv * co) + co)))]))
  refine Go.s (fun k => XS.ifNo X5.here hx rfl (hb hby at_104) rfl (XT.ll_ge_f k4) k) ?_
  show Go p.tables e below P (T5.setTop (mkF m 107 #[.val (.long q0), .second, .val (.long q1), .second, .val (.int p2), .val (.int p3), .val (.long pe), .second, .val (.long co), .second, .val (.long ix), .second, .val (.ref b1), .val (.long dv), .second, .val (.long (ix * pe)), .second, .val (.long (dv * co)), .second] []))
  refine Go.s (fun k => XS.iconst X5.here hx rfl (hb hby at_107) k) ?_
  show Go p.tables e below P (T5.setTop (mkF m 108 #[.val (.long q0), .second, .val (.long q1), .second, .val (.int p2), .val (.int p3), .val (.long pe), .second, .val (.long co), .second, .val (.long ix), .second, .val (.ref b1), .val (.long dv), .second, .val (.long (ix * pe)), .second, .val (.long (dv * co)), .second] [(.int (1 : Int32))]))
  refine Go.s (fun k => XS.goto X5.here hx rfl (pc0 := 108) (pc' := 112) rfl (hb hby at_108) (by decide) (by decide) k) ?_
  show Go p.tables e below P (T5.setTop (mkF m 112 #[.val (.long q0), .second, .val (.long q1), .second, .val (.int p2), .val (.int p3), .val (.long pe), .second, .val (.long co), .second, .val (.long ix), .second, .val (.ref b1), .val (.long dv), .second, .val (.long (ix * pe)), .second, .val (.long (dv * co)), .second] [(.int (1 : Int32))]))
  exact Go.retZ X5 hx hlk hret (by decide) (hb hby at_112) (fun U hU hF => hP U _ _ ⟨rfl, N5⟩ ⟨hF.1, hF.2.1, hF.2.2.mono (by decide) (by decide)⟩)
set_option maxRecDepth 65536 in
set_option maxHeartbeats 40000000 in
theorem own_comes {Post : Tables → Env → Array Value → State → Outcome → State → Prop} (hpost : ∀ tb e args s v u, (limb_1_1.after args s (.returned v) u = true ∧ limb_1_2.after args s (.returned v) u = true ∧ True) → FrameEnd s (.returned v) u (Jvm.fieldLocs frame_1_writes args s ++ Jvm.arrayLocs frame_1_arrays args s ++ Jvm.staticLocs frame_1_statics s) 16 128 → Post tb e args s (.returned v) u) :
    ArmFor flags0 classFile x code maxLocals ret World_1 tables_1 room_1 Calls_1 rest_1 Pre_1 Post := by
  intro l hfl _ _ p e ha hc hk s m args below hf hA hF happ hP
  obtain ⟨hcalls, hrest, hpre⟩ := hP
  obtain ⟨-, -, -, hnamed, -, -, -, hat⟩ := (Spec.applies_iff hf).mp happ
  obtain ⟨hg, hn⟩ := and_e (Cond.before_iff.mp (show (Jvm.Cond.and given_1 narrow_1).before args s = true from hpre))
  obtain ⟨h1, g1⟩ := and_e hg
  obtain ⟨w0, w1, w2, w3, rfl⟩ : ∃ w0 w1 w2 w3 : Value, args = #[w0, w1, w2, w3] := by
    have hs : args.size = 4 := by simpa [Cond.value, given_1] using h1
    obtain ⟨L⟩ := args
    match L, hs with
    | [w0, w1, w2, w3], _ => exact ⟨w0, w1, w2, w3, rfl⟩
  have hw := fun d (hd : d ∈ tables_1) => atoms_spec (ws := Jvm.Cond.code x code maxLocals ret :: tables_1) hat d (List.mem_cons_of_mem _ hd)
  have hfit : Fit s := fun {y c} hc i hi => by
    obtain ⟨ha, rfl⟩ := Array.getElem?_eq_some_iff.mp hc
    have q := List.all_eq_true.mp ((Array.all_eq_true_iff_forall_mem.mp hF) _ (Array.getElem_mem ha)) i (List.mem_range.mpr hi)
    simpa [Array.getElem?_eq_getElem hi] using q
  obtain ⟨a0, g2⟩ := and_e g1
  obtain ⟨i0, ee0⟩ := isL_v a0
  obtain rfl : w0 = (.long i0) := Option.some.inj ee0
  obtain ⟨a1, g3⟩ := and_e g2
  obtain ⟨i1, ee1⟩ := isL_v a1
  obtain rfl : w1 = (.long i1) := Option.some.inj ee1
  obtain ⟨a2, g4⟩ := and_e g3
  obtain ⟨i2, ee2⟩ := is_v a2
  obtain rfl : w2 = (.int i2) := Option.some.inj ee2
  obtain ⟨i3, ee3⟩ := is_v g4
  obtain rfl : w3 = (.int i3) := Option.some.inj ee3
  obtain ⟨n, o, h1, h2, h3, _, L, rfl, ⟨rfl, N⟩, hq⟩ := own_rm0 l s _ hw tables_1 i0 i1 i2 i3  s.heap s.heap.size (Nat.le_refl _)  p e ha hc hk s m _ below hf ((Spec.applies_iff_loose hf).mp happ).1 ⟨rfl, State.Warmed39.refl s, rfl⟩ trivial
  refine ⟨n, _, h1, h2, h3, hpost _ _ _ _ _ _ ⟨Cond.after_iff.mpr rfl, Cond.after_iff.mpr (eq_i res_at (Term.int_eval (1)) rfl), trivial⟩ ⟨hq.1, hq.2.1, (hq.2.2.sift fun y hy => Or.inr (N y hy)).mono (by decide) (by decide)⟩⟩
theorem main_1_1 : Claimed_1_1 := own_comes fun _ _ _ _ _ _ h hF => ⟨h.1, hF⟩
theorem main_1_2 : Claimed_1_2 := own_comes fun _ _ _ _ _ _ h hF => ⟨h.2.1, hF⟩
end Jvm.Pilot.@@N@@
namespace Jvm.Pilot.@@N@@
open Jvm Jvm.ClassFile Sem Op Lib Jvm.Free Jvm.Stand Jvm.Pilot.@@N@@.Jvm.D
/-! MADE BY PROGRAM (witnessworld.py) out of the Statement's table words and the real class files: 11 classes; the members and pool entries that the words name. The judged class is class 1, her method 1. -/
namespace start1
open Jvm.ClassFile
def u (s : String) : CpInfo := .utf8 (stringToUtf16 s)
/-- a pool by its gaps: so many unusable entries, then the entry; so many at the end -/
def gap : Nat → List CpInfo → List CpInfo
  | 0, r => r
  | n + 1, r => .unusable :: gap n r
def poolList (es : List (Nat × CpInfo)) (last : Nat) : List CpInfo := es.foldr (fun e r => gap e.1 (e.2 :: r)) (gap last [])
def pool (es : List (Nat × CpInfo)) (last : Nat) : Array CpInfo := ⟨poolList es last⟩
def fileOf (pool : Array CpInfo) (this : Nat) (attrs : Array Attribute := #[]) (ms : Array MethodInfo := #[]) (fl : Nat := 33) (sup : Nat := 0) (ifs : Array Nat := #[]) (fds : Array FieldInfo := #[]) : ClassFile where
  minorVersion := 0
  majorVersion := 65
  constantPool := pool
  accessFlags := fl
  thisClass := this
  superClass := sup
  interfaces := ifs
  fields := fds
  methods := ms
  attributes := attrs
def plain (name : String) (sup : Option ClassId) : Class where
  name := name
  kind := .ordinary
  loader := none
  accessFlags := 33
  super := sup
  interfaces := #[]
  cf := none
  fields := #[]
  methods := #[]
  instanceTypes := #[]
  staticTypes := #[]
  resolved := #[]
  callSites := []
  init := .initialized
  statics := none
  mirror := none

def pool0 : Array CpInfo := pool [(5, u "<init>"), (0, u "()V"), (1, .class_ 10), (1, u "java/lang/Object")] 113

def k0c0 : Code := { maxStack := 0, maxLocals := 1, code := object_method_1_code, exceptionTable := #[], attributes := #[] }
def k0m0 : Method := { name := "<init>", desc := "()V", sig := { parameters := [], returnType := none }, accessFlags := 1, code := some k0c0 }
/-- java/lang/Object -/
def k0 : Class := { plain "java/lang/Object" none with
  accessFlags := 33
  interfaces := #[]
  cf := some (fileOf pool0 8 #[] #[{ accessFlags := 1, nameIndex := 5, descriptorIndex := 6, attributes := #[] }] 33 0 #[] #[])
  fields := #[]
  methods := #[k0m0]
  instanceTypes := #[]
  staticTypes := #[]
  resolved := Array.replicate 124 none
  statics := none }

def pool1 : Array CpInfo := pool [(2, .class_ 4), (1, u "java/lang/Object"), (0, u "<init>"), (0, u "()V"), (0, .integer 1048575), (0, .integer 524287), (0, .class_ 10), (0, u "com/example/tempo_feed/tempofeed/core/EvenlySpacedPolls"), (0, .methodref 9 12), (0, .nameAndType 5 13), (0, u "(JJJ)V"), (0, .methodref 9 15), (0, .nameAndType 16 17), (0, u "poll"), (0, u "(J)J"), (0, .long 18446735277616529408), (1, .long 8796093022208), (1, .class_ 23), (0, u "com/example/tempo_feed/tempofeed/core/EvenlySpacedPollsPollPinLaw"), (2, u "law"), (0, u "(JJII)Z")] 3

def k1m0 : Method := { name := "<init>", desc := "()V", sig := { parameters := [], returnType := none }, accessFlags := 1, code := none }
def k1c1 : Code := { maxStack := 8, maxLocals := 19, code := code, exceptionTable := #[], attributes := #[] }
def k1m1 : Method := { name := "law", desc := "(JJII)Z", sig := { parameters := [.long, .long, .int, .int], returnType := some .boolean }, accessFlags := 9, code := some k1c1 }
/-- com/example/tempo_feed/tempofeed/core/EvenlySpacedPollsPollPinLaw -/
def k1 : Class := { plain "com/example/tempo_feed/tempofeed/core/EvenlySpacedPollsPollPinLaw" (some 0) with
  accessFlags := 49
  interfaces := #[]
  cf := some (fileOf pool1 22 #[] #[{ accessFlags := 1, nameIndex := 5, descriptorIndex := 6, attributes := #[] }, { accessFlags := 9, nameIndex := 26, descriptorIndex := 27, attributes := #[] }] 49 2 #[] #[])
  fields := #[]
  methods := #[k1m0, k1m1]
  instanceTypes := #[]
  staticTypes := #[]
  resolved := Array.replicate 31 none
  statics := none }

def pool2 : Array CpInfo := pool [(1, .class_ 2), (0, u "com/example/tempo_feed/tempofeed/core/FeedPolls"), (0, .class_ 4), (0, u "java/lang/Object")] 6

/-- com/example/tempo_feed/tempofeed/core/FeedPolls -/
def k2 : Class := { plain "com/example/tempo_feed/tempofeed/core/FeedPolls" (some 0) with
  accessFlags := 1537
  interfaces := #[]
  cf := some (fileOf pool2 1 #[] #[] 1537 3 #[] #[])
  fields := #[]
  methods := #[]
  instanceTypes := #[]
  staticTypes := #[]
  resolved := Array.replicate 11 none
  statics := none }

def pool3 : Array CpInfo := pool [(1, .methodref 2 3), (0, .class_ 4), (0, .nameAndType 5 6), (0, u "java/lang/Object"), (0, u "<init>"), (0, u "()V"), (9, .methodref 17 18), (0, .class_ 19), (0, .nameAndType 20 21), (0, u "java/lang/Math"), (0, u "multiplyExact"), (0, u "(JJ)J"), (6, .fieldref 29 30), (0, .class_ 31), (0, .nameAndType 32 33), (0, u "com/example/tempo_feed/tempofeed/core/EvenlySpacedPolls"), (0, u "originEpochSecond"), (0, u "J"), (0, .fieldref 29 35), (0, .nameAndType 36 33), (0, u "periodSeconds"), (0, .fieldref 29 38), (0, .nameAndType 39 33), (0, u "count"), (4, u "(JJJ)V"), (0, .methodref 17 46), (0, .nameAndType 47 21), (0, u "floorDiv"), (3, u "(J)J"), (2, u "poll"), (6, .class_ 62), (0, u "com/example/tempo_feed/tempofeed/core/FeedPolls"), (0, u "SECONDS_PER_DAY")] 27

def k3c0 : Code := { maxStack := 6, maxLocals := 8, code := prog_16_method_1_code, exceptionTable := #[{ startPc := 33, endPc := 40, handlerPc := 43, catchType := 22 }], attributes := #[] }
def k3m0 : Method := { name := "<init>", desc := "(JJJ)V", sig := { parameters := [.long, .long, .long], returnType := none }, accessFlags := 0, code := some k3c0 }
def k3c1 : Code := { maxStack := 6, maxLocals := 3, code := prog_16_method_3_code, exceptionTable := #[], attributes := #[] }
def k3m1 : Method := { name := "poll", desc := "(J)J", sig := { parameters := [.long], returnType := some .long }, accessFlags := 0, code := some k3c1 }
/-- com/example/tempo_feed/tempofeed/core/EvenlySpacedPolls -/
def k3 : Class := { plain "com/example/tempo_feed/tempofeed/core/EvenlySpacedPolls" (some 0) with
  accessFlags := 48
  interfaces := #[2]
  cf := some (fileOf pool3 29 #[] #[{ accessFlags := 0, nameIndex := 5, descriptorIndex := 44, attributes := #[] }, { accessFlags := 0, nameIndex := 54, descriptorIndex := 51, attributes := #[] }] 48 2 #[61] #[{ accessFlags := 26, nameIndex := 63, descriptorIndex := 33, attributes := #[] }, { accessFlags := 18, nameIndex := 32, descriptorIndex := 33, attributes := #[] }, { accessFlags := 18, nameIndex := 36, descriptorIndex := 33, attributes := #[] }, { accessFlags := 18, nameIndex := 39, descriptorIndex := 33, attributes := #[] }])
  fields := #[{ name := "SECONDS_PER_DAY", type := .long, accessFlags := 26, slot := 0, constantValue := 0 }, { name := "originEpochSecond", type := .long, accessFlags := 18, slot := 0, constantValue := 0 }, { name := "periodSeconds", type := .long, accessFlags := 18, slot := 1, constantValue := 0 }, { name := "count", type := .long, accessFlags := 18, slot := 2, constantValue := 0 }]
  methods := #[k3m0, k3m1]
  instanceTypes := #[.long, .long, .long]
  staticTypes := #[.long]
  resolved := Array.replicate 91 none
  statics := none }

def pool4 : Array CpInfo := pool [(1, .class_ 2), (0, u "java/lang/Math"), (1, .class_ 6), (1, u "java/lang/Object"), (0, u "<init>"), (0, u "()V"), (89, .class_ 100), (1, u "java/lang/Math$RandomNumberGeneratorHolder"), (19, u "multiplyExact"), (0, u "(JJ)J"), (0, .methodref 1 123), (0, .nameAndType 124 125), (0, u "abs"), (0, u "(J)J"), (19, u "floorDiv"), (26, u "negativeZeroFloatBits"), (0, u "J"), (2, u "negativeZeroDoubleBits"), (68, u "$assertionsDisabled"), (0, u "Z"), (91, u "twoToTheDoubleScaleDown"), (0, u "D"), (4, u "twoToTheDoubleScaleUp"), (9, u "E"), (3, u "PI"), (2, u "TAU"), (2, u "DEGREES_TO_RADIANS"), (0, u "RADIANS_TO_DEGREES")] 94

def k4m0 : Method := { name := "<init>", desc := "()V", sig := { parameters := [], returnType := none }, accessFlags := 2, code := none }
def k4c1 : Code := { maxStack := 4, maxLocals := 10, code := jdk_29_method_30_code, exceptionTable := #[], attributes := #[] }
def k4m1 : Method := { name := "multiplyExact", desc := "(JJ)J", sig := { parameters := [.long, .long], returnType := some .long }, accessFlags := 9, code := some k4c1 }
def k4c2 : Code := { maxStack := 4, maxLocals := 6, code := jdk_29_method_49_code, exceptionTable := #[], attributes := #[] }
def k4m2 : Method := { name := "floorDiv", desc := "(JJ)J", sig := { parameters := [.long, .long], returnType := some .long }, accessFlags := 9, code := some k4c2 }
def k4c3 : Code := { maxStack := 4, maxLocals := 2, code := jdk_29_method_61_code, exceptionTable := #[], attributes := #[] }
def k4m3 : Method := { name := "abs", desc := "(J)J", sig := { parameters := [.long], returnType := some .long }, accessFlags := 9, code := some k4c3 }
/-- java/lang/Math -/
def k4 : Class := { plain "java/lang/Math" (some 0) with
  accessFlags := 49
  interfaces := #[]
  cf := some (fileOf pool4 1 #[.nestMembers #[98]] #[{ accessFlags := 2, nameIndex := 7, descriptorIndex := 8, attributes := #[] }, { accessFlags := 9, nameIndex := 120, descriptorIndex := 121, attributes := #[] }, { accessFlags := 9, nameIndex := 145, descriptorIndex := 121, attributes := #[] }, { accessFlags := 9, nameIndex := 124, descriptorIndex := 125, attributes := #[] }] 49 4 #[] #[{ accessFlags := 25, nameIndex := 354, descriptorIndex := 339, attributes := #[] }, { accessFlags := 25, nameIndex := 358, descriptorIndex := 339, attributes := #[] }, { accessFlags := 25, nameIndex := 361, descriptorIndex := 339, attributes := #[] }, { accessFlags := 26, nameIndex := 364, descriptorIndex := 339, attributes := #[] }, { accessFlags := 26, nameIndex := 365, descriptorIndex := 339, attributes := #[] }, { accessFlags := 26, nameIndex := 172, descriptorIndex := 173, attributes := #[] }, { accessFlags := 26, nameIndex := 176, descriptorIndex := 173, attributes := #[] }, { accessFlags := 8, nameIndex := 344, descriptorIndex := 339, attributes := #[] }, { accessFlags := 8, nameIndex := 338, descriptorIndex := 339, attributes := #[] }, { accessFlags := 4120, nameIndex := 245, descriptorIndex := 246, attributes := #[] }])
  fields := #[{ name := "E", type := .double, accessFlags := 25, slot := 0, constantValue := 0 }, { name := "PI", type := .double, accessFlags := 25, slot := 1, constantValue := 0 }, { name := "TAU", type := .double, accessFlags := 25, slot := 2, constantValue := 0 }, { name := "DEGREES_TO_RADIANS", type := .double, accessFlags := 26, slot := 3, constantValue := 0 }, { name := "RADIANS_TO_DEGREES", type := .double, accessFlags := 26, slot := 4, constantValue := 0 }, { name := "negativeZeroFloatBits", type := .long, accessFlags := 26, slot := 5, constantValue := 0 }, { name := "negativeZeroDoubleBits", type := .long, accessFlags := 26, slot := 6, constantValue := 0 }, { name := "twoToTheDoubleScaleUp", type := .double, accessFlags := 8, slot := 7, constantValue := 0 }, { name := "twoToTheDoubleScaleDown", type := .double, accessFlags := 8, slot := 8, constantValue := 0 }, { name := "$assertionsDisabled", type := .boolean, accessFlags := 4120, slot := 9, constantValue := 0 }]
  methods := #[k4m0, k4m1, k4m2, k4m3]
  instanceTypes := #[]
  staticTypes := #[.double, .double, .double, .double, .double, .long, .long, .double, .double, .boolean]
  resolved := Array.replicate 460 none
  statics := none }

def pool5 : Array CpInfo := pool [(1, u "java/lang/Cloneable"), (0, .class_ 1), (0, u "java/lang/Object"), (0, .class_ 3)] 3

/-- java/lang/Cloneable -/
def k5 : Class := { plain "java/lang/Cloneable" (some 0) with
  accessFlags := 1537
  interfaces := #[]
  cf := some (fileOf pool5 2 #[] #[] 1537 4 #[] #[])
  fields := #[]
  methods := #[]
  instanceTypes := #[]
  staticTypes := #[]
  resolved := Array.replicate 8 none
  statics := none }

def pool6 : Array CpInfo := pool [(1, u "java/io/Serializable"), (0, .class_ 1), (0, u "java/lang/Object"), (0, .class_ 3)] 3

/-- java/io/Serializable -/
def k6 : Class := { plain "java/io/Serializable" (some 0) with
  accessFlags := 1537
  interfaces := #[]
  cf := some (fileOf pool6 2 #[] #[] 1537 4 #[] #[])
  fields := #[]
  methods := #[]
  instanceTypes := #[]
  staticTypes := #[]
  resolved := Array.replicate 8 none
  statics := none }

/-- the primitive byte -/
def k7 : Class := { plain "byte" none with kind := .primitive 'B', accessFlags := 0x411 }
/-- [B -/
def k8 : Class := { plain "[B" (some 0) with kind := .array 7 .byte, interfaces := #[5, 6], accessFlags := 1041 }

/-- the primitive int -/
def k9 : Class := { plain "int" none with kind := .primitive 'I', accessFlags := 0x411 }
/-- [I -/
def k10 : Class := { plain "[I" (some 0) with kind := .array 9 .int, interfaces := #[5, 6], accessFlags := 1041 }

def heap : Heap := #[]
def classes : Array Class := #[k0, k1, k2, k3, k4, k5, k6, k7, k8, k9, k10]
def interned : List (Array UInt16 × Addr) := []
def slotsUsed : Nat := 0
def theMethod : MethodId := ⟨1, 1⟩
def args0 : Array Value := #[.long 100, .long 5, .int 60, .int 7]
def aboutOver (below : List Frame) : State where
  vm := { classes := classes, interned := interned.toArray }
  heap := heap
  slotsUsed := slotsUsed
  threads := #[{ frames := .invoking theMethod args0 :: below }]
def below0 : List Frame := [.native { method := ⟨0, 0⟩, args := #[] }]
def about1 : State := aboutOver below0
def p0 : Program := .bare "" "" ""
def e0 : Env := launch0.env 0 0 0
theorem w_frames : about1.frames = Frame.invoking theMethod args0 :: below0 := rfl
set_option maxRecDepth 65536 in
theorem w_args : argsFit about1.vm theMethod args0 = true := by decide +kernel
set_option maxRecDepth 65536 in
theorem w_heap : heapFits about1 = true := by decide +kernel
set_option maxRecDepth 65536 in
theorem w_runnable : about1.curStatus? = some .runnable := by decide +kernel
set_option maxRecDepth 65536 in
theorem w_alone : about1.alone = true := by decide +kernel
set_option maxRecDepth 65536 in
theorem w_named : about1.methodNamed? x = some theMethod := by decide +kernel
set_option maxRecDepth 65536 in
theorem w_hears : about1.hears theMethod below0 = true := by decide +kernel
set_option maxRecDepth 65536 in
theorem w_ripe : about1.ripe theMethod args0 below0 = true := by decide +kernel
theorem w_running : about1.status = .running := rfl
set_option maxRecDepth 65536 in
theorem w_room : about1.hasRoom e0.platform room_1 = true :=
  launch0.hasRoom_least _ room_1 (by decide +kernel) (by decide +kernel) (by decide +kernel) (by decide +kernel) (by decide +kernel) (by decide +kernel)
theorem allAtoms_all (ts : List Jvm.Cond) (a : Array Jvm.Value) (st : Jvm.State) : (allAtoms ts).before a st = ts.all (fun c => c.before a st) := by
  induction ts with
  | nil => rfl
  | cons c t ih =>
    show (Jvm.Cond.and c (allAtoms t)).before a st = _
    rw [Jvm.Cond.before_and, ih, List.all_cons]
def words1 : List Jvm.Cond := Jvm.Cond.code x code maxLocals ret :: tables_1
/-- a 'code' word, met by the world's own term for the bytes: nothing is compared byte by byte -/
theorem code_word {y : MethodName} {bytes : ByteArray} {mx : Nat} {rt : Option FieldType} {a : Array Value} {s : State} {m : MethodId} {meth : Method} {c : Code} (h1 : s.methodNamed? y = some m) (h2 : s.vm.method? m = some meth) (h3 : meth.code = some c) (h4 : c.code = bytes)
    (h5 : (c.maxLocals == mx && c.exceptionTable.isEmpty && decide (c.maxStack ≤ mostOperands) && decide (meth.sig.returnType = rt) && !meth.locks && decide (parseMethodDescriptor y.desc = some meth.sig)) = true) : (Jvm.Cond.code y bytes mx rt).before a s = true := by
  simp only [Bool.and_eq_true, beq_iff_eq, Bool.not_eq_true', decide_eq_true_eq] at h5
  obtain ⟨⟨⟨⟨⟨g1, g2⟩, g3⟩, g4⟩, g5⟩, g6⟩ := h5
  simp [Cond.before, Cond.holds, Cond.value, h1, h2, h3, h4, g1, g2, g3, g4, g5, g6]
def isCode : Jvm.Cond → Bool
  | .code _ _ _ _ => true
  | _ => false
theorem all_split {L : List Jvm.Cond} {P : Jvm.Cond → Bool} (h1 : L.all (fun c => isCode c || P c) = true) (h2 : ∀ c ∈ L.filter isCode, P c = true) : L.all P = true := by
  refine List.all_eq_true.mpr fun c hc => ?_
  have h := List.all_eq_true.mp h1 c hc
  rcases Bool.eq_false_or_eq_true (isCode c) with hi | hi
  · exact h2 c (List.mem_filter.mpr ⟨hc, hi⟩)
  · simpa [hi] using h
set_option maxRecDepth 65536 in
theorem w_c0 : (Jvm.Cond.code x code maxLocals ret).before args0 about1 = true := code_word (m := ⟨1, 1⟩) (meth := k1m1) (c := k1c1) (by decide +kernel) rfl rfl rfl (by decide +kernel)
set_option maxRecDepth 65536 in
theorem w_c1 : (Jvm.Cond.code ({ cls := "java/lang/Object", name := "<init>", desc := "()V" } : Jvm.MethodName) object_method_1_code (1 : Nat) (Option.none : Option Jvm.ClassFile.FieldType)).before args0 about1 = true := code_word (m := ⟨0, 0⟩) (meth := k0m0) (c := k0c0) (by decide +kernel) rfl rfl rfl (by decide +kernel)
set_option maxRecDepth 65536 in
theorem w_c2 : (Jvm.Cond.code ({ cls := "java/lang/Math", name := "multiplyExact", desc := "(JJ)J" } : Jvm.MethodName) jdk_29_method_30_code (10 : Nat) (Option.some Jvm.ClassFile.FieldType.long)).before args0 about1 = true := code_word (m := ⟨4, 1⟩) (meth := k4m1) (c := k4c1) (by decide +kernel) rfl rfl rfl (by decide +kernel)
set_option maxRecDepth 65536 in
theorem w_c3 : (Jvm.Cond.code ({ cls := "java/lang/Math", name := "abs", desc := "(J)J" } : Jvm.MethodName) jdk_29_method_61_code (2 : Nat) (Option.some Jvm.ClassFile.FieldType.long)).before args0 about1 = true := code_word (m := ⟨4, 3⟩) (meth := k4m3) (c := k4c3) (by decide +kernel) rfl rfl rfl (by decide +kernel)
set_option maxRecDepth 65536 in
theorem w_c4 : (Jvm.Cond.code ({ cls := "com/example/tempo_feed/tempofeed/core/EvenlySpacedPolls", name := "poll", desc := "(J)J" } : Jvm.MethodName) prog_16_method_3_code (3 : Nat) (Option.some Jvm.ClassFile.FieldType.long)).before args0 about1 = true := code_word (m := ⟨3, 1⟩) (meth := k3m1) (c := k3c1) (by decide +kernel) rfl rfl rfl (by decide +kernel)
set_option maxRecDepth 65536 in
theorem w_c5 : (Jvm.Cond.code ({ cls := "java/lang/Math", name := "floorDiv", desc := "(JJ)J" } : Jvm.MethodName) jdk_29_method_49_code (6 : Nat) (Option.some Jvm.ClassFile.FieldType.long)).before args0 about1 = true := code_word (m := ⟨4, 2⟩) (meth := k4m2) (c := k4c2) (by decide +kernel) rfl rfl rfl (by decide +kernel)
def codes1 : List Jvm.Cond := [Jvm.Cond.code x code maxLocals ret, Jvm.Cond.code ({ cls := "java/lang/Object", name := "<init>", desc := "()V" } : Jvm.MethodName) object_method_1_code (1 : Nat) (Option.none : Option Jvm.ClassFile.FieldType), Jvm.Cond.code ({ cls := "java/lang/Math", name := "multiplyExact", desc := "(JJ)J" } : Jvm.MethodName) jdk_29_method_30_code (10 : Nat) (Option.some Jvm.ClassFile.FieldType.long), Jvm.Cond.code ({ cls := "java/lang/Math", name := "abs", desc := "(J)J" } : Jvm.MethodName) jdk_29_method_61_code (2 : Nat) (Option.some Jvm.ClassFile.FieldType.long), Jvm.Cond.code ({ cls := "com/example/tempo_feed/tempofeed/core/EvenlySpacedPolls", name := "poll", desc := "(J)J" } : Jvm.MethodName) prog_16_method_3_code (3 : Nat) (Option.some Jvm.ClassFile.FieldType.long), Jvm.Cond.code ({ cls := "java/lang/Math", name := "floorDiv", desc := "(JJ)J" } : Jvm.MethodName) jdk_29_method_49_code (6 : Nat) (Option.some Jvm.ClassFile.FieldType.long)]
set_option maxRecDepth 65536 in
theorem codes_eq : words1.filter isCode = codes1 := rfl
theorem w_codes : ∀ c ∈ words1.filter isCode, c.before args0 about1 = true := by
  rw [codes_eq]
  intro c hc
  simp only [codes1, List.mem_cons, List.not_mem_nil, or_false] at hc
  rcases hc with rfl | rfl | rfl | rfl | rfl | rfl
  · exact w_c0
  · exact w_c1
  · exact w_c2
  · exact w_c3
  · exact w_c4
  · exact w_c5
set_option maxRecDepth 65536 in
theorem w_t1 : (words1.take 24).all (fun c => isCode c || c.before args0 about1) = true := by decide +kernel
set_option maxRecDepth 65536 in
theorem w_t2 : (words1.drop 24).all (fun c => isCode c || c.before args0 about1) = true := by decide +kernel
theorem w_tables : (allAtoms (Jvm.Cond.code x code maxLocals ret :: tables_1)).before args0 about1 = true := by
  rw [allAtoms_all]
  show words1.all (fun c => c.before args0 about1) = true
  refine all_split ?_ w_codes
  rw [← List.take_append_drop 24 words1, List.all_append, w_t1, w_t2]
  rfl
set_option maxRecDepth 65536 in
theorem w_case : (Jvm.Cond.and given_1 narrow_1).before args0 about1 = true := by decide +kernel
theorem w_applies : (headSpec (Jvm.Cond.code x code maxLocals ret :: tables_1) room_1).applies x e0.platform about1 = true :=
  (Spec.applies_iff w_frames).mpr ⟨w_running, w_runnable, w_alone, w_named, w_hears, w_ripe, w_room, w_tables⟩
theorem atStart : AtStart classFile x code maxLocals ret World_1 tables_1 room_1 Calls_1 rest_1 Pre_1 launch0 p0 e0 about1 theMethod args0 below0 :=
  ⟨lists_1, trivial, launch0.admits_env _ _ _, launch0.least_env, fairChoices_fair.cas, fairChoices_fair.clock, w_frames, w_args, w_heap, w_applies, trivial, trivial, w_case⟩
end start1
theorem witness_1 : WitnessClaimed_1 := ⟨start1.p0, start1.e0, start1.about1, start1.theMethod, start1.args0, start1.below0, start1.atStart⟩
end Jvm.Pilot.@@N@@
