import JvmDerived
import JvmDerived.Pilot.@@N@@Statement
import JvmDerived.Pilot.@@N@@Code
set_option linter.unusedVariables false
set_option linter.unusedSimpArgs false
@@BLOCK:NumsL.lean.txt@@
namespace Jvm.OwnKit
open Sem ClassFile Op Lib Jvm.Stand Jvm.Free Jvm.LawKit Jvm.RoadKit
def Go (tb : Tables) (e : Env) (below : List Frame) (P : State → Outcome → Prop) (S : State) : Prop := ∃ U o, Steps tb e below S U ∧ U.status = .running ∧ Ended U below o ∧ P U o
theorem Go.s {tb : Tables} {e : Env} {below : List Frame} {P : State → Outcome → Prop} {S S' : State} (k : ∀ {t : State}, Steps tb e below S' t → Steps tb e below S t) (f : Go tb e below P S') : Go tb e below P S := by
  obtain ⟨U, o, h1, h2⟩ := f
  exact ⟨U, o, k h1, h2⟩
theorem Go.cast {tb : Tables} {e : Env} {below : List Frame} {P : State → Outcome → Prop} {T : State} {g g' : JFrame} (q : g = g') (f : Go tb e below P (T.setTop g')) : Go tb e below P (T.setTop g) := q ▸ f
/-- the contract of a body, at one heap and one list of arguments -/
def Con (l : Launch) (Z : State) (y : MethodName) (bytes : ByteArray) (maxL : Nat) (ret : Option FieldType) (ws : List Jvm.Cond) (rm : Room) (as' : Array Value) (h : Heap) (Q : Option Value → Heap → List Loc → Prop) : Prop :=
  MetFree l y (head1 (Cond.code y bytes maxL ret :: ws) rm) (fun a U => a = as' ∧ Z.Warmed39 U.vm ∧ U.heap = h) (fun _ _ _ _ _ => True) (fun _ U o U' => ∃ v L, o = .returned v ∧ Q v U'.heap L ∧ FrameEnd U o U' L rm.cells rm.slots)
theorem Con.intro {l : Launch} {Z : State} {y : MethodName} {bytes : ByteArray} {maxL : Nat} {ret : Option FieldType} {ws : List Jvm.Cond} {rm : Room} {as' : Array Value} {h : Heap} {Q : Option Value → Heap → List Loc → Prop} (hpn : plainFor y = true)
    (body : ∀ (p : Program) (e : Env) (s : State) (m : MethodId) (below : List Frame) (meth : Method) (c : Code) (s₁ : State) (P : State → Outcome → Prop), p.tables.exec = Jvm.exec → c.code = bytes → c.maxLocals = maxL → s.vm.findClass y.cls = some m.cls → meth.name = y.name → meth.sig.returnType = ret → meth.locks = false → Z.Warmed39 s.vm →
      Stand p l e rm s m as' below meth c s₁ [] 0 0 → s₁.heap = h → (∀ U v L, Q v U.heap L → FrameEnd s (.returned v) U L rm.cells rm.slots → P U (.returned v)) → Go p.tables e below P (s₁.setTop (entryFrame m as' maxL))) :
    Con l Z y bytes maxL ret ws rm as' h Q := by
  refine MetFree.of_bodySF hpn hisR ?_
  intro p e s m args below meth c s₁ Bd hml0 hP hK
  obtain ⟨rfl, hZ, hh⟩ := hP
  exact body p e s m below meth c s₁ _ Bd.exec Bd.bytes hml0 (findClass_of_methodNamed Bd.named) (name_of_methodNamed Bd.named Bd.method).1 Bd.returns (BodyLoose.notSynchronized Bd) hZ (Stand.of_body Bd) (by rw [← hh, Bd.state]; rfl) fun U v L q f => ⟨v, L, rfl, q, f⟩
theorem Con.mono {l : Launch} {Z : State} {y : MethodName} {bytes : ByteArray} {maxL : Nat} {ret : Option FieldType} {ws : List Jvm.Cond} {rm : Room} {as' : Array Value} {h : Heap} {Q Q' : Option Value → Heap → List Loc → Prop} (C : Con l Z y bytes maxL ret ws rm as' h Q) (q : ∀ v h L, Q v h L → Q' v h L) : Con l Z y bytes maxL ret ws rm as' h Q' := by
  intro p e ha hc hk s m args below hf happ hP hK
  obtain ⟨n, o, h1, h2, h3, v, L, h4, h5, h6⟩ := C p e ha hc hk s m args below hf happ hP hK
  exact ⟨n, o, h1, h2, h3, v, L, h4, q _ _ _ h5, h6⟩
def ConH (l : Launch) (Z : State) (y : MethodName) (bytes : ByteArray) (maxL : Nat) (ret : Option FieldType) (hs : List (Nat × Nat × Nat × Nat)) (ws : List Jvm.Cond) (rm : Room) (as' : Array Value) (h : Heap) (Q : Option Value → Heap → List Loc → Prop) : Prop :=
  MetFree l y (head1 (Cond.codeWith y bytes maxL ret hs :: ws) rm) (fun a U => a = as' ∧ Z.Warmed39 U.vm ∧ U.heap = h) (fun _ _ _ _ _ => True) (fun _ U o U' => ∃ v L, o = .returned v ∧ Q v U'.heap L ∧ FrameEnd U o U' L rm.cells rm.slots)
theorem ConH.intro {l : Launch} {Z : State} {y : MethodName} {bytes : ByteArray} {maxL : Nat} {ret : Option FieldType} {hs : List (Nat × Nat × Nat × Nat)} {ws : List Jvm.Cond} {rm : Room} {as' : Array Value} {h : Heap} {Q : Option Value → Heap → List Loc → Prop} (hpn : plainFor y = true)
    (body : ∀ (p : Program) (e : Env) (s : State) (m : MethodId) (below : List Frame) (meth : Method) (c : Code) (s₁ : State) (P : State → Outcome → Prop), p.tables.exec = Jvm.exec → c.code = bytes → c.maxLocals = maxL → s.vm.findClass y.cls = some m.cls → meth.name = y.name → meth.sig.returnType = ret → meth.locks = false → Z.Warmed39 s.vm →
      Stand p l e rm s m as' below meth c s₁ [] 0 0 → s₁.heap = h → (∀ U v L, Q v U.heap L → FrameEnd s (.returned v) U L rm.cells rm.slots → P U (.returned v)) → Go p.tables e below P (s₁.setTop (entryFrame m as' maxL))) :
    ConH l Z y bytes maxL ret hs ws rm as' h Q := by
  refine MetFree.of_bodySF hpn hisWith ?_
  intro p e s m args below meth c s₁ Bd hml0 hP hK
  obtain ⟨rfl, hZ, hh⟩ := hP
  exact body p e s m below meth c s₁ _ Bd.exec Bd.bytes hml0 (findClass_of_methodNamed Bd.named) (name_of_methodNamed Bd.named Bd.method).1 Bd.returns (BodyLoose.notSynchronized Bd) hZ (Stand.of_body Bd) (by rw [← hh, Bd.state]; rfl) fun U v L q f => ⟨v, L, rfl, q, f⟩
section Walk
variable {p : Program} {l : Launch} {e : Env} {R : Room} {s : State} {m : MethodId} {args : Array Value} {below : List Frame} {meth : Method} {c : Code} {T : State} {locs : List Loc} {cells slots : Nat} {P : State → Outcome → Prop} {Z : State} {a0 : Array Value} {h : Heap}
theorem Go.ret (X : Stand p l e R s m args below meth c T locs cells slots) (hx : p.tables.exec = Jvm.exec) (hlk : meth.locks = false) {pc : Nat} {Ls : Array Slot} {w : Value} {t : FieldType} {i : Instr} {rest : List Value} (hret : meth.sig.returnType = some t) (hn : narrow t w = w)
    (hi : (i = .ireturn ∧ (t = .int ∨ t = .boolean ∨ t = .byte ∨ t = .char ∨ t = .short) ∧ ∃ z, w = .int z) ∨ (i = .lreturn ∧ t = .long ∧ ∃ z, w = .long z) ∨ (i = .dreturn ∧ t = .double ∧ ∃ z, w = .double z) ∨ (i = .freturn ∧ t = .float ∧ ∃ z, w = .float z) ∨ (i = .areturn ∧ t.isReference = true ∧ w.isRef = true))
    (hd : decode c.code pc = .ok (i, 1)) (hP : ∀ U : State, U.heap = T.heap → FrameEnd s (.returned (some w)) U locs cells slots → P U (.returned (some w))) : Go p.tables e below P (T.setTop (mkF m pc Ls (w :: rest))) := by
  obtain ⟨fs, hr, hrun, hended, hW, hsame⟩ := X.leave (v := some w) (fun h => by rw [hret] at h; cases h) hlk
  exact ⟨_, _, retOut X hx hret hn hi hd hr, hrun, hended, hP _ rfl ⟨⟨_, rfl⟩, hW, hsame⟩⟩
theorem Go.retI (X : Stand p l e R s m args below meth c T locs cells slots) (hx : p.tables.exec = Jvm.exec) (hlk : meth.locks = false) {pc : Nat} {Ls : Array Slot} {z : Int32} {rest : List Value} (hret : meth.sig.returnType = some .int)
    (hd : decode c.code pc = .ok (.ireturn, 1)) (hP : ∀ U : State, U.heap = T.heap → FrameEnd s (.returned (some (.int z))) U locs cells slots → P U (.returned (some (.int z)))) : Go p.tables e below P (T.setTop (mkF m pc Ls (.int z :: rest))) :=
  Go.ret X hx hlk hret rfl (Or.inl ⟨rfl, Or.inl rfl, _, rfl⟩) hd hP
theorem Go.retZ (X : Stand p l e R s m args below meth c T locs cells slots) (hx : p.tables.exec = Jvm.exec) (hlk : meth.locks = false) {pc : Nat} {Ls : Array Slot} {z : Int32} {rest : List Value} (hret : meth.sig.returnType = some .boolean) (hz : z = 0 ∨ z = 1)
    (hd : decode c.code pc = .ok (.ireturn, 1)) (hP : ∀ U : State, U.heap = T.heap → FrameEnd s (.returned (some (.int z))) U locs cells slots → P U (.returned (some (.int z)))) : Go p.tables e below P (T.setTop (mkF m pc Ls (.int z :: rest))) :=
  Go.ret X hx hlk hret (by rcases hz with rfl | rfl <;> rfl) (Or.inl ⟨rfl, Or.inr (Or.inl rfl), _, rfl⟩) hd hP
theorem Go.retJ (X : Stand p l e R s m args below meth c T locs cells slots) (hx : p.tables.exec = Jvm.exec) (hlk : meth.locks = false) {pc : Nat} {Ls : Array Slot} {z : Int64} {rest : List Value} (hret : meth.sig.returnType = some .long)
    (hd : decode c.code pc = .ok (.lreturn, 1)) (hP : ∀ U : State, U.heap = T.heap → FrameEnd s (.returned (some (.long z))) U locs cells slots → P U (.returned (some (.long z)))) : Go p.tables e below P (T.setTop (mkF m pc Ls (.long z :: rest))) :=
  Go.ret X hx hlk hret rfl (Or.inr (Or.inl ⟨rfl, rfl, _, rfl⟩)) hd hP
theorem Go.retR (X : Stand p l e R s m args below meth c T locs cells slots) (hx : p.tables.exec = Jvm.exec) (hlk : meth.locks = false) {pc : Nat} {Ls : Array Slot} {w : Value} {t : FieldType} {rest : List Value} (hret : meth.sig.returnType = some t) (ht : t.isReference = true) (hw : w.isRef = true)
    (hd : decode c.code pc = .ok (.areturn, 1)) (hP : ∀ U : State, U.heap = T.heap → FrameEnd s (.returned (some w)) U locs cells slots → P U (.returned (some w))) : Go p.tables e below P (T.setTop (mkF m pc Ls (w :: rest))) :=
  Go.ret X hx hlk hret (by rcases ref_cases hw with rfl | ⟨z, rfl⟩ <;> cases t <;> first | rfl | (cases ht)) (Or.inr (Or.inr (Or.inr (Or.inr ⟨rfl, ht, hw⟩)))) hd hP
theorem Go.retV (X : Stand p l e R s m args below meth c T locs cells slots) (hx : p.tables.exec = Jvm.exec) (hlk : meth.locks = false) {pc : Nat} {Ls : Array Slot} (hret : meth.sig.returnType = none)
    (hd : decode c.code pc = .ok (.return_, 1)) (hP : ∀ U : State, U.heap = T.heap → FrameEnd s (.returned none) U locs cells slots → P U (.returned none)) : Go p.tables e below P (T.setTop (mkF m pc Ls [])) := by
  obtain ⟨fs, hr, hrun, hended, hW, hsame⟩ := X.leave (v := none) (fun _ => rfl) hlk
  exact ⟨_, _, X.returnOut hx hret hd hr, hrun, hended, hP _ rfl ⟨⟨_, rfl⟩, hW, hsame⟩⟩
theorem Con.static {y : MethodName} {bytes : ByteArray} {maxL : Nat} {ret : Option FieldType} {rm : Room} {as' : Array Value} {Q : Option Value → Heap → List Loc → Prop} (C : Con l Z y bytes maxL ret [] rm as' h Q)
    (X : Stand p l e R s m args below meth c T locs cells slots) (hx : p.tables.exec = Jvm.exec) (hZ : Z.Warmed39 s.vm) {own : String} {index W : Nat} (hown : s.vm.findClass own = some m.cls)
    (wl : (Cond.methodLink own index y).before a0 Z = true) (wst : (Cond.static y).before a0 Z = true) (wz : (Cond.initialized y.cls).before a0 Z = true) (wc : (Cond.code y bytes maxL ret).before a0 Z = true)
    (hy : y.cls ≠ "java/lang/invoke/MethodHandle" ∧ y.cls ≠ "java/lang/invoke/VarHandle") (hf : rm.frames + 1 ≤ R.frames) (hl : W + (maxL + 11) + rm.locals ≤ R.locals) (hce : cells + rm.cells ≤ R.cells) (hsl : slots + rm.slots ≤ R.slots) (eT : T.heap = h)
    {g : JFrame} (hg : g.method = m) (hsize : g.locals.size = c.maxLocals) {argsL rest : List Value} (has : argsL.toArray = as') (hlen : ∀ sig, parseMethodDescriptor y.desc = some sig → argsL.length = sig.parameters.length)
    (hstack : g.stack = argsL.reverse ++ rest) (hW : 2 * g.monitorRoom + (rest.map fun v => v.category).sum ≤ W) (hdg : decode c.code g.pc = .ok (.invokestatic index, 3)) :
    ∃ (v : Option Value) (T' : State) (L : List Loc), Stand p l e R s m args below meth c T' (locs ++ L) (cells + rm.cells) (slots + rm.slots) ∧ Q v T'.heap L ∧
      ∀ {t : State}, Steps p.tables e below (T'.setTop { g with pc := g.pc + 3, stack := v.toList ++ rest }) t → Steps p.tables e below (T.setTop g) t := by
  obtain ⟨v, vm₁, ⟨T', L', k', n'⟩, -, X', ⟨L, hQ, e1, e2, e3⟩, st⟩ := Jvm.LawKit.callS X hx hown (mvT hZ wl) (mvT hZ wst) (mvT hZ wz) (mvT hZ wc) hy (backOf (W := W) C hZ wc wz hf hl) hg hsize hlen hstack hW hdg (fun _ _ => ⟨has, eT, hce, hsl⟩)
  dsimp only [Pt.U, Pt.locs, Pt.cells, Pt.slots] at X' e1 e2 e3 st hQ
  subst e1 e2 e3
  exact ⟨v, T', L, X', hQ, fun {t} k => st t k⟩
theorem Con.special {y : MethodName} {bytes : ByteArray} {maxL : Nat} {rm : Room} {as' : Array Value} {Q : Option Value → Heap → List Loc → Prop} (C : Con l Z y bytes maxL none [] rm as' h Q) (hy1 : y.name = "<init>")
    (X : Stand p l e R s m args below meth c T locs cells slots) (hx : p.tables.exec = Jvm.exec) (hZ : Z.Warmed39 s.vm) {own : String} {index W : Nat} (hown : s.vm.findClass own = some m.cls)
    (wl : (Cond.methodLink own index y).before a0 Z = true) (wi : (Cond.instanceMethod y).before a0 Z = true) (wz : (Cond.initialized y.cls).before a0 Z = true) (wc : (Cond.code y bytes maxL none).before a0 Z = true)
    (hy : y.cls ≠ "java/lang/invoke/MethodHandle" ∧ y.cls ≠ "java/lang/invoke/VarHandle") (hf : rm.frames + 1 ≤ R.frames) (hl : W + (maxL + 11) + rm.locals ≤ R.locals) (hce : cells + rm.cells ≤ R.cells) (hsl : slots + rm.slots ≤ R.slots) (eT : T.heap = h)
    {g : JFrame} (hg : g.method = m) (hsize : g.locals.size = c.maxLocals) {a : Addr} {argsL rest : List Value} (has : (Value.ref a :: argsL).toArray = as') (hlen : ∀ sig, parseMethodDescriptor y.desc = some sig → argsL.length = sig.parameters.length)
    (hstack : g.stack = argsL.reverse ++ .ref a :: rest) (hW : 2 * g.monitorRoom + (rest.map fun v => v.category).sum ≤ W) (hdg : decode c.code g.pc = .ok (.invokespecial index, 3)) :
    ∃ (v : Option Value) (T' : State) (L : List Loc), Stand p l e R s m args below meth c T' (locs ++ L) (cells + rm.cells) (slots + rm.slots) ∧ Q v T'.heap L ∧
      ∀ {t : State}, Steps p.tables e below (T'.setTop { g with pc := g.pc + 3, stack := v.toList ++ rest }) t → Steps p.tables e below (T.setTop g) t := by
  obtain ⟨v, vm₁, ⟨T', L', k', n'⟩, -, X', ⟨L, hQ, e1, e2, e3⟩, st⟩ := X.specialBack hx hy1 hown (mvT hZ wl) (mvT hZ wi) (mvT hZ wc) hy (backOf (W := W) C hZ wc wz hf hl) hg hsize (Steps.refl _) hlen hstack hW hdg (fun _ _ => ⟨has, eT, hce, hsl⟩)
  dsimp only [Pt.U, Pt.locs, Pt.cells, Pt.slots] at X' e1 e2 e3 st hQ
  subst e1 e2 e3
  exact ⟨v, T', L, X', hQ, fun {t} k => st.trans k⟩
theorem ConH.special {y : MethodName} {bytes : ByteArray} {maxL : Nat} {rm : Room} {as' : Array Value} {Q : Option Value → Heap → List Loc → Prop} {hs : List (Nat × Nat × Nat × Nat)} (C : ConH l Z y bytes maxL none hs [] rm as' h Q) (hy1 : y.name = "<init>")
    (X : Stand p l e R s m args below meth c T locs cells slots) (hx : p.tables.exec = Jvm.exec) (hZ : Z.Warmed39 s.vm) {own : String} {index W : Nat} (hown : s.vm.findClass own = some m.cls)
    (wl : (Cond.methodLink own index y).before a0 Z = true) (wi : (Cond.instanceMethod y).before a0 Z = true) (wz : (Cond.initialized y.cls).before a0 Z = true) (wc : (Cond.codeWith y bytes maxL none hs).before a0 Z = true)
    (hy : y.cls ≠ "java/lang/invoke/MethodHandle" ∧ y.cls ≠ "java/lang/invoke/VarHandle") (hf : rm.frames + 1 ≤ R.frames) (hl : W + (maxL + 11) + rm.locals ≤ R.locals) (hce : cells + rm.cells ≤ R.cells) (hsl : slots + rm.slots ≤ R.slots) (eT : T.heap = h)
    {g : JFrame} (hg : g.method = m) (hsize : g.locals.size = c.maxLocals) {a : Addr} {argsL rest : List Value} (has : (Value.ref a :: argsL).toArray = as') (hlen : ∀ sig, parseMethodDescriptor y.desc = some sig → argsL.length = sig.parameters.length)
    (hstack : g.stack = argsL.reverse ++ .ref a :: rest) (hW : 2 * g.monitorRoom + (rest.map fun v => v.category).sum ≤ W) (hdg : decode c.code g.pc = .ok (.invokespecial index, 3)) :
    ∃ (v : Option Value) (T' : State) (L : List Loc), Stand p l e R s m args below meth c T' (locs ++ L) (cells + rm.cells) (slots + rm.slots) ∧ Q v T'.heap L ∧
      ∀ {t : State}, Steps p.tables e below (T'.setTop { g with pc := g.pc + 3, stack := v.toList ++ rest }) t → Steps p.tables e below (T.setTop g) t := by
  obtain ⟨v, vm₁, ⟨T', L', k', n'⟩, -, X', ⟨L, hQ, e1, e2, e3⟩, st⟩ := X.specialBackH hx hy1 hown (mvT hZ wl) (mvT hZ wi) (mvT hZ wc) hy (backOfWith (W := W) C hZ wc wz hf hl) hg hsize (Steps.refl _) hlen hstack hW hdg (fun _ _ => ⟨has, eT, hce, hsl⟩)
  dsimp only [Pt.U, Pt.locs, Pt.cells, Pt.slots] at X' e1 e2 e3 st hQ
  subst e1 e2 e3
  exact ⟨v, T', L, X', hQ, fun {t} k => st.trans k⟩
theorem Con.virtual {y : MethodName} {bytes : ByteArray} {maxL : Nat} {ret : Option FieldType} {rm : Room} {as' : Array Value} {Q : Option Value → Heap → List Loc → Prop} (K : Con l Z y bytes maxL ret [] rm as' h Q)
    (X : Stand p l e R s m args below meth c T locs cells slots) (hx : p.tables.exec = Jvm.exec) (hZ : Z.Warmed39 s.vm) {own C : String} {index W : Nat} (hown : s.vm.findClass own = some m.cls)
    (wl : (Cond.methodLink own index y).before a0 Z = true) (wd : (Cond.declares y).before a0 Z = true) (wsel : (Cond.selects C y y).before a0 Z = true) (wi : (Cond.instanceMethod y).before a0 Z = true) (wz : (Cond.initialized y.cls).before a0 Z = true) (wc : (Cond.code y bytes maxL ret).before a0 Z = true)
    (hy : y.cls ≠ "java/lang/invoke/MethodHandle" ∧ y.cls ≠ "java/lang/invoke/VarHandle") (hf : rm.frames + 1 ≤ R.frames) (hl : W + (maxL + 11) + rm.locals ≤ R.locals) (hce : cells + rm.cells ≤ R.cells) (hsl : slots + rm.slots ≤ R.slots) (eT : T.heap = h)
    {g : JFrame} (hg : g.method = m) (hsize : g.locals.size = c.maxLocals) {a : Addr} (E : Exa Z h a C) {argsL rest : List Value} (has : (Value.ref a :: argsL).toArray = as') (hlen : ∀ sig, parseMethodDescriptor y.desc = some sig → argsL.length = sig.parameters.length)
    (hstack : g.stack = argsL.reverse ++ .ref a :: rest) (hW : 2 * g.monitorRoom + (rest.map fun v => v.category).sum ≤ W) (hdg : decode c.code g.pc = .ok (.invokevirtual index, 3)) :
    ∃ (v : Option Value) (T' : State) (L : List Loc), Stand p l e R s m args below meth c T' (locs ++ L) (cells + rm.cells) (slots + rm.slots) ∧ Q v T'.heap L ∧
      ∀ {t : State}, Steps p.tables e below (T'.setTop { g with pc := g.pc + 3, stack := v.toList ++ rest }) t → Steps p.tables e below (T.setTop g) t := by
  obtain ⟨cq, kq, qa, qb, qc⟩ := isOf hZ eT E
  obtain ⟨v, vm₁, ⟨T', L', k', n'⟩, -, X', ⟨L, hQ, e1, e2, e3⟩, st⟩ := X.virtualBack hx hown (mvT hZ wl) (mvT hZ wd) (notFace_of_selects (args := #[]) (mvT hZ wsel)) (mvT hZ wsel) (mvT hZ wi) hy (backOf (W := W) K hZ wc wz hf hl) qa qc hg hsize (Steps.refl _) hlen hstack hW hdg (fun _ _ => ⟨has, eT, hce, hsl⟩)
  dsimp only [Pt.U, Pt.locs, Pt.cells, Pt.slots] at X' e1 e2 e3 st hQ
  subst e1 e2 e3
  exact ⟨v, T', L, X', hQ, fun {t} k => st.trans k⟩
theorem Con.priv {y : MethodName} {bytes : ByteArray} {maxL : Nat} {ret : Option FieldType} {rm : Room} {as' : Array Value} {Q : Option Value → Heap → List Loc → Prop} (K : Con l Z y bytes maxL ret [] rm as' h Q)
    (X : Stand p l e R s m args below meth c T locs cells slots) (hx : p.tables.exec = Jvm.exec) (hZ : Z.Warmed39 s.vm) {own C : String} {index W kk : Nat} (hown : s.vm.findClass own = some m.cls)
    (wl : (Cond.methodLink own index y).before a0 Z = true) (wn : (Cond.instantiable y.cls kk).before a0 Z = true) (wp : (Cond.privateMethod y).before a0 Z = true) (wi : (Cond.instanceMethod y).before a0 Z = true) (wz : (Cond.initialized y.cls).before a0 Z = true) (wc : (Cond.code y bytes maxL ret).before a0 Z = true)
    (hy : y.cls ≠ "java/lang/invoke/MethodHandle" ∧ y.cls ≠ "java/lang/invoke/VarHandle") (hf : rm.frames + 1 ≤ R.frames) (hl : W + (maxL + 11) + rm.locals ≤ R.locals) (hce : cells + rm.cells ≤ R.cells) (hsl : slots + rm.slots ≤ R.slots) (eT : T.heap = h)
    {g : JFrame} (hg : g.method = m) (hsize : g.locals.size = c.maxLocals) {a : Addr} (E : Exa Z h a C) {argsL rest : List Value} (has : (Value.ref a :: argsL).toArray = as') (hlen : ∀ sig, parseMethodDescriptor y.desc = some sig → argsL.length = sig.parameters.length)
    (hstack : g.stack = argsL.reverse ++ .ref a :: rest) (hW : 2 * g.monitorRoom + (rest.map fun v => v.category).sum ≤ W) (hdg : decode c.code g.pc = .ok (.invokevirtual index, 3)) :
    ∃ (v : Option Value) (T' : State) (L : List Loc), Stand p l e R s m args below meth c T' (locs ++ L) (cells + rm.cells) (slots + rm.slots) ∧ Q v T'.heap L ∧
      ∀ {t : State}, Steps p.tables e below (T'.setTop { g with pc := g.pc + 3, stack := v.toList ++ rest }) t → Steps p.tables e below (T.setTop g) t := by
  have hpa : s.PrivateAt y := Cond.privateMethod_at (mvP hZ wp (args := args))
  have win : (Cond.instanceMethod y).before args s = true := mvT hZ wi
  have wnn : (Cond.instantiable y.cls kk).before args s = true := mvT hZ wn
  obtain ⟨ci, ki, i1, i2, i3, i4, -⟩ := Cond.instantiable_spec wnn
  have hni : ki.isInterface = false := (Bool.or_eq_false_iff.mp i4).1
  obtain ⟨cl, hcl, hob⟩ := E.cell
  obtain ⟨v, vm₁, ⟨T', L', k', n'⟩, -, X', ⟨L, hQ, e1, e2, e3⟩, st⟩ := X.privateBack hx hown (mvT hZ wl) win (selects_self_of_private i1 i2 hni hpa win hy) hpa (mvT hZ wc) hy (backOf (W := W) K hZ wc wz hf hl) hg hsize (Steps.refl _) (by rw [eT]; exact hcl) hob hlen hstack hW hdg (fun _ _ => ⟨has, eT, hce, hsl⟩)
  dsimp only [Pt.U, Pt.locs, Pt.cells, Pt.slots] at X' e1 e2 e3 st hQ
  subst e1 e2 e3
  exact ⟨v, T', L, X', hQ, fun {t} k => st.trans k⟩
theorem Con.virtualUp {x z : MethodName} {bytes : ByteArray} {maxL : Nat} {ret : Option FieldType} {rm : Room} {as' : Array Value} {Q : Option Value → Heap → List Loc → Prop} (K : Con l Z z bytes maxL ret [] rm as' h Q)
    (X : Stand p l e R s m args below meth c T locs cells slots) (hx : p.tables.exec = Jvm.exec) (hZ : Z.Warmed39 s.vm) {own C owner : String} {index W : Nat} (hown : s.vm.findClass own = some m.cls)
    (wl : (Cond.methodLink own index x).before a0 Z = true) (wsm : (Cond.sameMethod x.cls owner x.name x.desc).before a0 Z = true) (wd : (Cond.declares ⟨owner, x.name, x.desc⟩).before a0 Z = true) (wsel : (Cond.selects C x z).before a0 Z = true) (wi : (Cond.instanceMethod z).before a0 Z = true) (wz : (Cond.initialized z.cls).before a0 Z = true) (wc : (Cond.code z bytes maxL ret).before a0 Z = true)
    (ho : owner ≠ "java/lang/invoke/MethodHandle" ∧ owner ≠ "java/lang/invoke/VarHandle") (hf : rm.frames + 1 ≤ R.frames) (hl : W + (maxL + 11) + rm.locals ≤ R.locals) (hce : cells + rm.cells ≤ R.cells) (hsl : slots + rm.slots ≤ R.slots) (eT : T.heap = h)
    {g : JFrame} (hg : g.method = m) (hsize : g.locals.size = c.maxLocals) {a : Addr} (E : Exa Z h a C) {argsL rest : List Value} (has : (Value.ref a :: argsL).toArray = as') (hlen : ∀ sig, parseMethodDescriptor x.desc = some sig → argsL.length = sig.parameters.length)
    (hstack : g.stack = argsL.reverse ++ .ref a :: rest) (hW : 2 * g.monitorRoom + (rest.map fun v => v.category).sum ≤ W) (hdg : decode c.code g.pc = .ok (.invokevirtual index, 3)) :
    ∃ (v : Option Value) (T' : State) (L : List Loc), Stand p l e R s m args below meth c T' (locs ++ L) (cells + rm.cells) (slots + rm.slots) ∧ Q v T'.heap L ∧
      ∀ {t : State}, Steps p.tables e below (T'.setTop { g with pc := g.pc + 3, stack := v.toList ++ rest }) t → Steps p.tables e below (T.setTop g) t := by
  obtain ⟨cq, kq, qa, qb, qc⟩ := isOf hZ eT E
  obtain ⟨v, vm₁, ⟨T', L', k', n'⟩, -, X', ⟨L, hQ, e1, e2, e3⟩, st⟩ := X.virtualBackUp hx hown (mvT hZ wl) (mvT hZ wsm) (mvT hZ wd) ho (mvT hZ wsel) (mvT hZ wi) (backOf (W := W) K hZ wc wz hf hl) qa qc hg hsize (Steps.refl _) hlen hstack hW hdg (fun _ _ => ⟨has, eT, hce, hsl⟩)
  dsimp only [Pt.U, Pt.locs, Pt.cells, Pt.slots] at X' e1 e2 e3 st hQ
  subst e1 e2 e3
  exact ⟨v, T', L, X', hQ, fun {t} k => st.trans k⟩
/-- the cell of an object is one that the model knows -/
def Kn (h : Heap) (a : Addr) : Prop := ∃ cell : Cell, h[a]? = some cell ∧ cell.vm ≠ .unknown
theorem Kn.of_new {h' : Heap} {a : Addr} (u : ∃ cell : Cell, h'[a]? = some cell ∧ cell.vm = .none ∧ cell.monitor = {}) : Kn h' a := by obtain ⟨c, h1, h2, -⟩ := u; exact ⟨c, h1, by rw [h2]; simp⟩
theorem Kn.ext {h h' : Heap} {a : Addr} (F : Kn h a) (E : Ext h h') : Kn h' a := by obtain ⟨c, h1, h2⟩ := F; exact ⟨c, E.2 _ _ h1, h2⟩
theorem Kn.keep {h h' : Heap} {a : Addr} {ws : List Addr} (F : Kn h a) (K : Keep h h' ws) : Kn h' a := by
  obtain ⟨c, h1, h2⟩ := F; obtain ⟨c', q, -, q2, -⟩ := K.2.2 a c h1; exact ⟨c', q, by rw [q2]; exact h2⟩
theorem Kn.wr {h h' : Heap} {a b : Addr} {sl : Nat} {v : Value} (F : Kn h a) (W : Wr h h' b sl v) : Kn h' a := F.keep (Keep.of_wr W)
theorem Kn.fld {h : Heap} {a : Addr} {O n d : String} {v : Value} {Z : State} (F : Fld Z h a O n d v) : Kn h a := by obtain ⟨c, _, _, _, _, h1, -, -, h4, -⟩ := F; exact ⟨c, h1, h4⟩
theorem lremM {g : JFrame} {target : State} (X : Stand p l e R s m args below meth c T locs cells slots) (hx : p.tables.exec = Jvm.exec) (hg : g.method = m) {x y : Int64} {rest : List Value} (hd : decode c.code g.pc = .ok (.lrem, 1)) (hs : g.stack = .long y :: .long x :: rest) (hy : y ≠ 0)
    (hr : Steps p.tables e below (T.setTop { g with pc := g.pc + 1, stack := .long (x % y) :: rest }) target) : Steps p.tables e below (T.setTop g) target := by
  exact XT.lrem X.here hx hg hd hs hy (by rw [lrem_mod]; exact hr)
theorem Sta.own_keep {Z : State} {h h' : Heap} {C n d : String} {v : Value} {ws : List Addr} (F : Sta Z h C n d v) (K : Keep h h' ws) (q : ∀ a ∈ ws, ∃ C', Exa Z h a C') : Sta Z h' C n d v := by
  obtain ⟨cf, i, k, f, st, cell, h1, h2, h3, h4, h5, h6, h7⟩ := F
  refine ⟨cf, i, k, f, st, cell, h1, h2, h3, h4, K.2.1 st cell h5 fun hm => ?_, h6, h7⟩
  obtain ⟨C', c2, _, g1, -, -, g4, -⟩ := q st hm
  cases h5.symm.trans g1
  rw [h6] at g4; cases g4
theorem own_nar {t : FieldType} {v : Value} (h : v.isRef = true) (ht : t.isReference = true) : narrow t v = v := by
  rcases ref_cases h with rfl | ⟨z, rfl⟩ <;> cases t <;> first | rfl | (cases ht)
theorem own_fit {t : FieldType} {v : Value} (h : v.isRef = true) (ht : t.isReference = true) : fits t v = true := by
  rcases ref_cases h with rfl | ⟨z, rfl⟩ <;> cases t <;> first | rfl | (cases ht)
theorem own_eq_int {t : Term} {k : Int32} {args : Array Value} {first s : State} {o : Option Outcome} {idx : List Nat} (h : (Cond.eq t (Term.int k)).value args first o s idx = some true) : t.eval args first o idx s = some (.int k) := by
  simp only [Cond.value, Term.eval] at h
  cases ht : t.eval args first o idx s with
  | none => simp [ht] at h
  | some x => cases x <;> simp [ht] at h ⊢; exact h
theorem pop2L {g : JFrame} {target : State} (X : Stand p l e R s m args below meth c T locs cells slots) (hx : p.tables.exec = Jvm.exec) (hg : g.method = m) {x : Int64} {rest : List Value} (hd : decode c.code g.pc = .ok (.pop2, 1)) (hs : g.stack = .long x :: rest)
    (hr : Steps p.tables e below (T.setTop { g with pc := g.pc + 1, stack := rest }) target) : Steps p.tables e below (T.setTop g) target := by
  subst hg
  jvm_step X.here [X.here.top, hx, hd, Op.pop2.wp_sem, hs, Value.category]
  exact hr
theorem own_tdiv (D k : Int) : (0 ≤ D ∧ D.tdiv k = D / k) ∨ (D < 0 ∧ D.tdiv k = -((-D) / k)) := by
  rcases Int.lt_or_le D 0 with h | h
  · refine Or.inr ⟨h, ?_⟩
    have e : D.tdiv k = -((-D).tdiv k) := by rw [Int.neg_tdiv]; omega
    rw [e, Int.tdiv_eq_ediv_of_nonneg (by omega)]
  · exact Or.inl ⟨h, Int.tdiv_eq_ediv_of_nonneg h⟩
theorem own_tmod (D k : Int) : (0 ≤ D ∧ D.tmod k = D % k) ∨ (D < 0 ∧ D.tmod k = -((-D) % k)) := by
  rcases Int.lt_or_le D 0 with h | h
  · refine Or.inr ⟨h, ?_⟩
    have e : D.tmod k = -((-D).tmod k) := by rw [Int.neg_tmod]; omega
    rw [e, Int.tmod_eq_emod_of_nonneg (by omega)]
  · exact Or.inl ⟨h, Int.tmod_eq_emod_of_nonneg h⟩
end Walk
end Jvm.OwnKit
namespace Jvm.OwnKit
open Sem ClassFile Op Lib Jvm.Stand Jvm.Free Jvm.LawKit Jvm.RoadKit
theorem own_mvL {Z s : State} {a0 args : Array Value} {own host : String} {y : MethodName} {index : Nat} (hZ : Z.Warmed39 s.vm) (w : (Cond.methodLinkNest own index y host).before a0 Z = true) : (Cond.methodLinkNest own index y host).before args s = true := (Cond.methodLinkNest_wide hZ w :)
section WalkT
variable {p : Program} {l : Launch} {e : Env} {R : Room} {s : State} {m : MethodId} {args : Array Value} {below : List Frame} {meth : Method} {c : Code} {T : State} {locs : List Loc} {cells slots : Nat} {P : State → Outcome → Prop} {Z : State} {a0 : Array Value} {h : Heap}
theorem Con.staticN {y : MethodName} {bytes : ByteArray} {maxL : Nat} {ret : Option FieldType} {rm : Room} {as' : Array Value} {Q : Option Value → Heap → List Loc → Prop} (C : Con l Z y bytes maxL ret [] rm as' h Q)
    (X : Stand p l e R s m args below meth c T locs cells slots) (hx : p.tables.exec = Jvm.exec) (hZ : Z.Warmed39 s.vm) {own host : String} {index W : Nat} (hown : s.vm.findClass own = some m.cls)
    (wl : (Cond.methodLinkNest own index y host).before a0 Z = true) (wst : (Cond.static y).before a0 Z = true) (wz : (Cond.initialized y.cls).before a0 Z = true) (wc : (Cond.code y bytes maxL ret).before a0 Z = true)
    (hy : y.cls ≠ "java/lang/invoke/MethodHandle" ∧ y.cls ≠ "java/lang/invoke/VarHandle") (hf : rm.frames + 1 ≤ R.frames) (hl : W + (maxL + 11) + rm.locals ≤ R.locals) (hce : cells + rm.cells ≤ R.cells) (hsl : slots + rm.slots ≤ R.slots) (eT : T.heap = h)
    {g : JFrame} (hg : g.method = m) (hsize : g.locals.size = c.maxLocals) {argsL rest : List Value} (has : argsL.toArray = as') (hlen : ∀ sig, parseMethodDescriptor y.desc = some sig → argsL.length = sig.parameters.length)
    (hstack : g.stack = argsL.reverse ++ rest) (hW : 2 * g.monitorRoom + (rest.map fun v => v.category).sum ≤ W) (hdg : decode c.code g.pc = .ok (.invokestatic index, 3)) :
    ∃ (v : Option Value) (T' : State) (L : List Loc), Stand p l e R s m args below meth c T' (locs ++ L) (cells + rm.cells) (slots + rm.slots) ∧ Q v T'.heap L ∧
      ∀ {t : State}, Steps p.tables e below (T'.setTop { g with pc := g.pc + 3, stack := v.toList ++ rest }) t → Steps p.tables e below (T.setTop g) t := by
  obtain ⟨v, vm₁, ⟨T', L', k', n'⟩, -, X', ⟨L, hQ, e1, e2, e3⟩, st⟩ := callSN X hx hown (own_mvL hZ wl) (mvT hZ wst) (mvT hZ wz) (mvT hZ wc) hy (backOf (W := W) C hZ wc wz hf hl) hg hsize hlen hstack hW hdg (fun _ _ => ⟨has, eT, hce, hsl⟩)
  dsimp only [Pt.U, Pt.locs, Pt.cells, Pt.slots] at X' e1 e2 e3 st hQ
  subst e1 e2 e3
  exact ⟨v, T', L, X', hQ, fun {t} k => st.trans k⟩
end WalkT
/-- a subtree's top, or null: its height and its quantity -/
def HQ (Z : State) (h : Heap) (v : Value) (t : Int32) (q : Int64) : Prop := (v = .null ∧ t = 0 ∧ q = 0) ∨ ∃ a, v = .ref a ∧ Fld Z h a "com/example/rotunda/rotunda/LevelTree$Node" "height" "I" (.int t) ∧ Fld Z h a "com/example/rotunda/rotunda/LevelTree$Node" "quantity" "J" (.long q)
theorem HQ.isRef {Z : State} {h : Heap} {v : Value} {t : Int32} {q : Int64} (F : HQ Z h v t q) : v.isRef = true := by
  rcases F with ⟨rfl, -⟩ | ⟨a, rfl, -⟩ <;> rfl
theorem HQ.null {Z : State} {h : Heap} : HQ Z h .null 0 0 := Or.inl ⟨rfl, rfl, rfl⟩
theorem HQ.ext {Z : State} {h h' : Heap} {v : Value} {t : Int32} {q : Int64} (F : HQ Z h v t q) (E : Ext h h') : HQ Z h' v t q := by
  rcases F with r | ⟨a, r, f1, f2⟩
  · exact Or.inl r
  · exact Or.inr ⟨a, r, Fld.ext E f1, Fld.ext E f2⟩
theorem HQ.keep {Z : State} {h h' : Heap} {v : Value} {t : Int32} {q : Int64} {ws : List Addr} (F : HQ Z h v t q) (K : Keep h h' ws) (hv : ∀ x ∈ ws, v ≠ .ref x) : HQ Z h' v t q := by
  rcases F with r | ⟨a, rfl, f1, f2⟩
  · exact Or.inl r
  · have q : a ∉ ws := fun z => hv a z rfl
    exact Or.inr ⟨a, rfl, f1.keep K q, f2.keep K q⟩
theorem HQ.other {Z : State} {h h' : Heap} {v w : Value} {t : Int32} {q : Int64} {a : Addr} {sl : Nat} (F : HQ Z h v t q) (W : Wr h h' a sl w) (hv : v ≠ .ref a) : HQ Z h' v t q := F.keep (Keep.of_wr W) (allS hv all0)
theorem own_store {L : Array Slot} {i : Nat} {v : Value} {o : Slot} (hold : L[i]? = some o) (ho : o = .unset ∨ ∃ w, o = .val w ∧ w.category = 1) (hv : v.isRef = true) : storeLocals L i v = some (L.setIfInBounds i (.val v)) := XS.store1 hold ho (XT.cat1 hv)
end Jvm.OwnKit
namespace Jvm.Pilot.@@N@@
open Jvm Jvm.ClassFile Sem Op Lib Jvm.Free Jvm.Stand Jvm.LawKit Jvm.RoadKit Bundle Jvm.Pilot.@@N@@.Jvm.D Jvm.OwnKit
abbrev oN : String := "com/example/rotunda/rotunda/LevelTree$Node"
abbrev oL : String := "com/example/rotunda/rotunda/BookSide$Level"
abbrev oT : String := "com/example/rotunda/rotunda/LevelTree"
abbrev oNd : String := "Lcom/example/rotunda/rotunda/LevelTree$Node;"
abbrev oLd : String := "Lcom/example/rotunda/rotunda/BookSide$Level;"
abbrev oW : String := "com/example/rotunda/rotunda/LevelTreeGetPinLaw"
abbrev oU : Slot := .unset
abbrev oS : Slot := .second
abbrev oI (x : Int32) : Slot := .val (.int x)
abbrev oJ (x : Int64) : Slot := .val (.long x)
abbrev oR (x : Nat) : Slot := .val (.ref x)
abbrev oV (x : Value) : Slot := .val x
theorem own_g {Z : State} {a0 : Array Value} (hw : ∀ d ∈ tables_1, d.before a0 Z = true) (i : Nat) {d : Jvm.Cond} (q : tables_1[i]? = some d) : d.before a0 Z = true := hw _ (List.mem_of_getElem? q)
theorem own_z0 : (0 : Int64).toInt = 0 := rfl
theorem own_z1 : (1 : Int64).toInt = 1 := rfl
theorem own_z2 : (2 : Int64).toInt = 2 := rfl
theorem own_z3 : (3 : Int64).toInt = 3 := rfl
theorem own_vlt {Z : State} {h : Heap} {v : Value} {t : Int32} {q : Int64} {b : Addr} (F : HQ Z h v t q) (hb : h.size ≤ b) : v ≠ .ref b := by
  rcases F with ⟨rfl, -⟩ | ⟨a, rfl, f, -⟩
  · intro z; cases z
  · intro z; cases z; exact absurd f.lt (Nat.not_lt.mpr hb)
theorem own_ef9 (m : MethodId) (v : Value) (hv : v.isRef = true) : entryFrame m #[v] 1 = mkF m 0 #[oV v] [] := by
  rcases ref_cases hv with rfl | ⟨_, rfl⟩ <;>
  (first | (simp [entryFrame, mkF, argsToLocals, Value.category]; done) | rfl)
theorem own_pn_0 : plainName oT = true := by first | (simp [plainName, overriddenIn]; done) | decide +kernel
theorem own_d9_0 : decode prog_29_method_17_code 0 = .ok (.aload_n 0, 1) := by decide +kernel
theorem own_d9_1 : decode prog_29_method_17_code 1 = .ok (.ifnonnull 7, 3) := by decide +kernel
theorem own_d9_4 : decode prog_29_method_17_code 4 = .ok (.iconst 0, 1) := by decide +kernel
theorem own_d9_5 : decode prog_29_method_17_code 5 = .ok (.goto 7, 3) := by decide +kernel
theorem own_d9_12 : decode prog_29_method_17_code 12 = .ok (.ireturn, 1) := by decide +kernel
theorem own_d9_8 : decode prog_29_method_17_code 8 = .ok (.aload_n 0, 1) := by decide +kernel
theorem own_d9_9 : decode prog_29_method_17_code 9 = .ok (.getfield 79, 3) := by decide +kernel
set_option maxRecDepth 65536 in
set_option maxHeartbeats 40000000 in
theorem own_rm9 (l : Launch) (Z : State) (a0 : Array Value) (hw : ∀ d ∈ tables_1, d.before a0 Z = true) (ws : List Jvm.Cond) (v : Value) (tv : Int32) (qv : Int64) (h0 : Heap) (n0 : Nat) (Z0 : n0 ≤ h0.size) (hv : HQ Z h0 v tv qv) :
    Con l Z (⟨oT, "heightOf", "(Lcom/example/rotunda/rotunda/LevelTree$Node;)I"⟩ : MethodName) prog_29_method_17_code 1 (some .int) ws ({ frames := 0, cells := 0, slots := 0, locals := 0 } : Room) #[v] h0 (fun v h L => v = some (.int tv) ∧ Fr n0 L ∧ h = h0) := by
  refine Con.intro (plainFor_of_name own_pn_0) ?_
  intro p e s m below meth c s₁ P hx hby hml hown hnm hret hlk hZ X0 e0 hP
  have N0 := Fr.nil n0
  have hown : s.vm.findClass oT = some m.cls := hown
  refine Go.cast (own_ef9 m v (HQ.isRef hv)) ?_
  show Go p.tables e below P (s₁.setTop (mkF m 0 #[oV v] []))
  rcases hv with ⟨rfl, rfl, rfl⟩ | ⟨x, rfl, Fh, Fq⟩
  · skip
    show Go p.tables e below P (s₁.setTop (mkF m 0 #[oV .null] []))
    refine Go.s (fun kz => XS.aloadN X0.here hx rfl (hb hby own_d9_0) rfl rfl kz) ?_
    show Go p.tables e below P (s₁.setTop (mkF m 1 #[oV .null] [.null]))
    refine Go.s (fun kz => XT.ifnonnullNo X0.here hx rfl (hb hby own_d9_1) rfl kz) ?_
    show Go p.tables e below P (s₁.setTop (mkF m 4 #[oV .null] []))
    refine Go.s (fun kz => XS.iconst X0.here hx rfl (hb hby own_d9_4) kz) ?_
    show Go p.tables e below P (s₁.setTop (mkF m 5 #[oV .null] [(.int (0 : Int32))]))
    refine Go.s (fun kz => XS.goto X0.here hx rfl (pc0 := 5) (pc' := 12) rfl (hb hby own_d9_5) (by decide) (by decide) kz) ?_
    show Go p.tables e below P (s₁.setTop (mkF m 12 #[oV .null] [(.int (0 : Int32))]))
    exact Go.retI X0 hx hlk hret (hb hby own_d9_12) (fun U hU hF => hP U _ _ (by rw [hU, e0]; exact ⟨rfl, N0, rfl⟩) ⟨hF.1, hF.2.1, hF.2.2.mono (by decide) (by decide)⟩)
  · skip
    show Go p.tables e below P (s₁.setTop (mkF m 0 #[oR x] []))
    refine Go.s (fun kz => XS.aloadN X0.here hx rfl (hb hby own_d9_0) rfl rfl kz) ?_
    show Go p.tables e below P (s₁.setTop (mkF m 1 #[oR x] [(.ref x)]))
    refine Go.s (fun kz => XT.ifnonnullYes X0.here hx rfl (pc0 := 1) (pc' := 8) rfl (hb hby own_d9_1) rfl (by decide) (by decide) kz) ?_
    show Go p.tables e below P (s₁.setTop (mkF m 8 #[oR x] []))
    refine Go.s (fun kz => XS.aloadN X0.here hx rfl (hb hby own_d9_8) rfl rfl kz) ?_
    show Go p.tables e below P (s₁.setTop (mkF m 9 #[oR x] [(.ref x)]))
    obtain ⟨T1, X1, e1, st1⟩ := getF X0 hx hZ hown (host := "") (Or.inl (own_g hw 66 rfl)) Via.refl e0 Fh (g := (mkF m 9 #[oR x] [(.ref x)])) rfl rfl (hb hby own_d9_9)
    refine Go.s (fun {t} => st1 t) ?_
    show Go p.tables e below P (T1.setTop (mkF m 12 #[oR x] [(.int tv)]))
    exact Go.retI X1 hx hlk hret (hb hby own_d9_12) (fun U hU hF => hP U _ _ (by rw [hU, e1]; exact ⟨rfl, N0, rfl⟩) ⟨hF.1, hF.2.1, hF.2.2.mono (by decide) (by decide)⟩)
theorem own_ef12 (m : MethodId) (v : Value) (hv : v.isRef = true) : entryFrame m #[v] 1 = mkF m 0 #[oV v] [] := by
  rcases ref_cases hv with rfl | ⟨_, rfl⟩ <;>
  (first | (simp [entryFrame, mkF, argsToLocals, Value.category]; done) | rfl)
theorem own_d12_0 : decode prog_29_method_18_code 0 = .ok (.aload_n 0, 1) := by decide +kernel
theorem own_d12_1 : decode prog_29_method_18_code 1 = .ok (.ifnonnull 7, 3) := by decide +kernel
theorem own_d12_4 : decode prog_29_method_18_code 4 = .ok (.lconst 0, 1) := by decide +kernel
theorem own_d12_5 : decode prog_29_method_18_code 5 = .ok (.goto 7, 3) := by decide +kernel
theorem own_d12_12 : decode prog_29_method_18_code 12 = .ok (.lreturn, 1) := by decide +kernel
theorem own_d12_8 : decode prog_29_method_18_code 8 = .ok (.aload_n 0, 1) := by decide +kernel
theorem own_d12_9 : decode prog_29_method_18_code 9 = .ok (.getfield 45, 3) := by decide +kernel
set_option maxRecDepth 65536 in
set_option maxHeartbeats 40000000 in
theorem own_rm12 (l : Launch) (Z : State) (a0 : Array Value) (hw : ∀ d ∈ tables_1, d.before a0 Z = true) (ws : List Jvm.Cond) (v : Value) (tv : Int32) (qv : Int64) (h0 : Heap) (n0 : Nat) (Z0 : n0 ≤ h0.size) (hv : HQ Z h0 v tv qv) :
    Con l Z (⟨oT, "quantityOf", "(Lcom/example/rotunda/rotunda/LevelTree$Node;)J"⟩ : MethodName) prog_29_method_18_code 1 (some .long) ws ({ frames := 0, cells := 0, slots := 0, locals := 0 } : Room) #[v] h0 (fun v h L => v = some (.long qv) ∧ Fr n0 L ∧ h = h0) := by
  refine Con.intro (plainFor_of_name own_pn_0) ?_
  intro p e s m below meth c s₁ P hx hby hml hown hnm hret hlk hZ X0 e0 hP
  have N0 := Fr.nil n0
  have hown : s.vm.findClass oT = some m.cls := hown
  refine Go.cast (own_ef12 m v (HQ.isRef hv)) ?_
  show Go p.tables e below P (s₁.setTop (mkF m 0 #[oV v] []))
  rcases hv with ⟨rfl, rfl, rfl⟩ | ⟨x, rfl, Fh, Fq⟩
  · skip
    show Go p.tables e below P (s₁.setTop (mkF m 0 #[oV .null] []))
    refine Go.s (fun kz => XS.aloadN X0.here hx rfl (hb hby own_d12_0) rfl rfl kz) ?_
    show Go p.tables e below P (s₁.setTop (mkF m 1 #[oV .null] [.null]))
    refine Go.s (fun kz => XT.ifnonnullNo X0.here hx rfl (hb hby own_d12_1) rfl kz) ?_
    show Go p.tables e below P (s₁.setTop (mkF m 4 #[oV .null] []))
    refine Go.s (fun kz => XT.lconst X0.here hx rfl (hb hby own_d12_4) kz) ?_
    show Go p.tables e below P (s₁.setTop (mkF m 5 #[oV .null] [(.long (0 : Int64))]))
    refine Go.s (fun kz => XS.goto X0.here hx rfl (pc0 := 5) (pc' := 12) rfl (hb hby own_d12_5) (by decide) (by decide) kz) ?_
    show Go p.tables e below P (s₁.setTop (mkF m 12 #[oV .null] [(.long (0 : Int64))]))
    exact Go.retJ X0 hx hlk hret (hb hby own_d12_12) (fun U hU hF => hP U _ _ (by rw [hU, e0]; exact ⟨rfl, N0, rfl⟩) ⟨hF.1, hF.2.1, hF.2.2.mono (by decide) (by decide)⟩)
  · skip
    show Go p.tables e below P (s₁.setTop (mkF m 0 #[oR x] []))
    refine Go.s (fun kz => XS.aloadN X0.here hx rfl (hb hby own_d12_0) rfl rfl kz) ?_
    show Go p.tables e below P (s₁.setTop (mkF m 1 #[oR x] [(.ref x)]))
    refine Go.s (fun kz => XT.ifnonnullYes X0.here hx rfl (pc0 := 1) (pc' := 8) rfl (hb hby own_d12_1) rfl (by decide) (by decide) kz) ?_
    show Go p.tables e below P (s₁.setTop (mkF m 8 #[oR x] []))
    refine Go.s (fun kz => XS.aloadN X0.here hx rfl (hb hby own_d12_8) rfl rfl kz) ?_
    show Go p.tables e below P (s₁.setTop (mkF m 9 #[oR x] [(.ref x)]))
    obtain ⟨T1, X1, e1, st1⟩ := getF X0 hx hZ hown (host := "") (Or.inl (own_g hw 82 rfl)) Via.refl e0 Fq (g := (mkF m 9 #[oR x] [(.ref x)])) rfl rfl (hb hby own_d12_9)
    refine Go.s (fun {t} => st1 t) ?_
    show Go p.tables e below P (T1.setTop (mkF m 12 #[oR x] [(.long qv)]))
    exact Go.retJ X1 hx hlk hret (hb hby own_d12_12) (fun U hU hF => hP U _ _ (by rw [hU, e1]; exact ⟨rfl, N0, rfl⟩) ⟨hF.1, hF.2.1, hF.2.2.mono (by decide) (by decide)⟩)
def own_f11 (x : Int32) (y : Int32) : Int32 := (if x < y then y else x)
theorem own_ef11 (m : MethodId) (x : Int32) (y : Int32) : entryFrame m #[(.int x), (.int y)] 2 = mkF m 0 #[oI x, oI y] [] := by
  (first | (simp [entryFrame, mkF, argsToLocals, Value.category]; done) | rfl)
theorem own_d11_0 : decode jdk_29_method_65_code 0 = .ok (.iload_n 0, 1) := by decide +kernel
theorem own_d11_1 : decode jdk_29_method_65_code 1 = .ok (.iload_n 1, 1) := by decide +kernel
theorem own_d11_2 : decode jdk_29_method_65_code 2 = .ok (.if_icmp .lt 7, 3) := by decide +kernel
theorem own_d11_9 : decode jdk_29_method_65_code 9 = .ok (.iload_n 1, 1) := by decide +kernel
theorem own_d11_10 : decode jdk_29_method_65_code 10 = .ok (.ireturn, 1) := by decide +kernel
theorem own_d11_5 : decode jdk_29_method_65_code 5 = .ok (.iload_n 0, 1) := by decide +kernel
theorem own_d11_6 : decode jdk_29_method_65_code 6 = .ok (.goto 4, 3) := by decide +kernel
set_option maxRecDepth 65536 in
set_option maxHeartbeats 40000000 in
theorem own_rm11 (l : Launch) (Z : State) (a0 : Array Value) (hw : ∀ d ∈ tables_1, d.before a0 Z = true) (ws : List Jvm.Cond) (x : Int32) (y : Int32) (h0 : Heap) (n0 : Nat) (Z0 : n0 ≤ h0.size)   :
    Con l Z (⟨"java/lang/Math", "max", "(II)I"⟩ : MethodName) jdk_29_method_65_code 2 (some .int) ws ({ frames := 0, cells := 0, slots := 0, locals := 0 } : Room) #[(.int x), (.int y)] h0 (fun v h L => v = some (.int (own_f11 x y)) ∧ Fr n0 L ∧ h = h0) := by
  refine Con.intro (Jvm.Free.JP.mathPlain rfl (by decide +kernel)) ?_
  intro p e s m below meth c s₁ P hx hby hml hown hnm hret hlk hZ X0 e0 hP
  have N0 := Fr.nil n0
  have hown : s.vm.findClass "java/lang/Math" = some m.cls := hown
  refine Go.cast (own_ef11 m x y) ?_
  show Go p.tables e below P (s₁.setTop (mkF m 0 #[oI x, oI y] []))
  refine Go.s (fun kz => XS.iloadN X0.here hx rfl (hb hby own_d11_0) rfl kz) ?_
  show Go p.tables e below P (s₁.setTop (mkF m 1 #[oI x, oI y] [(.int x)]))
  refine Go.s (fun kz => XS.iloadN X0.here hx rfl (hb hby own_d11_1) rfl kz) ?_
  show Go p.tables e below P (s₁.setTop (mkF m 2 #[oI x, oI y] [(.int y), (.int x)]))
  by_cases hc2 : x < y
  · skip
    refine Go.s (fun kz => XS.icmpYes X0.here hx rfl (pc0 := 2) (pc' := 9) rfl (hb hby own_d11_2) rfl (XT.ii_lt_t hc2) (by decide) (by decide) kz) ?_
    show Go p.tables e below P (s₁.setTop (mkF m 9 #[oI x, oI y] []))
    refine Go.s (fun kz => XS.iloadN X0.here hx rfl (hb hby own_d11_9) rfl kz) ?_
    show Go p.tables e below P (s₁.setTop (mkF m 10 #[oI x, oI y] [(.int y)]))
    exact Go.retI X0 hx hlk hret (hb hby own_d11_10) (fun U hU hF => hP U _ _ (by rw [hU, e0]; exact ⟨congrArg some (congrArg Value.int (Eq.symm (by rw [own_f11]; rw [if_pos hc2]))), N0, rfl⟩) ⟨hF.1, hF.2.1, hF.2.2.mono (by decide) (by decide)⟩)
  · skip
    refine Go.s (fun kz => XS.icmpNo X0.here hx rfl (hb hby own_d11_2) rfl (XT.ii_lt_f hc2) kz) ?_
    show Go p.tables e below P (s₁.setTop (mkF m 5 #[oI x, oI y] []))
    refine Go.s (fun kz => XS.iloadN X0.here hx rfl (hb hby own_d11_5) rfl kz) ?_
    show Go p.tables e below P (s₁.setTop (mkF m 6 #[oI x, oI y] [(.int x)]))
    refine Go.s (fun kz => XS.goto X0.here hx rfl (pc0 := 6) (pc' := 10) rfl (hb hby own_d11_6) (by decide) (by decide) kz) ?_
    show Go p.tables e below P (s₁.setTop (mkF m 10 #[oI x, oI y] [(.int x)]))
    exact Go.retI X0 hx hlk hret (hb hby own_d11_10) (fun U hU hF => hP U _ _ (by rw [hU, e0]; exact ⟨congrArg some (congrArg Value.int (Eq.symm (by rw [own_f11]; rw [if_neg hc2]))), N0, rfl⟩) ⟨hF.1, hF.2.1, hF.2.2.mono (by decide) (by decide)⟩)
theorem own_efme (m : MethodId) (a : Addr) : entryFrame m #[(.ref a)] 1 = mkF m 0 #[oR a] [] := by
  (first | (simp [entryFrame, mkF, argsToLocals, Value.category]; done) | rfl)
theorem own_pn_1 : plainName oN = true := by first | (simp [plainName, overriddenIn]; done) | decide +kernel
theorem own_d10_0 : decode prog_31_method_2_code 0 = .ok (.aload_n 0, 1) := by decide +kernel
theorem own_d10_1 : decode prog_31_method_2_code 1 = .ok (.aload_n 0, 1) := by decide +kernel
theorem own_d10_2 : decode prog_31_method_2_code 2 = .ok (.getfield 27, 3) := by decide +kernel
theorem own_pd_0 : parseMethodDescriptor "(Lcom/example/rotunda/rotunda/LevelTree$Node;)I" = some ⟨[(.object oN)], some .int⟩ := by decide +kernel
theorem own_d10_5 : decode prog_31_method_2_code 5 = .ok (.invokestatic 31, 3) := by decide +kernel
theorem own_d10_8 : decode prog_31_method_2_code 8 = .ok (.aload_n 0, 1) := by decide +kernel
theorem own_d10_9 : decode prog_31_method_2_code 9 = .ok (.getfield 37, 3) := by decide +kernel
theorem own_d10_12 : decode prog_31_method_2_code 12 = .ok (.invokestatic 31, 3) := by decide +kernel
theorem own_pd_1 : parseMethodDescriptor "(II)I" = some ⟨[.int, .int], some .int⟩ := by decide +kernel
theorem own_d10_15 : decode prog_31_method_2_code 15 = .ok (.invokestatic 40, 3) := by decide +kernel
theorem own_d10_18 : decode prog_31_method_2_code 18 = .ok (.iconst 1, 1) := by decide +kernel
theorem own_d10_19 : decode prog_31_method_2_code 19 = .ok (.iadd, 1) := by decide +kernel
theorem own_d10_20 : decode prog_31_method_2_code 20 = .ok (.putfield 7, 3) := by decide +kernel
theorem own_d10_23 : decode prog_31_method_2_code 23 = .ok (.aload_n 0, 1) := by decide +kernel
theorem own_d10_24 : decode prog_31_method_2_code 24 = .ok (.aload_n 0, 1) := by decide +kernel
theorem own_d10_25 : decode prog_31_method_2_code 25 = .ok (.getfield 27, 3) := by decide +kernel
theorem own_pd_2 : parseMethodDescriptor "(Lcom/example/rotunda/rotunda/LevelTree$Node;)J" = some ⟨[(.object oN)], some .long⟩ := by decide +kernel
theorem own_d10_28 : decode prog_31_method_2_code 28 = .ok (.invokestatic 46, 3) := by decide +kernel
theorem own_d10_31 : decode prog_31_method_2_code 31 = .ok (.aload_n 0, 1) := by decide +kernel
theorem own_d10_32 : decode prog_31_method_2_code 32 = .ok (.getfield 17, 3) := by decide +kernel
theorem own_d10_35 : decode prog_31_method_2_code 35 = .ok (.getfield 21, 3) := by decide +kernel
theorem own_d10_38 : decode prog_31_method_2_code 38 = .ok (.ladd, 1) := by decide +kernel
theorem own_d10_39 : decode prog_31_method_2_code 39 = .ok (.aload_n 0, 1) := by decide +kernel
theorem own_d10_40 : decode prog_31_method_2_code 40 = .ok (.getfield 37, 3) := by decide +kernel
theorem own_d10_43 : decode prog_31_method_2_code 43 = .ok (.invokestatic 46, 3) := by decide +kernel
theorem own_d10_46 : decode prog_31_method_2_code 46 = .ok (.ladd, 1) := by decide +kernel
theorem own_d10_47 : decode prog_31_method_2_code 47 = .ok (.putfield 26, 3) := by decide +kernel
theorem own_d10_50 : decode prog_31_method_2_code 50 = .ok (.return_, 1) := by decide +kernel
set_option maxRecDepth 65536 in
set_option maxHeartbeats 40000000 in
theorem own_rmme (l : Launch) (Z : State) (a0 : Array Value) (hw : ∀ d ∈ tables_1, d.before a0 Z = true) (ws : List Jvm.Cond) (a : Nat) (k : Int64) (lv : Nat) (vl : Value) (vr : Value) (t0 : Int32) (q0 : Int64) (lq : Int64) (tvl : Int32) (qvl : Int64) (tvr : Int32) (qvr : Int64) (h0 : Heap) (n0 : Nat) (Z0 : n0 ≤ h0.size) (HQ_vl : HQ Z h0 vl tvl qvl) (HQ_vr : HQ Z h0 vr tvr qvr) (E_a : Exa Z h0 a oN) (G_a : n0 ≤ a) (F_a_key : Fld Z h0 a oN "key" "J" (.long k)) (F_a_level : Fld Z h0 a oN "level" oLd (.ref lv)) (F_a_left : Fld Z h0 a oN "left" oNd vl) (F_a_right : Fld Z h0 a oN "right" oNd vr) (F_a_height : Fld Z h0 a oN "height" "I" (.int t0)) (F_a_quantity : Fld Z h0 a oN "quantity" "J" (.long q0)) (E_lv : Exa Z h0 lv oL) (G_lv : n0 ≤ lv) (F_lv_quantity : Fld Z h0 lv oL "quantity" "J" (.long lq)) (ne_a_lv : a ≠ lv) (nv_vl_a : vl ≠ .ref a) (nv_vl_lv : vl ≠ .ref lv) (nv_vr_a : vr ≠ .ref a) (nv_vr_lv : vr ≠ .ref lv) :
    Con l Z (⟨oN, "measure", "()V"⟩ : MethodName) prog_31_method_2_code 1 none ws ({ frames := 1, cells := 0, slots := 0, locals := 15 } : Room) #[(.ref a)] h0 (fun v h L => v = none ∧ Fr n0 L ∧ Keep h0 h [a] ∧ Fld Z h a oN "height" "I" (.int ((own_f11 tvl tvr) + (1 : Int32))) ∧ Fld Z h a oN "key" "J" (.long k) ∧ Fld Z h a oN "left" oNd vl ∧ Fld Z h a oN "level" oLd (.ref lv) ∧ Fld Z h a oN "quantity" "J" (.long ((qvl + lq) + qvr)) ∧ Fld Z h a oN "right" oNd vr) := by
  refine Con.intro (plainFor_of_name own_pn_1) ?_
  intro p e s m below meth c s₁ P hx hby hml hown hnm hret hlk hZ X0 e0 hP
  have N0 := Fr.nil n0
  have hown : s.vm.findClass oN = some m.cls := hown
  refine Go.cast (own_efme m a) ?_
  show Go p.tables e below P (s₁.setTop (mkF m 0 #[oR a] []))
  refine Go.s (fun kz => XS.aloadN X0.here hx rfl (hb hby own_d10_0) rfl rfl kz) ?_
  refine Go.s (fun kz => XS.aloadN X0.here hx rfl (hb hby own_d10_1) rfl rfl kz) ?_
  show Go p.tables e below P (s₁.setTop (mkF m 2 #[oR a] [(.ref a), (.ref a)]))
  obtain ⟨T1, X1, e1, st1⟩ := getF X0 hx hZ hown (host := "") (Or.inl (own_g hw 72 rfl)) Via.refl e0 F_a_left (g := (mkF m 2 #[oR a] [(.ref a), (.ref a)])) rfl rfl (hb hby own_d10_2)
  refine Go.s (fun {t} => st1 t) ?_
  show Go p.tables e below P (T1.setTop (mkF m 5 #[oR a] [vl, (.ref a)]))
  obtain ⟨v2, T2, L2, X2, Q2, st2⟩ := Con.staticN (own_rm9 l Z a0 hw [] vl tvl qvl h0 n0 Z0 HQ_vl) X1 hx hZ (W := 1) hown (own_g hw 73 rfl) (own_g hw 64 rfl) (own_g hw 16 rfl) (own_g hw 65 rfl) (by decide) (by decide) (by decide) (by decide) (by decide) e1 (g := (mkF m 5 #[oR a] [vl, (.ref a)])) rfl (by rw [hml]; rfl) (argsL := [vl]) (rest := [(.ref a)]) rfl (lenOf own_pd_0 rfl) rfl (by show 2 * 0 + _ ≤ _; exact Nat.le_of_eq rfl) (hb hby own_d10_5)
  obtain ⟨rfl, Nq2, e2⟩ := Q2
  have N2 := Fr.app N0 Nq2
  refine Go.s (fun {t} => st2) ?_
  refine Go.s (fun kz => XS.aloadN X2.here hx rfl (hb hby own_d10_8) rfl rfl kz) ?_
  show Go p.tables e below P (T2.setTop (mkF m 9 #[oR a] [(.ref a), (.int tvl), (.ref a)]))
  obtain ⟨T3, X3, e3, st3⟩ := getF X2 hx hZ hown (host := "") (Or.inl (own_g hw 74 rfl)) Via.refl e2 F_a_right (g := (mkF m 9 #[oR a] [(.ref a), (.int tvl), (.ref a)])) rfl rfl (hb hby own_d10_9)
  refine Go.s (fun {t} => st3 t) ?_
  show Go p.tables e below P (T3.setTop (mkF m 12 #[oR a] [vr, (.int tvl), (.ref a)]))
  obtain ⟨v4, T4, L4, X4, Q4, st4⟩ := Con.staticN (own_rm9 l Z a0 hw [] vr tvr qvr h0 n0 Z0 HQ_vr) X3 hx hZ (W := 2) hown (own_g hw 73 rfl) (own_g hw 64 rfl) (own_g hw 16 rfl) (own_g hw 65 rfl) (by decide) (by decide) (by decide) (by decide) (by decide) e3 (g := (mkF m 12 #[oR a] [vr, (.int tvl), (.ref a)])) rfl (by rw [hml]; rfl) (argsL := [vr]) (rest := [(.int tvl), (.ref a)]) rfl (lenOf own_pd_0 rfl) rfl (by show 2 * 0 + _ ≤ _; exact Nat.le_of_eq rfl) (hb hby own_d10_12)
  obtain ⟨rfl, Nq4, e4⟩ := Q4
  have N4 := Fr.app N2 Nq4
  refine Go.s (fun {t} => st4) ?_
  show Go p.tables e below P (T4.setTop (mkF m 15 #[oR a] [(.int tvr), (.int tvl), (.ref a)]))
  obtain ⟨v5, T5, L5, X5, Q5, st5⟩ := Con.static (own_rm11 l Z a0 hw [] tvl tvr h0 n0 Z0  ) X4 hx hZ (W := 1) hown (own_g hw 75 rfl) (own_g hw 76 rfl) (own_g hw 77 rfl) (own_g hw 78 rfl) (by decide) (by decide) (by decide) (by decide) (by decide) e4 (g := (mkF m 15 #[oR a] [(.int tvr), (.int tvl), (.ref a)])) rfl (by rw [hml]; rfl) (argsL := [(.int tvl), (.int tvr)]) (rest := [(.ref a)]) rfl (lenOf own_pd_1 rfl) rfl (by show 2 * 0 + _ ≤ _; exact Nat.le_of_eq rfl) (hb hby own_d10_15)
  obtain ⟨rfl, Nq5, e5⟩ := Q5
  have N5 := Fr.app N4 Nq5
  refine Go.s (fun {t} => st5) ?_
  refine Go.s (fun kz => XS.iconst X5.here hx rfl (hb hby own_d10_18) kz) ?_
  refine Go.s (fun kz => XS.iadd X5.here hx rfl (hb hby own_d10_19) rfl kz) ?_
  show Go p.tables e below P (T5.setTop (mkF m 20 #[oR a] [(.int ((own_f11 tvl tvr) + (1 : Int32))), (.ref a)]))
  obtain ⟨T6, H6, X6, e6, W6, st6⟩ := putF X5 hx hZ hown (host := "") (Or.inl (own_g hw 43 rfl)) Via.refl e5 F_a_height E_a (Or.inl (own_g hw 44 rfl)) (own_g hw 37 rfl) (ty := .int) (by decide) rfl rfl (g := (mkF m 20 #[oR a] [(.int ((own_f11 tvl tvr) + (1 : Int32))), (.ref a)])) rfl rfl (hb hby own_d10_20)
  refine Go.s (fun {t} => st6 t) ?_
  have Fw6 := Fld.same W6 F_a_height
  have f7 := Exa.wr W6 E_a
  have f8 := Fld.other W6 F_a_key (Or.inr (slot_ne (Or.inr (own_g hw 46 rfl)) (Or.inl (own_g hw 44 rfl)) (by decide) (t := .long) (t' := .int) (by decide) (by decide)))
  have f9 := Fld.other W6 F_a_level (Or.inr (slot_ne (Or.inr (own_g hw 48 rfl)) (Or.inl (own_g hw 44 rfl)) (by decide) (t := (.object oL)) (t' := .int) (by decide) (by decide)))
  have f10 := Fld.other W6 F_a_left (Or.inr (slot_ne (Or.inl (own_g hw 57 rfl)) (Or.inl (own_g hw 44 rfl)) (by decide) (t := (.object oN)) (t' := .int) (by decide) (by decide)))
  have f11 := Fld.other W6 F_a_right (Or.inr (slot_ne (Or.inl (own_g hw 59 rfl)) (Or.inl (own_g hw 44 rfl)) (by decide) (t := (.object oN)) (t' := .int) (by decide) (by decide)))
  have f13 := Fld.other W6 F_a_quantity (Or.inr (slot_ne (Or.inl (own_g hw 52 rfl)) (Or.inl (own_g hw 44 rfl)) (by decide) (t := .long) (t' := .int) (by decide) (by decide)))
  have f14 := Exa.wr W6 E_lv
  have f15 := Fld.other W6 F_lv_quantity (Or.inl (Ne.symm ne_a_lv))
  have Q16 := HQ.other HQ_vl W6 nv_vl_a
  have Q17 := HQ.other HQ_vr W6 nv_vr_a
  have N6 := Fr.snoc X6 N5 G_a
  have Zs6 := Nat.le_trans Z0 (Keep.of_wr W6).1
  have K6 : Keep h0 H6 [a] := (Keep.refl h0 [a]).wr W6 (Or.inl (List.mem_of_getElem? (i := 0) rfl))
  refine Go.s (fun kz => XS.aloadN X6.here hx rfl (hb hby own_d10_23) rfl rfl kz) ?_
  refine Go.s (fun kz => XS.aloadN X6.here hx rfl (hb hby own_d10_24) rfl rfl kz) ?_
  show Go p.tables e below P (T6.setTop (mkF m 25 #[oR a] [(.ref a), (.ref a)]))
  obtain ⟨T18, X18, e18, st18⟩ := getF X6 hx hZ hown (host := "") (Or.inl (own_g hw 72 rfl)) Via.refl e6 f10 (g := (mkF m 25 #[oR a] [(.ref a), (.ref a)])) rfl rfl (hb hby own_d10_25)
  refine Go.s (fun {t} => st18 t) ?_
  show Go p.tables e below P (T18.setTop (mkF m 28 #[oR a] [vl, (.ref a)]))
  obtain ⟨v19, T19, L19, X19, Q19, st19⟩ := Con.staticN (own_rm12 l Z a0 hw [] vl tvl qvl H6 n0 Zs6 Q16) X18 hx hZ (W := 1) hown (own_g hw 79 rfl) (own_g hw 80 rfl) (own_g hw 16 rfl) (own_g hw 81 rfl) (by decide) (by decide) (by decide) (by decide) (by decide) e18 (g := (mkF m 28 #[oR a] [vl, (.ref a)])) rfl (by rw [hml]; rfl) (argsL := [vl]) (rest := [(.ref a)]) rfl (lenOf own_pd_2 rfl) rfl (by show 2 * 0 + _ ≤ _; exact Nat.le_of_eq rfl) (hb hby own_d10_28)
  obtain ⟨rfl, Nq19, e19⟩ := Q19
  have N19 := Fr.app N6 Nq19
  refine Go.s (fun {t} => st19) ?_
  refine Go.s (fun kz => XS.aloadN X19.here hx rfl (hb hby own_d10_31) rfl rfl kz) ?_
  show Go p.tables e below P (T19.setTop (mkF m 32 #[oR a] [(.ref a), (.long qvl), (.ref a)]))
  obtain ⟨T20, X20, e20, st20⟩ := getF X19 hx hZ hown (host := "") (Or.inl (own_g hw 47 rfl)) Via.refl e19 f9 (g := (mkF m 32 #[oR a] [(.ref a), (.long qvl), (.ref a)])) rfl rfl (hb hby own_d10_32)
  refine Go.s (fun {t} => st20 t) ?_
  show Go p.tables e below P (T20.setTop (mkF m 35 #[oR a] [(.ref lv), (.long qvl), (.ref a)]))
  obtain ⟨T21, X21, e21, st21⟩ := getF X20 hx hZ hown (host := "") (Or.inl (own_g hw 49 rfl)) Via.refl e20 f15 (g := (mkF m 35 #[oR a] [(.ref lv), (.long qvl), (.ref a)])) rfl rfl (hb hby own_d10_35)
  refine Go.s (fun {t} => st21 t) ?_
  refine Go.s (fun kz => XT.ladd X21.here hx rfl (hb hby own_d10_38) rfl kz) ?_
  refine Go.s (fun kz => XS.aloadN X21.here hx rfl (hb hby own_d10_39) rfl rfl kz) ?_
  show Go p.tables e below P (T21.setTop (mkF m 40 #[oR a] [(.ref a), (.long (qvl + lq)), (.ref a)]))
  obtain ⟨T22, X22, e22, st22⟩ := getF X21 hx hZ hown (host := "") (Or.inl (own_g hw 74 rfl)) Via.refl e21 f11 (g := (mkF m 40 #[oR a] [(.ref a), (.long (qvl + lq)), (.ref a)])) rfl rfl (hb hby own_d10_40)
  refine Go.s (fun {t} => st22 t) ?_
  show Go p.tables e below P (T22.setTop (mkF m 43 #[oR a] [vr, (.long (qvl + lq)), (.ref a)]))
  obtain ⟨v23, T23, L23, X23, Q23, st23⟩ := Con.staticN (own_rm12 l Z a0 hw [] vr tvr qvr H6 n0 Zs6 Q17) X22 hx hZ (W := 3) hown (own_g hw 79 rfl) (own_g hw 80 rfl) (own_g hw 16 rfl) (own_g hw 81 rfl) (by decide) (by decide) (by decide) (by decide) (by decide) e22 (g := (mkF m 43 #[oR a] [vr, (.long (qvl + lq)), (.ref a)])) rfl (by rw [hml]; rfl) (argsL := [vr]) (rest := [(.long (qvl + lq)), (.ref a)]) rfl (lenOf own_pd_2 rfl) rfl (by show 2 * 0 + _ ≤ _; exact Nat.le_of_eq rfl) (hb hby own_d10_43)
  obtain ⟨rfl, Nq23, e23⟩ := Q23
  have N23 := Fr.app N19 Nq23
  refine Go.s (fun {t} => st23) ?_
  refine Go.s (fun kz => XT.ladd X23.here hx rfl (hb hby own_d10_46) rfl kz) ?_
  show Go p.tables e below P (T23.setTop (mkF m 47 #[oR a] [(.long ((qvl + lq) + qvr)), (.ref a)]))
  obtain ⟨T24, H24, X24, e24, W24, st24⟩ := putF X23 hx hZ hown (host := "") (Or.inl (own_g hw 51 rfl)) Via.refl e23 f13 f7 (Or.inl (own_g hw 52 rfl)) (own_g hw 37 rfl) (ty := .long) (by decide) rfl rfl (g := (mkF m 47 #[oR a] [(.long ((qvl + lq) + qvr)), (.ref a)])) rfl rfl (hb hby own_d10_47)
  refine Go.s (fun {t} => st24 t) ?_
  have Fw24 := Fld.same W24 f13
  have f25 := Exa.wr W24 f7
  have f26 := Fld.other W24 f8 (Or.inr (slot_ne (Or.inr (own_g hw 46 rfl)) (Or.inl (own_g hw 52 rfl)) (by decide) (t := .long) (t' := .long) (by decide) (by decide)))
  have f27 := Fld.other W24 f9 (Or.inr (slot_ne (Or.inr (own_g hw 48 rfl)) (Or.inl (own_g hw 52 rfl)) (by decide) (t := (.object oL)) (t' := .long) (by decide) (by decide)))
  have f28 := Fld.other W24 f10 (Or.inr (slot_ne (Or.inl (own_g hw 57 rfl)) (Or.inl (own_g hw 52 rfl)) (by decide) (t := (.object oN)) (t' := .long) (by decide) (by decide)))
  have f29 := Fld.other W24 f11 (Or.inr (slot_ne (Or.inl (own_g hw 59 rfl)) (Or.inl (own_g hw 52 rfl)) (by decide) (t := (.object oN)) (t' := .long) (by decide) (by decide)))
  have f31 := Exa.wr W24 f14
  have f32 := Fld.other W24 f15 (Or.inl (Ne.symm ne_a_lv))
  have f33 := Fld.other W24 Fw6 (Or.inr (slot_ne (Or.inl (own_g hw 44 rfl)) (Or.inl (own_g hw 52 rfl)) (by decide) (t := .int) (t' := .long) (by decide) (by decide)))
  have Q34 := HQ.other Q16 W24 nv_vl_a
  have Q35 := HQ.other Q17 W24 nv_vr_a
  have N24 := Fr.snoc X24 N23 G_a
  have Zs24 := Nat.le_trans Zs6 (Keep.of_wr W24).1
  have K24 : Keep h0 H24 [a] := K6.wr W24 (Or.inl (List.mem_of_getElem? (i := 0) rfl))
  show Go p.tables e below P (T24.setTop (mkF m 50 #[oR a] []))
  exact Go.retV X24 hx hlk hret (hb hby own_d10_50) (fun U hU hF => hP U _ _ (by rw [hU, e24]; exact ⟨rfl, N24, K24, f33, f26, f28, f27, Fw24, f29⟩) ⟨hF.1, hF.2.1, hF.2.2.mono (by decide) (by decide)⟩)
theorem own_efwr (m : MethodId) (a : Addr) : entryFrame m #[(.ref a)] 2 = mkF m 0 #[oR a, oU] [] := by
  (first | (simp [entryFrame, mkF, argsToLocals, Value.category]; done) | rfl)
theorem own_d14_0 : decode prog_29_method_16_code 0 = .ok (.aload_n 0, 1) := by decide +kernel
theorem own_d14_1 : decode prog_29_method_16_code 1 = .ok (.getfield 26, 3) := by decide +kernel
theorem own_d14_4 : decode prog_29_method_16_code 4 = .ok (.astore_n 1, 1) := by decide +kernel
theorem own_d14_5 : decode prog_29_method_16_code 5 = .ok (.aload_n 0, 1) := by decide +kernel
theorem own_d14_6 : decode prog_29_method_16_code 6 = .ok (.aload_n 1, 1) := by decide +kernel
theorem own_d14_7 : decode prog_29_method_16_code 7 = .ok (.getfield 23, 3) := by decide +kernel
theorem own_d14_10 : decode prog_29_method_16_code 10 = .ok (.putfield 26, 3) := by decide +kernel
theorem own_d14_13 : decode prog_29_method_16_code 13 = .ok (.aload_n 1, 1) := by decide +kernel
theorem own_d14_14 : decode prog_29_method_16_code 14 = .ok (.aload_n 0, 1) := by decide +kernel
theorem own_d14_15 : decode prog_29_method_16_code 15 = .ok (.putfield 23, 3) := by decide +kernel
theorem own_d14_18 : decode prog_29_method_16_code 18 = .ok (.aload_n 0, 1) := by decide +kernel
theorem own_pd_3 : parseMethodDescriptor "()V" = some ⟨[], none⟩ := by decide +kernel
theorem own_d14_19 : decode prog_29_method_16_code 19 = .ok (.invokevirtual 76, 3) := by decide +kernel
theorem own_d14_22 : decode prog_29_method_16_code 22 = .ok (.aload_n 1, 1) := by decide +kernel
theorem own_d14_23 : decode prog_29_method_16_code 23 = .ok (.invokevirtual 76, 3) := by decide +kernel
theorem own_d14_26 : decode prog_29_method_16_code 26 = .ok (.aload_n 1, 1) := by decide +kernel
theorem own_d14_27 : decode prog_29_method_16_code 27 = .ok (.areturn, 1) := by decide +kernel
set_option maxRecDepth 65536 in
set_option maxHeartbeats 40000000 in
theorem own_rmwr (l : Launch) (Z : State) (a0 : Array Value) (hw : ∀ d ∈ tables_1, d.before a0 Z = true) (ws : List Jvm.Cond) (a : Nat) (k : Int64) (lv : Nat) (vs : Value) (ac : Nat) (t0 : Int32) (q0 : Int64) (kc : Int64) (lc : Nat) (vcl : Value) (vcr : Value) (tc : Int32) (qc : Int64) (lq : Int64) (lcq : Int64) (tvs : Int32) (qvs : Int64) (tvcl : Int32) (qvcl : Int64) (tvcr : Int32) (qvcr : Int64) (h0 : Heap) (n0 : Nat) (Z0 : n0 ≤ h0.size) (HQ_vs : HQ Z h0 vs tvs qvs) (HQ_vcl : HQ Z h0 vcl tvcl qvcl) (HQ_vcr : HQ Z h0 vcr tvcr qvcr) (E_a : Exa Z h0 a oN) (G_a : n0 ≤ a) (F_a_key : Fld Z h0 a oN "key" "J" (.long k)) (F_a_level : Fld Z h0 a oN "level" oLd (.ref lv)) (F_a_left : Fld Z h0 a oN "left" oNd vs) (F_a_right : Fld Z h0 a oN "right" oNd (.ref ac)) (F_a_height : Fld Z h0 a oN "height" "I" (.int t0)) (F_a_quantity : Fld Z h0 a oN "quantity" "J" (.long q0)) (E_ac : Exa Z h0 ac oN) (G_ac : n0 ≤ ac) (F_ac_key : Fld Z h0 ac oN "key" "J" (.long kc)) (F_ac_level : Fld Z h0 ac oN "level" oLd (.ref lc)) (F_ac_left : Fld Z h0 ac oN "left" oNd vcl) (F_ac_right : Fld Z h0 ac oN "right" oNd vcr) (F_ac_height : Fld Z h0 ac oN "height" "I" (.int tc)) (F_ac_quantity : Fld Z h0 ac oN "quantity" "J" (.long qc)) (E_lv : Exa Z h0 lv oL) (G_lv : n0 ≤ lv) (F_lv_quantity : Fld Z h0 lv oL "quantity" "J" (.long lq)) (E_lc : Exa Z h0 lc oL) (G_lc : n0 ≤ lc) (F_lc_quantity : Fld Z h0 lc oL "quantity" "J" (.long lcq)) (ne_a_ac : a ≠ ac) (ne_a_lv : a ≠ lv) (ne_a_lc : a ≠ lc) (ne_ac_lv : ac ≠ lv) (ne_ac_lc : ac ≠ lc) (ne_lv_lc : lv ≠ lc) (nv_vs_a : vs ≠ .ref a) (nv_vs_ac : vs ≠ .ref ac) (nv_vs_lv : vs ≠ .ref lv) (nv_vs_lc : vs ≠ .ref lc) (nv_vcl_a : vcl ≠ .ref a) (nv_vcl_ac : vcl ≠ .ref ac) (nv_vcl_lv : vcl ≠ .ref lv) (nv_vcl_lc : vcl ≠ .ref lc) (nv_vcr_a : vcr ≠ .ref a) (nv_vcr_ac : vcr ≠ .ref ac) (nv_vcr_lv : vcr ≠ .ref lv) (nv_vcr_lc : vcr ≠ .ref lc) :
    Con l Z (⟨oT, "withRightOnTop", "(Lcom/example/rotunda/rotunda/LevelTree$Node;)Lcom/example/rotunda/rotunda/LevelTree$Node;"⟩ : MethodName) prog_29_method_16_code 2 (some (.object oN)) ws ({ frames := 2, cells := 0, slots := 0, locals := 27 } : Room) #[(.ref a)] h0 (fun v h L => v = some (.ref ac) ∧ Fr n0 L ∧ Keep h0 h [a, ac] ∧ Fld Z h a oN "height" "I" (.int ((own_f11 tvs tvcl) + (1 : Int32))) ∧ Fld Z h a oN "key" "J" (.long k) ∧ Fld Z h a oN "left" oNd vs ∧ Fld Z h a oN "level" oLd (.ref lv) ∧ Fld Z h a oN "quantity" "J" (.long ((qvs + lq) + qvcl)) ∧ Fld Z h a oN "right" oNd vcl ∧ Fld Z h ac oN "height" "I" (.int ((own_f11 ((own_f11 tvs tvcl) + (1 : Int32)) tvcr) + (1 : Int32))) ∧ Fld Z h ac oN "key" "J" (.long kc) ∧ Fld Z h ac oN "left" oNd (.ref a) ∧ Fld Z h ac oN "level" oLd (.ref lc) ∧ Fld Z h ac oN "quantity" "J" (.long ((((qvs + lq) + qvcl) + lcq) + qvcr)) ∧ Fld Z h ac oN "right" oNd vcr) := by
  refine Con.intro (plainFor_of_name own_pn_0) ?_
  intro p e s m below meth c s₁ P hx hby hml hown hnm hret hlk hZ X0 e0 hP
  have N0 := Fr.nil n0
  have hown : s.vm.findClass oT = some m.cls := hown
  refine Go.cast (own_efwr m a) ?_
  show Go p.tables e below P (s₁.setTop (mkF m 0 #[oR a, oU] []))
  refine Go.s (fun kz => XS.aloadN X0.here hx rfl (hb hby own_d14_0) rfl rfl kz) ?_
  show Go p.tables e below P (s₁.setTop (mkF m 1 #[oR a, oU] [(.ref a)]))
  obtain ⟨T1, X1, e1, st1⟩ := getF X0 hx hZ hown (host := "") (Or.inl (own_g hw 58 rfl)) Via.refl e0 F_a_right (g := (mkF m 1 #[oR a, oU] [(.ref a)])) rfl rfl (hb hby own_d14_1)
  refine Go.s (fun {t} => st1 t) ?_
  refine Go.s (fun kz => XS.astoreN X1.here hx rfl (hb hby own_d14_4) rfl rfl (l' := #[oR a, oR ac]) rfl kz) ?_
  refine Go.s (fun kz => XS.aloadN X1.here hx rfl (hb hby own_d14_5) rfl rfl kz) ?_
  refine Go.s (fun kz => XS.aloadN X1.here hx rfl (hb hby own_d14_6) rfl rfl kz) ?_
  show Go p.tables e below P (T1.setTop (mkF m 7 #[oR a, oR ac] [(.ref ac), (.ref a)]))
  obtain ⟨T2, X2, e2, st2⟩ := getF X1 hx hZ hown (host := "") (Or.inl (own_g hw 56 rfl)) Via.refl e1 F_ac_left (g := (mkF m 7 #[oR a, oR ac] [(.ref ac), (.ref a)])) rfl rfl (hb hby own_d14_7)
  refine Go.s (fun {t} => st2 t) ?_
  show Go p.tables e below P (T2.setTop (mkF m 10 #[oR a, oR ac] [vcl, (.ref a)]))
  obtain ⟨T3, H3, X3, e3, W3, st3⟩ := putF X2 hx hZ hown (host := "") (Or.inl (own_g hw 58 rfl)) Via.refl e2 F_a_right E_a (Or.inl (own_g hw 59 rfl)) (own_g hw 37 rfl) (ty := (.object oN)) (by decide) (own_nar (HQ.isRef HQ_vcl) rfl) (own_fit (HQ.isRef HQ_vcl) rfl) (g := (mkF m 10 #[oR a, oR ac] [vcl, (.ref a)])) rfl rfl (hb hby own_d14_10)
  refine Go.s (fun {t} => st3 t) ?_
  have Fw3 := Fld.same W3 F_a_right
  have f4 := Exa.wr W3 E_a
  have f5 := Fld.other W3 F_a_key (Or.inr (slot_ne (Or.inr (own_g hw 46 rfl)) (Or.inl (own_g hw 59 rfl)) (by decide) (t := .long) (t' := (.object oN)) (by decide) (by decide)))
  have f6 := Fld.other W3 F_a_level (Or.inr (slot_ne (Or.inr (own_g hw 48 rfl)) (Or.inl (own_g hw 59 rfl)) (by decide) (t := (.object oL)) (t' := (.object oN)) (by decide) (by decide)))
  have f7 := Fld.other W3 F_a_left (Or.inr (slot_ne (Or.inl (own_g hw 57 rfl)) (Or.inl (own_g hw 59 rfl)) (by decide) (t := (.object oN)) (t' := (.object oN)) (by decide) (by decide)))
  have f9 := Fld.other W3 F_a_height (Or.inr (slot_ne (Or.inl (own_g hw 44 rfl)) (Or.inl (own_g hw 59 rfl)) (by decide) (t := .int) (t' := (.object oN)) (by decide) (by decide)))
  have f10 := Fld.other W3 F_a_quantity (Or.inr (slot_ne (Or.inl (own_g hw 52 rfl)) (Or.inl (own_g hw 59 rfl)) (by decide) (t := .long) (t' := (.object oN)) (by decide) (by decide)))
  have f11 := Exa.wr W3 E_ac
  have f12 := Fld.other W3 F_ac_key (Or.inl (Ne.symm ne_a_ac))
  have f13 := Fld.other W3 F_ac_level (Or.inl (Ne.symm ne_a_ac))
  have f14 := Fld.other W3 F_ac_left (Or.inl (Ne.symm ne_a_ac))
  have f15 := Fld.other W3 F_ac_right (Or.inl (Ne.symm ne_a_ac))
  have f16 := Fld.other W3 F_ac_height (Or.inl (Ne.symm ne_a_ac))
  have f17 := Fld.other W3 F_ac_quantity (Or.inl (Ne.symm ne_a_ac))
  have f18 := Exa.wr W3 E_lv
  have f19 := Fld.other W3 F_lv_quantity (Or.inl (Ne.symm ne_a_lv))
  have f20 := Exa.wr W3 E_lc
  have f21 := Fld.other W3 F_lc_quantity (Or.inl (Ne.symm ne_a_lc))
  have Q22 := HQ.other HQ_vs W3 nv_vs_a
  have Q23 := HQ.other HQ_vcl W3 nv_vcl_a
  have Q24 := HQ.other HQ_vcr W3 nv_vcr_a
  have N3 := Fr.snoc X3 N0 G_a
  have Zs3 := Nat.le_trans Z0 (Keep.of_wr W3).1
  have K3 : Keep h0 H3 [a, ac] := (Keep.refl h0 [a, ac]).wr W3 (Or.inl (List.mem_of_getElem? (i := 0) rfl))
  refine Go.s (fun kz => XS.aloadN X3.here hx rfl (hb hby own_d14_13) rfl rfl kz) ?_
  refine Go.s (fun kz => XS.aloadN X3.here hx rfl (hb hby own_d14_14) rfl rfl kz) ?_
  show Go p.tables e below P (T3.setTop (mkF m 15 #[oR a, oR ac] [(.ref a), (.ref ac)]))
  obtain ⟨T25, H25, X25, e25, W25, st25⟩ := putF X3 hx hZ hown (host := "") (Or.inl (own_g hw 56 rfl)) Via.refl e3 f14 f11 (Or.inl (own_g hw 57 rfl)) (own_g hw 37 rfl) (ty := (.object oN)) (by decide) rfl rfl (g := (mkF m 15 #[oR a, oR ac] [(.ref a), (.ref ac)])) rfl rfl (hb hby own_d14_15)
  refine Go.s (fun {t} => st25 t) ?_
  have Fw25 := Fld.same W25 f14
  have f26 := Exa.wr W25 f4
  have f27 := Fld.other W25 f5 (Or.inl ne_a_ac)
  have f28 := Fld.other W25 f6 (Or.inl ne_a_ac)
  have f29 := Fld.other W25 f7 (Or.inl ne_a_ac)
  have f30 := Fld.other W25 f9 (Or.inl ne_a_ac)
  have f31 := Fld.other W25 f10 (Or.inl ne_a_ac)
  have f32 := Exa.wr W25 f11
  have f33 := Fld.other W25 f12 (Or.inr (slot_ne (Or.inr (own_g hw 46 rfl)) (Or.inl (own_g hw 57 rfl)) (by decide) (t := .long) (t' := (.object oN)) (by decide) (by decide)))
  have f34 := Fld.other W25 f13 (Or.inr (slot_ne (Or.inr (own_g hw 48 rfl)) (Or.inl (own_g hw 57 rfl)) (by decide) (t := (.object oL)) (t' := (.object oN)) (by decide) (by decide)))
  have f36 := Fld.other W25 f15 (Or.inr (slot_ne (Or.inl (own_g hw 59 rfl)) (Or.inl (own_g hw 57 rfl)) (by decide) (t := (.object oN)) (t' := (.object oN)) (by decide) (by decide)))
  have f37 := Fld.other W25 f16 (Or.inr (slot_ne (Or.inl (own_g hw 44 rfl)) (Or.inl (own_g hw 57 rfl)) (by decide) (t := .int) (t' := (.object oN)) (by decide) (by decide)))
  have f38 := Fld.other W25 f17 (Or.inr (slot_ne (Or.inl (own_g hw 52 rfl)) (Or.inl (own_g hw 57 rfl)) (by decide) (t := .long) (t' := (.object oN)) (by decide) (by decide)))
  have f39 := Exa.wr W25 f18
  have f40 := Fld.other W25 f19 (Or.inl (Ne.symm ne_ac_lv))
  have f41 := Exa.wr W25 f20
  have f42 := Fld.other W25 f21 (Or.inl (Ne.symm ne_ac_lc))
  have f43 := Fld.other W25 Fw3 (Or.inl ne_a_ac)
  have Q44 := HQ.other Q22 W25 nv_vs_ac
  have Q45 := HQ.other Q23 W25 nv_vcl_ac
  have Q46 := HQ.other Q24 W25 nv_vcr_ac
  have N25 := Fr.snoc X25 N3 G_ac
  have Zs25 := Nat.le_trans Zs3 (Keep.of_wr W25).1
  have K25 : Keep h0 H25 [a, ac] := K3.wr W25 (Or.inl (List.mem_of_getElem? (i := 1) rfl))
  refine Go.s (fun kz => XS.aloadN X25.here hx rfl (hb hby own_d14_18) rfl rfl kz) ?_
  show Go p.tables e below P (T25.setTop (mkF m 19 #[oR a, oR ac] [(.ref a)]))
  obtain ⟨v47, T47, L47, X47, Q47, st47⟩ := Con.virtual (own_rmme l Z a0 hw [] a k lv vs vcl t0 q0 lq tvs qvs tvcl qvcl H25 n0 Zs25 Q44 Q45 f26 G_a f27 f28 f29 f43 f30 f31 f39 G_lv f40 ne_a_lv nv_vs_a nv_vs_lv nv_vcl_a nv_vcl_lv) X25 hx hZ (W := 0) hown (own_g hw 67 rfl) (own_g hw 68 rfl) (own_g hw 70 rfl) (own_g hw 69 rfl) (own_g hw 38 rfl) (own_g hw 71 rfl) (by decide) (by decide) (by decide) (by decide) (by decide) e25 (g := (mkF m 19 #[oR a, oR ac] [(.ref a)])) rfl (by rw [hml]; rfl) f26 (argsL := []) (rest := []) rfl (lenOf own_pd_3 rfl) rfl (by show 2 * 0 + _ ≤ _; exact Nat.le_of_eq rfl) (hb hby own_d14_19)
  obtain ⟨H47, e47⟩ : ∃ z, T47.heap = z := ⟨_, rfl⟩
  rw [e47] at Q47
  obtain ⟨rfl, Nq47, Kq47, Fp47_0, Fp47_1, Fp47_2, Fp47_3, Fp47_4, Fp47_5⟩ := Q47
  have N47 := Fr.app N25 Nq47
  have Zs47 := Nat.le_trans Zs25 Kq47.1
  have f48 := Exa.keep f26 Kq47
  have f54 := Exa.keep f32 Kq47
  have f55 := Fld.keep f33 Kq47 (ninS (Ne.symm ne_a_ac) nin0)
  have f56 := Fld.keep f34 Kq47 (ninS (Ne.symm ne_a_ac) nin0)
  have f57 := Fld.keep f36 Kq47 (ninS (Ne.symm ne_a_ac) nin0)
  have f58 := Fld.keep f37 Kq47 (ninS (Ne.symm ne_a_ac) nin0)
  have f59 := Fld.keep f38 Kq47 (ninS (Ne.symm ne_a_ac) nin0)
  have f60 := Exa.keep f39 Kq47
  have f61 := Fld.keep f40 Kq47 (ninS (Ne.symm ne_a_lv) nin0)
  have f62 := Exa.keep f41 Kq47
  have f63 := Fld.keep f42 Kq47 (ninS (Ne.symm ne_a_lc) nin0)
  have f65 := Fld.keep Fw25 Kq47 (ninS (Ne.symm ne_a_ac) nin0)
  have Q66 := HQ.keep Q44 Kq47 (allS nv_vs_a all0)
  have Q67 := HQ.keep Q45 Kq47 (allS nv_vcl_a all0)
  have Q68 := HQ.keep Q46 Kq47 (allS nv_vcr_a all0)
  have K47 := K25.trans Kq47 (allS (Or.inl (List.mem_of_getElem? (i := 0) rfl)) all0)
  refine Go.s (fun {t} => st47) ?_
  refine Go.s (fun kz => XS.aloadN X47.here hx rfl (hb hby own_d14_22) rfl rfl kz) ?_
  show Go p.tables e below P (T47.setTop (mkF m 23 #[oR a, oR ac] [(.ref ac)]))
  obtain ⟨v69, T69, L69, X69, Q69, st69⟩ := Con.virtual (own_rmme l Z a0 hw [] ac kc lc (.ref a) vcr tc qc lcq ((own_f11 tvs tvcl) + (1 : Int32)) ((qvs + lq) + qvcl) tvcr qvcr H47 n0 Zs47 (Or.inr ⟨a, rfl, Fp47_0, Fp47_4⟩) Q68 f54 G_ac f55 f56 f65 f57 f58 f59 f62 G_lc f63 ne_ac_lc (fun q => ne_a_ac (Value.ref.inj q)) (fun q => ne_a_lc (Value.ref.inj q)) nv_vcr_ac nv_vcr_lc) X47 hx hZ (W := 0) hown (own_g hw 67 rfl) (own_g hw 68 rfl) (own_g hw 70 rfl) (own_g hw 69 rfl) (own_g hw 38 rfl) (own_g hw 71 rfl) (by decide) (by decide) (by decide) (by decide) (by decide) e47 (g := (mkF m 23 #[oR a, oR ac] [(.ref ac)])) rfl (by rw [hml]; rfl) f54 (argsL := []) (rest := []) rfl (lenOf own_pd_3 rfl) rfl (by show 2 * 0 + _ ≤ _; exact Nat.le_of_eq rfl) (hb hby own_d14_23)
  obtain ⟨H69, e69⟩ : ∃ z, T69.heap = z := ⟨_, rfl⟩
  rw [e69] at Q69
  obtain ⟨rfl, Nq69, Kq69, Fp69_0, Fp69_1, Fp69_2, Fp69_3, Fp69_4, Fp69_5⟩ := Q69
  have N69 := Fr.app N47 Nq69
  have Zs69 := Nat.le_trans Zs47 Kq69.1
  have f70 := Exa.keep f48 Kq69
  have f71 := Exa.keep f54 Kq69
  have f77 := Exa.keep f60 Kq69
  have f78 := Fld.keep f61 Kq69 (ninS (Ne.symm ne_ac_lv) nin0)
  have f79 := Exa.keep f62 Kq69
  have f80 := Fld.keep f63 Kq69 (ninS (Ne.symm ne_ac_lc) nin0)
  have f82 := Fld.keep Fp47_0 Kq69 (ninS ne_a_ac nin0)
  have f83 := Fld.keep Fp47_1 Kq69 (ninS ne_a_ac nin0)
  have f84 := Fld.keep Fp47_2 Kq69 (ninS ne_a_ac nin0)
  have f85 := Fld.keep Fp47_3 Kq69 (ninS ne_a_ac nin0)
  have f86 := Fld.keep Fp47_4 Kq69 (ninS ne_a_ac nin0)
  have f87 := Fld.keep Fp47_5 Kq69 (ninS ne_a_ac nin0)
  have Q88 := HQ.keep Q66 Kq69 (allS nv_vs_ac all0)
  have Q89 := HQ.keep Q67 Kq69 (allS nv_vcl_ac all0)
  have Q90 := HQ.keep Q68 Kq69 (allS nv_vcr_ac all0)
  have K69 := K47.trans Kq69 (allS (Or.inl (List.mem_of_getElem? (i := 1) rfl)) all0)
  refine Go.s (fun {t} => st69) ?_
  refine Go.s (fun kz => XS.aloadN X69.here hx rfl (hb hby own_d14_26) rfl rfl kz) ?_
  show Go p.tables e below P (T69.setTop (mkF m 27 #[oR a, oR ac] [(.ref ac)]))
  exact Go.retR X69 hx hlk hret rfl rfl (hb hby own_d14_27) (fun U hU hF => hP U _ _ (by rw [hU, e69]; exact ⟨rfl, N69, K69, f82, f83, f84, f85, f86, f87, Fp69_0, Fp69_1, Fp69_2, Fp69_3, Fp69_4, Fp69_5⟩) ⟨hF.1, hF.2.1, hF.2.2.mono (by decide) (by decide)⟩)
theorem own_efwl (m : MethodId) (a : Addr) : entryFrame m #[(.ref a)] 2 = mkF m 0 #[oR a, oU] [] := by
  (first | (simp [entryFrame, mkF, argsToLocals, Value.category]; done) | rfl)
theorem own_d13_0 : decode prog_29_method_15_code 0 = .ok (.aload_n 0, 1) := by decide +kernel
theorem own_d13_1 : decode prog_29_method_15_code 1 = .ok (.getfield 23, 3) := by decide +kernel
theorem own_d13_4 : decode prog_29_method_15_code 4 = .ok (.astore_n 1, 1) := by decide +kernel
theorem own_d13_5 : decode prog_29_method_15_code 5 = .ok (.aload_n 0, 1) := by decide +kernel
theorem own_d13_6 : decode prog_29_method_15_code 6 = .ok (.aload_n 1, 1) := by decide +kernel
theorem own_d13_7 : decode prog_29_method_15_code 7 = .ok (.getfield 26, 3) := by decide +kernel
theorem own_d13_10 : decode prog_29_method_15_code 10 = .ok (.putfield 23, 3) := by decide +kernel
theorem own_d13_13 : decode prog_29_method_15_code 13 = .ok (.aload_n 1, 1) := by decide +kernel
theorem own_d13_14 : decode prog_29_method_15_code 14 = .ok (.aload_n 0, 1) := by decide +kernel
theorem own_d13_15 : decode prog_29_method_15_code 15 = .ok (.putfield 26, 3) := by decide +kernel
theorem own_d13_18 : decode prog_29_method_15_code 18 = .ok (.aload_n 0, 1) := by decide +kernel
theorem own_d13_19 : decode prog_29_method_15_code 19 = .ok (.invokevirtual 76, 3) := by decide +kernel
theorem own_d13_22 : decode prog_29_method_15_code 22 = .ok (.aload_n 1, 1) := by decide +kernel
theorem own_d13_23 : decode prog_29_method_15_code 23 = .ok (.invokevirtual 76, 3) := by decide +kernel
theorem own_d13_26 : decode prog_29_method_15_code 26 = .ok (.aload_n 1, 1) := by decide +kernel
theorem own_d13_27 : decode prog_29_method_15_code 27 = .ok (.areturn, 1) := by decide +kernel
set_option maxRecDepth 65536 in
set_option maxHeartbeats 40000000 in
theorem own_rmwl (l : Launch) (Z : State) (a0 : Array Value) (hw : ∀ d ∈ tables_1, d.before a0 Z = true) (ws : List Jvm.Cond) (a : Nat) (k : Int64) (lv : Nat) (ac : Nat) (vs : Value) (t0 : Int32) (q0 : Int64) (kc : Int64) (lc : Nat) (vcl : Value) (vcr : Value) (tc : Int32) (qc : Int64) (lq : Int64) (lcq : Int64) (tvs : Int32) (qvs : Int64) (tvcl : Int32) (qvcl : Int64) (tvcr : Int32) (qvcr : Int64) (h0 : Heap) (n0 : Nat) (Z0 : n0 ≤ h0.size) (HQ_vs : HQ Z h0 vs tvs qvs) (HQ_vcl : HQ Z h0 vcl tvcl qvcl) (HQ_vcr : HQ Z h0 vcr tvcr qvcr) (E_a : Exa Z h0 a oN) (G_a : n0 ≤ a) (F_a_key : Fld Z h0 a oN "key" "J" (.long k)) (F_a_level : Fld Z h0 a oN "level" oLd (.ref lv)) (F_a_left : Fld Z h0 a oN "left" oNd (.ref ac)) (F_a_right : Fld Z h0 a oN "right" oNd vs) (F_a_height : Fld Z h0 a oN "height" "I" (.int t0)) (F_a_quantity : Fld Z h0 a oN "quantity" "J" (.long q0)) (E_ac : Exa Z h0 ac oN) (G_ac : n0 ≤ ac) (F_ac_key : Fld Z h0 ac oN "key" "J" (.long kc)) (F_ac_level : Fld Z h0 ac oN "level" oLd (.ref lc)) (F_ac_left : Fld Z h0 ac oN "left" oNd vcl) (F_ac_right : Fld Z h0 ac oN "right" oNd vcr) (F_ac_height : Fld Z h0 ac oN "height" "I" (.int tc)) (F_ac_quantity : Fld Z h0 ac oN "quantity" "J" (.long qc)) (E_lv : Exa Z h0 lv oL) (G_lv : n0 ≤ lv) (F_lv_quantity : Fld Z h0 lv oL "quantity" "J" (.long lq)) (E_lc : Exa Z h0 lc oL) (G_lc : n0 ≤ lc) (F_lc_quantity : Fld Z h0 lc oL "quantity" "J" (.long lcq)) (ne_a_ac : a ≠ ac) (ne_a_lv : a ≠ lv) (ne_a_lc : a ≠ lc) (ne_ac_lv : ac ≠ lv) (ne_ac_lc : ac ≠ lc) (ne_lv_lc : lv ≠ lc) (nv_vs_a : vs ≠ .ref a) (nv_vs_ac : vs ≠ .ref ac) (nv_vs_lv : vs ≠ .ref lv) (nv_vs_lc : vs ≠ .ref lc) (nv_vcl_a : vcl ≠ .ref a) (nv_vcl_ac : vcl ≠ .ref ac) (nv_vcl_lv : vcl ≠ .ref lv) (nv_vcl_lc : vcl ≠ .ref lc) (nv_vcr_a : vcr ≠ .ref a) (nv_vcr_ac : vcr ≠ .ref ac) (nv_vcr_lv : vcr ≠ .ref lv) (nv_vcr_lc : vcr ≠ .ref lc) :
    Con l Z (⟨oT, "withLeftOnTop", "(Lcom/example/rotunda/rotunda/LevelTree$Node;)Lcom/example/rotunda/rotunda/LevelTree$Node;"⟩ : MethodName) prog_29_method_15_code 2 (some (.object oN)) ws ({ frames := 2, cells := 0, slots := 0, locals := 27 } : Room) #[(.ref a)] h0 (fun v h L => v = some (.ref ac) ∧ Fr n0 L ∧ Keep h0 h [a, ac] ∧ Fld Z h a oN "height" "I" (.int ((own_f11 tvcr tvs) + (1 : Int32))) ∧ Fld Z h a oN "key" "J" (.long k) ∧ Fld Z h a oN "left" oNd vcr ∧ Fld Z h a oN "level" oLd (.ref lv) ∧ Fld Z h a oN "quantity" "J" (.long ((qvcr + lq) + qvs)) ∧ Fld Z h a oN "right" oNd vs ∧ Fld Z h ac oN "height" "I" (.int ((own_f11 tvcl ((own_f11 tvcr tvs) + (1 : Int32))) + (1 : Int32))) ∧ Fld Z h ac oN "key" "J" (.long kc) ∧ Fld Z h ac oN "left" oNd vcl ∧ Fld Z h ac oN "level" oLd (.ref lc) ∧ Fld Z h ac oN "quantity" "J" (.long ((qvcl + lcq) + ((qvcr + lq) + qvs))) ∧ Fld Z h ac oN "right" oNd (.ref a)) := by
  refine Con.intro (plainFor_of_name own_pn_0) ?_
  intro p e s m below meth c s₁ P hx hby hml hown hnm hret hlk hZ X0 e0 hP
  have N0 := Fr.nil n0
  have hown : s.vm.findClass oT = some m.cls := hown
  refine Go.cast (own_efwl m a) ?_
  show Go p.tables e below P (s₁.setTop (mkF m 0 #[oR a, oU] []))
  refine Go.s (fun kz => XS.aloadN X0.here hx rfl (hb hby own_d13_0) rfl rfl kz) ?_
  show Go p.tables e below P (s₁.setTop (mkF m 1 #[oR a, oU] [(.ref a)]))
  obtain ⟨T1, X1, e1, st1⟩ := getF X0 hx hZ hown (host := "") (Or.inl (own_g hw 56 rfl)) Via.refl e0 F_a_left (g := (mkF m 1 #[oR a, oU] [(.ref a)])) rfl rfl (hb hby own_d13_1)
  refine Go.s (fun {t} => st1 t) ?_
  refine Go.s (fun kz => XS.astoreN X1.here hx rfl (hb hby own_d13_4) rfl rfl (l' := #[oR a, oR ac]) rfl kz) ?_
  refine Go.s (fun kz => XS.aloadN X1.here hx rfl (hb hby own_d13_5) rfl rfl kz) ?_
  refine Go.s (fun kz => XS.aloadN X1.here hx rfl (hb hby own_d13_6) rfl rfl kz) ?_
  show Go p.tables e below P (T1.setTop (mkF m 7 #[oR a, oR ac] [(.ref ac), (.ref a)]))
  obtain ⟨T2, X2, e2, st2⟩ := getF X1 hx hZ hown (host := "") (Or.inl (own_g hw 58 rfl)) Via.refl e1 F_ac_right (g := (mkF m 7 #[oR a, oR ac] [(.ref ac), (.ref a)])) rfl rfl (hb hby own_d13_7)
  refine Go.s (fun {t} => st2 t) ?_
  show Go p.tables e below P (T2.setTop (mkF m 10 #[oR a, oR ac] [vcr, (.ref a)]))
  obtain ⟨T3, H3, X3, e3, W3, st3⟩ := putF X2 hx hZ hown (host := "") (Or.inl (own_g hw 56 rfl)) Via.refl e2 F_a_left E_a (Or.inl (own_g hw 57 rfl)) (own_g hw 37 rfl) (ty := (.object oN)) (by decide) (own_nar (HQ.isRef HQ_vcr) rfl) (own_fit (HQ.isRef HQ_vcr) rfl) (g := (mkF m 10 #[oR a, oR ac] [vcr, (.ref a)])) rfl rfl (hb hby own_d13_10)
  refine Go.s (fun {t} => st3 t) ?_
  have Fw3 := Fld.same W3 F_a_left
  have f4 := Exa.wr W3 E_a
  have f5 := Fld.other W3 F_a_key (Or.inr (slot_ne (Or.inr (own_g hw 46 rfl)) (Or.inl (own_g hw 57 rfl)) (by decide) (t := .long) (t' := (.object oN)) (by decide) (by decide)))
  have f6 := Fld.other W3 F_a_level (Or.inr (slot_ne (Or.inr (own_g hw 48 rfl)) (Or.inl (own_g hw 57 rfl)) (by decide) (t := (.object oL)) (t' := (.object oN)) (by decide) (by decide)))
  have f8 := Fld.other W3 F_a_right (Or.inr (slot_ne (Or.inl (own_g hw 59 rfl)) (Or.inl (own_g hw 57 rfl)) (by decide) (t := (.object oN)) (t' := (.object oN)) (by decide) (by decide)))
  have f9 := Fld.other W3 F_a_height (Or.inr (slot_ne (Or.inl (own_g hw 44 rfl)) (Or.inl (own_g hw 57 rfl)) (by decide) (t := .int) (t' := (.object oN)) (by decide) (by decide)))
  have f10 := Fld.other W3 F_a_quantity (Or.inr (slot_ne (Or.inl (own_g hw 52 rfl)) (Or.inl (own_g hw 57 rfl)) (by decide) (t := .long) (t' := (.object oN)) (by decide) (by decide)))
  have f11 := Exa.wr W3 E_ac
  have f12 := Fld.other W3 F_ac_key (Or.inl (Ne.symm ne_a_ac))
  have f13 := Fld.other W3 F_ac_level (Or.inl (Ne.symm ne_a_ac))
  have f14 := Fld.other W3 F_ac_left (Or.inl (Ne.symm ne_a_ac))
  have f15 := Fld.other W3 F_ac_right (Or.inl (Ne.symm ne_a_ac))
  have f16 := Fld.other W3 F_ac_height (Or.inl (Ne.symm ne_a_ac))
  have f17 := Fld.other W3 F_ac_quantity (Or.inl (Ne.symm ne_a_ac))
  have f18 := Exa.wr W3 E_lv
  have f19 := Fld.other W3 F_lv_quantity (Or.inl (Ne.symm ne_a_lv))
  have f20 := Exa.wr W3 E_lc
  have f21 := Fld.other W3 F_lc_quantity (Or.inl (Ne.symm ne_a_lc))
  have Q22 := HQ.other HQ_vs W3 nv_vs_a
  have Q23 := HQ.other HQ_vcl W3 nv_vcl_a
  have Q24 := HQ.other HQ_vcr W3 nv_vcr_a
  have N3 := Fr.snoc X3 N0 G_a
  have Zs3 := Nat.le_trans Z0 (Keep.of_wr W3).1
  have K3 : Keep h0 H3 [a, ac] := (Keep.refl h0 [a, ac]).wr W3 (Or.inl (List.mem_of_getElem? (i := 0) rfl))
  refine Go.s (fun kz => XS.aloadN X3.here hx rfl (hb hby own_d13_13) rfl rfl kz) ?_
  refine Go.s (fun kz => XS.aloadN X3.here hx rfl (hb hby own_d13_14) rfl rfl kz) ?_
  show Go p.tables e below P (T3.setTop (mkF m 15 #[oR a, oR ac] [(.ref a), (.ref ac)]))
  obtain ⟨T25, H25, X25, e25, W25, st25⟩ := putF X3 hx hZ hown (host := "") (Or.inl (own_g hw 58 rfl)) Via.refl e3 f15 f11 (Or.inl (own_g hw 59 rfl)) (own_g hw 37 rfl) (ty := (.object oN)) (by decide) rfl rfl (g := (mkF m 15 #[oR a, oR ac] [(.ref a), (.ref ac)])) rfl rfl (hb hby own_d13_15)
  refine Go.s (fun {t} => st25 t) ?_
  have Fw25 := Fld.same W25 f15
  have f26 := Exa.wr W25 f4
  have f27 := Fld.other W25 f5 (Or.inl ne_a_ac)
  have f28 := Fld.other W25 f6 (Or.inl ne_a_ac)
  have f29 := Fld.other W25 f8 (Or.inl ne_a_ac)
  have f30 := Fld.other W25 f9 (Or.inl ne_a_ac)
  have f31 := Fld.other W25 f10 (Or.inl ne_a_ac)
  have f32 := Exa.wr W25 f11
  have f33 := Fld.other W25 f12 (Or.inr (slot_ne (Or.inr (own_g hw 46 rfl)) (Or.inl (own_g hw 59 rfl)) (by decide) (t := .long) (t' := (.object oN)) (by decide) (by decide)))
  have f34 := Fld.other W25 f13 (Or.inr (slot_ne (Or.inr (own_g hw 48 rfl)) (Or.inl (own_g hw 59 rfl)) (by decide) (t := (.object oL)) (t' := (.object oN)) (by decide) (by decide)))
  have f35 := Fld.other W25 f14 (Or.inr (slot_ne (Or.inl (own_g hw 57 rfl)) (Or.inl (own_g hw 59 rfl)) (by decide) (t := (.object oN)) (t' := (.object oN)) (by decide) (by decide)))
  have f37 := Fld.other W25 f16 (Or.inr (slot_ne (Or.inl (own_g hw 44 rfl)) (Or.inl (own_g hw 59 rfl)) (by decide) (t := .int) (t' := (.object oN)) (by decide) (by decide)))
  have f38 := Fld.other W25 f17 (Or.inr (slot_ne (Or.inl (own_g hw 52 rfl)) (Or.inl (own_g hw 59 rfl)) (by decide) (t := .long) (t' := (.object oN)) (by decide) (by decide)))
  have f39 := Exa.wr W25 f18
  have f40 := Fld.other W25 f19 (Or.inl (Ne.symm ne_ac_lv))
  have f41 := Exa.wr W25 f20
  have f42 := Fld.other W25 f21 (Or.inl (Ne.symm ne_ac_lc))
  have f43 := Fld.other W25 Fw3 (Or.inl ne_a_ac)
  have Q44 := HQ.other Q22 W25 nv_vs_ac
  have Q45 := HQ.other Q23 W25 nv_vcl_ac
  have Q46 := HQ.other Q24 W25 nv_vcr_ac
  have N25 := Fr.snoc X25 N3 G_ac
  have Zs25 := Nat.le_trans Zs3 (Keep.of_wr W25).1
  have K25 : Keep h0 H25 [a, ac] := K3.wr W25 (Or.inl (List.mem_of_getElem? (i := 1) rfl))
  refine Go.s (fun kz => XS.aloadN X25.here hx rfl (hb hby own_d13_18) rfl rfl kz) ?_
  show Go p.tables e below P (T25.setTop (mkF m 19 #[oR a, oR ac] [(.ref a)]))
  obtain ⟨v47, T47, L47, X47, Q47, st47⟩ := Con.virtual (own_rmme l Z a0 hw [] a k lv vcr vs t0 q0 lq tvcr qvcr tvs qvs H25 n0 Zs25 Q46 Q44 f26 G_a f27 f28 f43 f29 f30 f31 f39 G_lv f40 ne_a_lv nv_vcr_a nv_vcr_lv nv_vs_a nv_vs_lv) X25 hx hZ (W := 0) hown (own_g hw 67 rfl) (own_g hw 68 rfl) (own_g hw 70 rfl) (own_g hw 69 rfl) (own_g hw 38 rfl) (own_g hw 71 rfl) (by decide) (by decide) (by decide) (by decide) (by decide) e25 (g := (mkF m 19 #[oR a, oR ac] [(.ref a)])) rfl (by rw [hml]; rfl) f26 (argsL := []) (rest := []) rfl (lenOf own_pd_3 rfl) rfl (by show 2 * 0 + _ ≤ _; exact Nat.le_of_eq rfl) (hb hby own_d13_19)
  obtain ⟨H47, e47⟩ : ∃ z, T47.heap = z := ⟨_, rfl⟩
  rw [e47] at Q47
  obtain ⟨rfl, Nq47, Kq47, Fp47_0, Fp47_1, Fp47_2, Fp47_3, Fp47_4, Fp47_5⟩ := Q47
  have N47 := Fr.app N25 Nq47
  have Zs47 := Nat.le_trans Zs25 Kq47.1
  have f48 := Exa.keep f26 Kq47
  have f54 := Exa.keep f32 Kq47
  have f55 := Fld.keep f33 Kq47 (ninS (Ne.symm ne_a_ac) nin0)
  have f56 := Fld.keep f34 Kq47 (ninS (Ne.symm ne_a_ac) nin0)
  have f57 := Fld.keep f35 Kq47 (ninS (Ne.symm ne_a_ac) nin0)
  have f58 := Fld.keep f37 Kq47 (ninS (Ne.symm ne_a_ac) nin0)
  have f59 := Fld.keep f38 Kq47 (ninS (Ne.symm ne_a_ac) nin0)
  have f60 := Exa.keep f39 Kq47
  have f61 := Fld.keep f40 Kq47 (ninS (Ne.symm ne_a_lv) nin0)
  have f62 := Exa.keep f41 Kq47
  have f63 := Fld.keep f42 Kq47 (ninS (Ne.symm ne_a_lc) nin0)
  have f65 := Fld.keep Fw25 Kq47 (ninS (Ne.symm ne_a_ac) nin0)
  have Q66 := HQ.keep Q44 Kq47 (allS nv_vs_a all0)
  have Q67 := HQ.keep Q45 Kq47 (allS nv_vcl_a all0)
  have Q68 := HQ.keep Q46 Kq47 (allS nv_vcr_a all0)
  have K47 := K25.trans Kq47 (allS (Or.inl (List.mem_of_getElem? (i := 0) rfl)) all0)
  refine Go.s (fun {t} => st47) ?_
  refine Go.s (fun kz => XS.aloadN X47.here hx rfl (hb hby own_d13_22) rfl rfl kz) ?_
  show Go p.tables e below P (T47.setTop (mkF m 23 #[oR a, oR ac] [(.ref ac)]))
  obtain ⟨v69, T69, L69, X69, Q69, st69⟩ := Con.virtual (own_rmme l Z a0 hw [] ac kc lc vcl (.ref a) tc qc lcq tvcl qvcl ((own_f11 tvcr tvs) + (1 : Int32)) ((qvcr + lq) + qvs) H47 n0 Zs47 Q67 (Or.inr ⟨a, rfl, Fp47_0, Fp47_4⟩) f54 G_ac f55 f56 f57 f65 f58 f59 f62 G_lc f63 ne_ac_lc nv_vcl_ac nv_vcl_lc (fun q => ne_a_ac (Value.ref.inj q)) (fun q => ne_a_lc (Value.ref.inj q))) X47 hx hZ (W := 0) hown (own_g hw 67 rfl) (own_g hw 68 rfl) (own_g hw 70 rfl) (own_g hw 69 rfl) (own_g hw 38 rfl) (own_g hw 71 rfl) (by decide) (by decide) (by decide) (by decide) (by decide) e47 (g := (mkF m 23 #[oR a, oR ac] [(.ref ac)])) rfl (by rw [hml]; rfl) f54 (argsL := []) (rest := []) rfl (lenOf own_pd_3 rfl) rfl (by show 2 * 0 + _ ≤ _; exact Nat.le_of_eq rfl) (hb hby own_d13_23)
  obtain ⟨H69, e69⟩ : ∃ z, T69.heap = z := ⟨_, rfl⟩
  rw [e69] at Q69
  obtain ⟨rfl, Nq69, Kq69, Fp69_0, Fp69_1, Fp69_2, Fp69_3, Fp69_4, Fp69_5⟩ := Q69
  have N69 := Fr.app N47 Nq69
  have Zs69 := Nat.le_trans Zs47 Kq69.1
  have f70 := Exa.keep f48 Kq69
  have f71 := Exa.keep f54 Kq69
  have f77 := Exa.keep f60 Kq69
  have f78 := Fld.keep f61 Kq69 (ninS (Ne.symm ne_ac_lv) nin0)
  have f79 := Exa.keep f62 Kq69
  have f80 := Fld.keep f63 Kq69 (ninS (Ne.symm ne_ac_lc) nin0)
  have f82 := Fld.keep Fp47_0 Kq69 (ninS ne_a_ac nin0)
  have f83 := Fld.keep Fp47_1 Kq69 (ninS ne_a_ac nin0)
  have f84 := Fld.keep Fp47_2 Kq69 (ninS ne_a_ac nin0)
  have f85 := Fld.keep Fp47_3 Kq69 (ninS ne_a_ac nin0)
  have f86 := Fld.keep Fp47_4 Kq69 (ninS ne_a_ac nin0)
  have f87 := Fld.keep Fp47_5 Kq69 (ninS ne_a_ac nin0)
  have Q88 := HQ.keep Q66 Kq69 (allS nv_vs_ac all0)
  have Q89 := HQ.keep Q67 Kq69 (allS nv_vcl_ac all0)
  have Q90 := HQ.keep Q68 Kq69 (allS nv_vcr_ac all0)
  have K69 := K47.trans Kq69 (allS (Or.inl (List.mem_of_getElem? (i := 1) rfl)) all0)
  refine Go.s (fun {t} => st69) ?_
  refine Go.s (fun kz => XS.aloadN X69.here hx rfl (hb hby own_d13_26) rfl rfl kz) ?_
  show Go p.tables e below P (T69.setTop (mkF m 27 #[oR a, oR ac] [(.ref ac)]))
  exact Go.retR X69 hx hlk hret rfl rfl (hb hby own_d13_27) (fun U hU hF => hP U _ _ (by rw [hU, e69]; exact ⟨rfl, N69, K69, f82, f83, f84, f85, f86, f87, Fp69_0, Fp69_1, Fp69_2, Fp69_3, Fp69_4, Fp69_5⟩) ⟨hF.1, hF.2.1, hF.2.2.mono (by decide) (by decide)⟩)
theorem own_eflc (m : MethodId) (a : Addr) (pr : Int64) : entryFrame m #[(.ref a), (.long pr)] 3 = mkF m 0 #[oR a, oJ pr, oS] [] := by
  (first | (simp [entryFrame, mkF, argsToLocals, Value.category]; done) | rfl)
theorem own_pn_2 : plainName oL = true := by first | (simp [plainName, overriddenIn]; done) | decide +kernel
theorem own_d1_0 : decode prog_7_method_1_code 0 = .ok (.aload_n 0, 1) := by decide +kernel
theorem own_d1_1 : decode prog_7_method_1_code 1 = .ok (.invokespecial 1, 3) := by decide +kernel
theorem own_d1_4 : decode prog_7_method_1_code 4 = .ok (.aload_n 0, 1) := by decide +kernel
theorem own_d1_5 : decode prog_7_method_1_code 5 = .ok (.lload_n 1, 1) := by decide +kernel
theorem own_d1_6 : decode prog_7_method_1_code 6 = .ok (.putfield 7, 3) := by decide +kernel
theorem own_d1_9 : decode prog_7_method_1_code 9 = .ok (.return_, 1) := by decide +kernel
set_option maxRecDepth 65536 in
set_option maxHeartbeats 40000000 in
theorem own_rmlc (l : Launch) (Z : State) (a0 : Array Value) (hw : ∀ d ∈ tables_1, d.before a0 Z = true) (ws : List Jvm.Cond) (a : Nat) (pr : Int64) (h0 : Heap) (n0 : Nat) (Z0 : n0 ≤ h0.size) (E_a : Exa Z h0 a oL) (G_a : n0 ≤ a) (F_a_price : Fld Z h0 a oL "price" "J" (.long (0 : Int64))) (F_a_quantity : Fld Z h0 a oL "quantity" "J" (.long (0 : Int64))) :
    Con l Z (⟨oL, "<init>", "(J)V"⟩ : MethodName) prog_7_method_1_code 3 none ws ({ frames := 1, cells := 0, slots := 0, locals := 12 } : Room) #[(.ref a), (.long pr)] h0 (fun v h L => v = none ∧ Fr n0 L ∧ Keep h0 h [a] ∧ Fld Z h a oL "price" "J" (.long pr) ∧ Fld Z h a oL "quantity" "J" (.long (0 : Int64))) := by
  refine Con.intro (plainFor_of_name own_pn_2) ?_
  intro p e s m below meth c s₁ P hx hby hml hown hnm hret hlk hZ X0 e0 hP
  have N0 := Fr.nil n0
  have hown : s.vm.findClass oL = some m.cls := hown
  refine Go.cast (own_eflc m a pr) ?_
  show Go p.tables e below P (s₁.setTop (mkF m 0 #[oR a, oJ pr, oS] []))
  refine Go.s (fun kz => XS.aloadN X0.here hx rfl (hb hby own_d1_0) rfl rfl kz) ?_
  show Go p.tables e below P (s₁.setTop (mkF m 1 #[oR a, oJ pr, oS] [(.ref a)]))
  obtain ⟨T1, X1, e1, st1⟩ := initO X0 hx hZ hown (own_g hw 6 rfl) (own_g hw 7 rfl) (own_g hw 8 rfl) e0 (g := (mkF m 1 #[oR a, oJ pr, oS] [(.ref a)])) rfl (by rw [hml]; rfl) rfl (hb hby own_d1_1) (by decide) (W := 0) (by show 2 * 0 + _ ≤ _; exact Nat.le_of_eq rfl) (by decide)
  refine Go.s (fun {t} => st1 t) ?_
  refine Go.s (fun kz => XS.aloadN X1.here hx rfl (hb hby own_d1_4) rfl rfl kz) ?_
  refine Go.s (fun kz => XT.lloadN X1.here hx rfl (hb hby own_d1_5) rfl kz) ?_
  show Go p.tables e below P (T1.setTop (mkF m 6 #[oR a, oJ pr, oS] [(.long pr), (.ref a)]))
  obtain ⟨T2, H2, X2, e2, W2, st2⟩ := putF X1 hx hZ hown (host := "") (Or.inl (own_g hw 9 rfl)) Via.refl e1 F_a_price E_a (Or.inl (own_g hw 10 rfl)) (own_g hw 1 rfl) (ty := .long) (by decide) rfl rfl (g := (mkF m 6 #[oR a, oJ pr, oS] [(.long pr), (.ref a)])) rfl rfl (hb hby own_d1_6)
  refine Go.s (fun {t} => st2 t) ?_
  have Fw2 := Fld.same W2 F_a_price
  have f3 := Exa.wr W2 E_a
  have f5 := Fld.other W2 F_a_quantity (Or.inr (slot_ne (Or.inl (own_g hw 50 rfl)) (Or.inl (own_g hw 10 rfl)) (by decide) (t := .long) (t' := .long) (by decide) (by decide)))
  have N2 := Fr.snoc X2 N0 G_a
  have Zs2 := Nat.le_trans Z0 (Keep.of_wr W2).1
  have K2 : Keep h0 H2 [a] := (Keep.refl h0 [a]).wr W2 (Or.inl (List.mem_of_getElem? (i := 0) rfl))
  show Go p.tables e below P (T2.setTop (mkF m 9 #[oR a, oJ pr, oS] []))
  exact Go.retV X2 hx hlk hret (hb hby own_d1_9) (fun U hU hF => hP U _ _ (by rw [hU, e2]; exact ⟨rfl, N2, K2, Fw2, f5⟩) ⟨hF.1, hF.2.1, hF.2.2.mono (by decide) (by decide)⟩)
theorem own_eftc (m : MethodId) (a : Addr) : entryFrame m #[(.ref a)] 1 = mkF m 0 #[oR a] [] := by
  (first | (simp [entryFrame, mkF, argsToLocals, Value.category]; done) | rfl)
theorem own_d3_0 : decode prog_29_method_1_code 0 = .ok (.aload_n 0, 1) := by decide +kernel
theorem own_d3_1 : decode prog_29_method_1_code 1 = .ok (.invokespecial 1, 3) := by decide +kernel
theorem own_d3_4 : decode prog_29_method_1_code 4 = .ok (.return_, 1) := by decide +kernel
set_option maxRecDepth 65536 in
set_option maxHeartbeats 40000000 in
theorem own_rmtc (l : Launch) (Z : State) (a0 : Array Value) (hw : ∀ d ∈ tables_1, d.before a0 Z = true) (ws : List Jvm.Cond) (a : Nat) (h0 : Heap) (n0 : Nat) (Z0 : n0 ≤ h0.size) (E_a : Exa Z h0 a oT) (G_a : n0 ≤ a) (F_a_root : Fld Z h0 a oT "root" oNd .null) (F_a_size : Fld Z h0 a oT "size" "I" (.int (0 : Int32))) :
    Con l Z (⟨oT, "<init>", "()V"⟩ : MethodName) prog_29_method_1_code 1 none ws ({ frames := 1, cells := 0, slots := 0, locals := 12 } : Room) #[(.ref a)] h0 (fun v h L => v = none ∧ Fr n0 L ∧ Keep h0 h []) := by
  refine Con.intro (plainFor_of_name own_pn_0) ?_
  intro p e s m below meth c s₁ P hx hby hml hown hnm hret hlk hZ X0 e0 hP
  have N0 := Fr.nil n0
  have hown : s.vm.findClass oT = some m.cls := hown
  refine Go.cast (own_eftc m a) ?_
  show Go p.tables e below P (s₁.setTop (mkF m 0 #[oR a] []))
  refine Go.s (fun kz => XS.aloadN X0.here hx rfl (hb hby own_d3_0) rfl rfl kz) ?_
  show Go p.tables e below P (s₁.setTop (mkF m 1 #[oR a] [(.ref a)]))
  obtain ⟨T1, X1, e1, st1⟩ := initO X0 hx hZ hown (own_g hw 20 rfl) (own_g hw 7 rfl) (own_g hw 8 rfl) e0 (g := (mkF m 1 #[oR a] [(.ref a)])) rfl (by rw [hml]; rfl) rfl (hb hby own_d3_1) (by decide) (W := 0) (by show 2 * 0 + _ ≤ _; exact Nat.le_of_eq rfl) (by decide)
  refine Go.s (fun {t} => st1 t) ?_
  show Go p.tables e below P (T1.setTop (mkF m 4 #[oR a] []))
  exact Go.retV X1 hx hlk hret (hb hby own_d3_4) (fun U hU hF => hP U _ _ (by rw [hU, e1]; exact ⟨rfl, N0, (Keep.refl h0 [])⟩) ⟨hF.1, hF.2.1, hF.2.2.mono (by decide) (by decide)⟩)
theorem own_efnc (m : MethodId) (a : Addr) (key : Int64) (lv : Addr) : entryFrame m #[(.ref a), (.long key), (.ref lv)] 4 = mkF m 0 #[oR a, oJ key, oS, oR lv] [] := by
  (first | (simp [entryFrame, mkF, argsToLocals, Value.category]; done) | rfl)
theorem own_d7_0 : decode prog_31_method_1_code 0 = .ok (.aload_n 0, 1) := by decide +kernel
theorem own_d7_1 : decode prog_31_method_1_code 1 = .ok (.invokespecial 1, 3) := by decide +kernel
theorem own_d7_4 : decode prog_31_method_1_code 4 = .ok (.aload_n 0, 1) := by decide +kernel
theorem own_d7_5 : decode prog_31_method_1_code 5 = .ok (.iconst 1, 1) := by decide +kernel
theorem own_d7_6 : decode prog_31_method_1_code 6 = .ok (.putfield 7, 3) := by decide +kernel
theorem own_d7_9 : decode prog_31_method_1_code 9 = .ok (.aload_n 0, 1) := by decide +kernel
theorem own_d7_10 : decode prog_31_method_1_code 10 = .ok (.lload_n 1, 1) := by decide +kernel
theorem own_d7_11 : decode prog_31_method_1_code 11 = .ok (.putfield 13, 3) := by decide +kernel
theorem own_d7_14 : decode prog_31_method_1_code 14 = .ok (.aload_n 0, 1) := by decide +kernel
theorem own_d7_15 : decode prog_31_method_1_code 15 = .ok (.aload_n 3, 1) := by decide +kernel
theorem own_d7_16 : decode prog_31_method_1_code 16 = .ok (.putfield 17, 3) := by decide +kernel
theorem own_d7_19 : decode prog_31_method_1_code 19 = .ok (.aload_n 0, 1) := by decide +kernel
theorem own_d7_20 : decode prog_31_method_1_code 20 = .ok (.aload_n 3, 1) := by decide +kernel
theorem own_d7_21 : decode prog_31_method_1_code 21 = .ok (.getfield 21, 3) := by decide +kernel
theorem own_d7_24 : decode prog_31_method_1_code 24 = .ok (.putfield 26, 3) := by decide +kernel
theorem own_d7_27 : decode prog_31_method_1_code 27 = .ok (.return_, 1) := by decide +kernel
set_option maxRecDepth 65536 in
set_option maxHeartbeats 40000000 in
theorem own_rmnc (l : Launch) (Z : State) (a0 : Array Value) (hw : ∀ d ∈ tables_1, d.before a0 Z = true) (ws : List Jvm.Cond) (a : Nat) (key : Int64) (lv : Nat) (lq : Int64) (h0 : Heap) (n0 : Nat) (Z0 : n0 ≤ h0.size) (E_a : Exa Z h0 a oN) (G_a : n0 ≤ a) (F_a_key : Fld Z h0 a oN "key" "J" (.long (0 : Int64))) (F_a_level : Fld Z h0 a oN "level" oLd .null) (F_a_left : Fld Z h0 a oN "left" oNd .null) (F_a_right : Fld Z h0 a oN "right" oNd .null) (F_a_height : Fld Z h0 a oN "height" "I" (.int (0 : Int32))) (F_a_quantity : Fld Z h0 a oN "quantity" "J" (.long (0 : Int64))) (E_lv : Exa Z h0 lv oL) (G_lv : n0 ≤ lv) (F_lv_quantity : Fld Z h0 lv oL "quantity" "J" (.long lq)) (ne_a_lv : a ≠ lv) :
    Con l Z (⟨oN, "<init>", "(JLcom/example/rotunda/rotunda/BookSide$Level;)V"⟩ : MethodName) prog_31_method_1_code 4 none ws ({ frames := 1, cells := 0, slots := 0, locals := 12 } : Room) #[(.ref a), (.long key), (.ref lv)] h0 (fun v h L => v = none ∧ Fr n0 L ∧ Keep h0 h [a] ∧ Fld Z h a oN "height" "I" (.int (1 : Int32)) ∧ Fld Z h a oN "key" "J" (.long key) ∧ Fld Z h a oN "left" oNd .null ∧ Fld Z h a oN "level" oLd (.ref lv) ∧ Fld Z h a oN "quantity" "J" (.long lq) ∧ Fld Z h a oN "right" oNd .null) := by
  refine Con.intro (plainFor_of_name own_pn_1) ?_
  intro p e s m below meth c s₁ P hx hby hml hown hnm hret hlk hZ X0 e0 hP
  have N0 := Fr.nil n0
  have hown : s.vm.findClass oN = some m.cls := hown
  refine Go.cast (own_efnc m a key lv) ?_
  show Go p.tables e below P (s₁.setTop (mkF m 0 #[oR a, oJ key, oS, oR lv] []))
  refine Go.s (fun kz => XS.aloadN X0.here hx rfl (hb hby own_d7_0) rfl rfl kz) ?_
  show Go p.tables e below P (s₁.setTop (mkF m 1 #[oR a, oJ key, oS, oR lv] [(.ref a)]))
  obtain ⟨T1, X1, e1, st1⟩ := initO X0 hx hZ hown (own_g hw 42 rfl) (own_g hw 7 rfl) (own_g hw 8 rfl) e0 (g := (mkF m 1 #[oR a, oJ key, oS, oR lv] [(.ref a)])) rfl (by rw [hml]; rfl) rfl (hb hby own_d7_1) (by decide) (W := 0) (by show 2 * 0 + _ ≤ _; exact Nat.le_of_eq rfl) (by decide)
  refine Go.s (fun {t} => st1 t) ?_
  refine Go.s (fun kz => XS.aloadN X1.here hx rfl (hb hby own_d7_4) rfl rfl kz) ?_
  refine Go.s (fun kz => XS.iconst X1.here hx rfl (hb hby own_d7_5) kz) ?_
  show Go p.tables e below P (T1.setTop (mkF m 6 #[oR a, oJ key, oS, oR lv] [(.int (1 : Int32)), (.ref a)]))
  obtain ⟨T2, H2, X2, e2, W2, st2⟩ := putF X1 hx hZ hown (host := "") (Or.inl (own_g hw 43 rfl)) Via.refl e1 F_a_height E_a (Or.inl (own_g hw 44 rfl)) (own_g hw 37 rfl) (ty := .int) (by decide) rfl rfl (g := (mkF m 6 #[oR a, oJ key, oS, oR lv] [(.int (1 : Int32)), (.ref a)])) rfl rfl (hb hby own_d7_6)
  refine Go.s (fun {t} => st2 t) ?_
  have Fw2 := Fld.same W2 F_a_height
  have f3 := Exa.wr W2 E_a
  have f4 := Fld.other W2 F_a_key (Or.inr (slot_ne (Or.inr (own_g hw 46 rfl)) (Or.inl (own_g hw 44 rfl)) (by decide) (t := .long) (t' := .int) (by decide) (by decide)))
  have f5 := Fld.other W2 F_a_level (Or.inr (slot_ne (Or.inr (own_g hw 48 rfl)) (Or.inl (own_g hw 44 rfl)) (by decide) (t := (.object oL)) (t' := .int) (by decide) (by decide)))
  have f6 := Fld.other W2 F_a_left (Or.inr (slot_ne (Or.inl (own_g hw 57 rfl)) (Or.inl (own_g hw 44 rfl)) (by decide) (t := (.object oN)) (t' := .int) (by decide) (by decide)))
  have f7 := Fld.other W2 F_a_right (Or.inr (slot_ne (Or.inl (own_g hw 59 rfl)) (Or.inl (own_g hw 44 rfl)) (by decide) (t := (.object oN)) (t' := .int) (by decide) (by decide)))
  have f9 := Fld.other W2 F_a_quantity (Or.inr (slot_ne (Or.inl (own_g hw 52 rfl)) (Or.inl (own_g hw 44 rfl)) (by decide) (t := .long) (t' := .int) (by decide) (by decide)))
  have f10 := Exa.wr W2 E_lv
  have f11 := Fld.other W2 F_lv_quantity (Or.inl (Ne.symm ne_a_lv))
  have N2 := Fr.snoc X2 N0 G_a
  have Zs2 := Nat.le_trans Z0 (Keep.of_wr W2).1
  have K2 : Keep h0 H2 [a] := (Keep.refl h0 [a]).wr W2 (Or.inl (List.mem_of_getElem? (i := 0) rfl))
  refine Go.s (fun kz => XS.aloadN X2.here hx rfl (hb hby own_d7_9) rfl rfl kz) ?_
  refine Go.s (fun kz => XT.lloadN X2.here hx rfl (hb hby own_d7_10) rfl kz) ?_
  show Go p.tables e below P (T2.setTop (mkF m 11 #[oR a, oJ key, oS, oR lv] [(.long key), (.ref a)]))
  obtain ⟨T12, H12, X12, e12, W12, st12⟩ := putF X2 hx hZ hown (host := "") (Or.inl (own_g hw 45 rfl)) Via.refl e2 f4 f3 (Or.inr ⟨(own_g hw 46 rfl), rfl, hnm⟩) (own_g hw 37 rfl) (ty := .long) (by decide) rfl rfl (g := (mkF m 11 #[oR a, oJ key, oS, oR lv] [(.long key), (.ref a)])) rfl rfl (hb hby own_d7_11)
  refine Go.s (fun {t} => st12 t) ?_
  have Fw12 := Fld.same W12 f4
  have f13 := Exa.wr W12 f3
  have f15 := Fld.other W12 f5 (Or.inr (slot_ne (Or.inr (own_g hw 48 rfl)) (Or.inr (own_g hw 46 rfl)) (by decide) (t := (.object oL)) (t' := .long) (by decide) (by decide)))
  have f16 := Fld.other W12 f6 (Or.inr (slot_ne (Or.inl (own_g hw 57 rfl)) (Or.inr (own_g hw 46 rfl)) (by decide) (t := (.object oN)) (t' := .long) (by decide) (by decide)))
  have f17 := Fld.other W12 f7 (Or.inr (slot_ne (Or.inl (own_g hw 59 rfl)) (Or.inr (own_g hw 46 rfl)) (by decide) (t := (.object oN)) (t' := .long) (by decide) (by decide)))
  have f18 := Fld.other W12 f9 (Or.inr (slot_ne (Or.inl (own_g hw 52 rfl)) (Or.inr (own_g hw 46 rfl)) (by decide) (t := .long) (t' := .long) (by decide) (by decide)))
  have f19 := Exa.wr W12 f10
  have f20 := Fld.other W12 f11 (Or.inl (Ne.symm ne_a_lv))
  have f21 := Fld.other W12 Fw2 (Or.inr (slot_ne (Or.inl (own_g hw 44 rfl)) (Or.inr (own_g hw 46 rfl)) (by decide) (t := .int) (t' := .long) (by decide) (by decide)))
  have N12 := Fr.snoc X12 N2 G_a
  have Zs12 := Nat.le_trans Zs2 (Keep.of_wr W12).1
  have K12 : Keep h0 H12 [a] := K2.wr W12 (Or.inl (List.mem_of_getElem? (i := 0) rfl))
  refine Go.s (fun kz => XS.aloadN X12.here hx rfl (hb hby own_d7_14) rfl rfl kz) ?_
  refine Go.s (fun kz => XS.aloadN X12.here hx rfl (hb hby own_d7_15) rfl rfl kz) ?_
  show Go p.tables e below P (T12.setTop (mkF m 16 #[oR a, oJ key, oS, oR lv] [(.ref lv), (.ref a)]))
  obtain ⟨T22, H22, X22, e22, W22, st22⟩ := putF X12 hx hZ hown (host := "") (Or.inl (own_g hw 47 rfl)) Via.refl e12 f15 f13 (Or.inr ⟨(own_g hw 48 rfl), rfl, hnm⟩) (own_g hw 37 rfl) (ty := (.object oL)) (by decide) rfl rfl (g := (mkF m 16 #[oR a, oJ key, oS, oR lv] [(.ref lv), (.ref a)])) rfl rfl (hb hby own_d7_16)
  refine Go.s (fun {t} => st22 t) ?_
  have Fw22 := Fld.same W22 f15
  have f23 := Exa.wr W22 f13
  have f25 := Fld.other W22 f16 (Or.inr (slot_ne (Or.inl (own_g hw 57 rfl)) (Or.inr (own_g hw 48 rfl)) (by decide) (t := (.object oN)) (t' := (.object oL)) (by decide) (by decide)))
  have f26 := Fld.other W22 f17 (Or.inr (slot_ne (Or.inl (own_g hw 59 rfl)) (Or.inr (own_g hw 48 rfl)) (by decide) (t := (.object oN)) (t' := (.object oL)) (by decide) (by decide)))
  have f27 := Fld.other W22 f18 (Or.inr (slot_ne (Or.inl (own_g hw 52 rfl)) (Or.inr (own_g hw 48 rfl)) (by decide) (t := .long) (t' := (.object oL)) (by decide) (by decide)))
  have f28 := Exa.wr W22 f19
  have f29 := Fld.other W22 f20 (Or.inl (Ne.symm ne_a_lv))
  have f30 := Fld.other W22 f21 (Or.inr (slot_ne (Or.inl (own_g hw 44 rfl)) (Or.inr (own_g hw 48 rfl)) (by decide) (t := .int) (t' := (.object oL)) (by decide) (by decide)))
  have f31 := Fld.other W22 Fw12 (Or.inr (slot_ne (Or.inr (own_g hw 46 rfl)) (Or.inr (own_g hw 48 rfl)) (by decide) (t := .long) (t' := (.object oL)) (by decide) (by decide)))
  have N22 := Fr.snoc X22 N12 G_a
  have Zs22 := Nat.le_trans Zs12 (Keep.of_wr W22).1
  have K22 : Keep h0 H22 [a] := K12.wr W22 (Or.inl (List.mem_of_getElem? (i := 0) rfl))
  refine Go.s (fun kz => XS.aloadN X22.here hx rfl (hb hby own_d7_19) rfl rfl kz) ?_
  refine Go.s (fun kz => XS.aloadN X22.here hx rfl (hb hby own_d7_20) rfl rfl kz) ?_
  show Go p.tables e below P (T22.setTop (mkF m 21 #[oR a, oJ key, oS, oR lv] [(.ref lv), (.ref a)]))
  obtain ⟨T32, X32, e32, st32⟩ := getF X22 hx hZ hown (host := "") (Or.inl (own_g hw 49 rfl)) Via.refl e22 f29 (g := (mkF m 21 #[oR a, oJ key, oS, oR lv] [(.ref lv), (.ref a)])) rfl rfl (hb hby own_d7_21)
  refine Go.s (fun {t} => st32 t) ?_
  show Go p.tables e below P (T32.setTop (mkF m 24 #[oR a, oJ key, oS, oR lv] [(.long lq), (.ref a)]))
  obtain ⟨T33, H33, X33, e33, W33, st33⟩ := putF X32 hx hZ hown (host := "") (Or.inl (own_g hw 51 rfl)) Via.refl e32 f27 f23 (Or.inl (own_g hw 52 rfl)) (own_g hw 37 rfl) (ty := .long) (by decide) rfl rfl (g := (mkF m 24 #[oR a, oJ key, oS, oR lv] [(.long lq), (.ref a)])) rfl rfl (hb hby own_d7_24)
  refine Go.s (fun {t} => st33 t) ?_
  have Fw33 := Fld.same W33 f27
  have f34 := Exa.wr W33 f23
  have f35 := Fld.other W33 f25 (Or.inr (slot_ne (Or.inl (own_g hw 57 rfl)) (Or.inl (own_g hw 52 rfl)) (by decide) (t := (.object oN)) (t' := .long) (by decide) (by decide)))
  have f36 := Fld.other W33 f26 (Or.inr (slot_ne (Or.inl (own_g hw 59 rfl)) (Or.inl (own_g hw 52 rfl)) (by decide) (t := (.object oN)) (t' := .long) (by decide) (by decide)))
  have f38 := Exa.wr W33 f28
  have f39 := Fld.other W33 f29 (Or.inl (Ne.symm ne_a_lv))
  have f40 := Fld.other W33 f30 (Or.inr (slot_ne (Or.inl (own_g hw 44 rfl)) (Or.inl (own_g hw 52 rfl)) (by decide) (t := .int) (t' := .long) (by decide) (by decide)))
  have f41 := Fld.other W33 f31 (Or.inr (slot_ne (Or.inr (own_g hw 46 rfl)) (Or.inl (own_g hw 52 rfl)) (by decide) (t := .long) (t' := .long) (by decide) (by decide)))
  have f42 := Fld.other W33 Fw22 (Or.inr (slot_ne (Or.inr (own_g hw 48 rfl)) (Or.inl (own_g hw 52 rfl)) (by decide) (t := (.object oL)) (t' := .long) (by decide) (by decide)))
  have N33 := Fr.snoc X33 N22 G_a
  have Zs33 := Nat.le_trans Zs22 (Keep.of_wr W33).1
  have K33 : Keep h0 H33 [a] := K22.wr W33 (Or.inl (List.mem_of_getElem? (i := 0) rfl))
  show Go p.tables e below P (T33.setTop (mkF m 27 #[oR a, oJ key, oS, oR lv] []))
  exact Go.retV X33 hx hlk hret (hb hby own_d7_27) (fun U hU hF => hP U _ _ (by rw [hU, e33]; exact ⟨rfl, N33, K33, f40, f41, f35, f42, Fw33, f36⟩) ⟨hF.1, hF.2.1, hF.2.2.mono (by decide) (by decide)⟩)
theorem own_efbn (m : MethodId) (a : Addr) : entryFrame m #[(.ref a)] 3 = mkF m 0 #[oR a, oU, oU] [] := by
  (first | (simp [entryFrame, mkF, argsToLocals, Value.category]; done) | rfl)
theorem own_d8_0 : decode prog_29_method_14_code 0 = .ok (.aload_n 0, 1) := by decide +kernel
theorem own_d8_1 : decode prog_29_method_14_code 1 = .ok (.getfield 23, 3) := by decide +kernel
theorem own_d8_4 : decode prog_29_method_14_code 4 = .ok (.invokestatic 66, 3) := by decide +kernel
theorem own_d8_7 : decode prog_29_method_14_code 7 = .ok (.aload_n 0, 1) := by decide +kernel
theorem own_d8_8 : decode prog_29_method_14_code 8 = .ok (.getfield 26, 3) := by decide +kernel
theorem own_d8_11 : decode prog_29_method_14_code 11 = .ok (.invokestatic 66, 3) := by decide +kernel
theorem own_d8_14 : decode prog_29_method_14_code 14 = .ok (.isub, 1) := by decide +kernel
theorem own_d8_15 : decode prog_29_method_14_code 15 = .ok (.istore_n 1, 1) := by decide +kernel
theorem own_d8_16 : decode prog_29_method_14_code 16 = .ok (.iload_n 1, 1) := by decide +kernel
theorem own_d8_17 : decode prog_29_method_14_code 17 = .ok (.iconst 1, 1) := by decide +kernel
theorem own_d8_18 : decode prog_29_method_14_code 18 = .ok (.if_icmp .le 45, 3) := by decide +kernel
theorem own_d8_63 : decode prog_29_method_14_code 63 = .ok (.iload_n 1, 1) := by decide +kernel
theorem own_d8_64 : decode prog_29_method_14_code 64 = .ok (.iconst (-1), 1) := by decide +kernel
theorem own_d8_65 : decode prog_29_method_14_code 65 = .ok (.if_icmp .ge 45, 3) := by decide +kernel
theorem own_d8_110 : decode prog_29_method_14_code 110 = .ok (.aload_n 0, 1) := by decide +kernel
theorem own_d8_111 : decode prog_29_method_14_code 111 = .ok (.invokevirtual 76, 3) := by decide +kernel
theorem own_d8_114 : decode prog_29_method_14_code 114 = .ok (.aload_n 0, 1) := by decide +kernel
theorem own_d8_115 : decode prog_29_method_14_code 115 = .ok (.astore_n 2, 1) := by decide +kernel
theorem own_d8_116 : decode prog_29_method_14_code 116 = .ok (.aload_n 2, 1) := by decide +kernel
theorem own_d8_117 : decode prog_29_method_14_code 117 = .ok (.areturn, 1) := by decide +kernel
set_option maxRecDepth 65536 in
set_option maxHeartbeats 40000000 in
theorem own_rmbn (l : Launch) (Z : State) (a0 : Array Value) (hw : ∀ d ∈ tables_1, d.before a0 Z = true) (ws : List Jvm.Cond) (a : Nat) (ka : Int64) (la : Nat) (vl : Value) (vr : Value) (ta : Int32) (qa : Int64) (wa : Int64) (tvl : Int32) (qvl : Int64) (tvr : Int32) (qvr : Int64) (h0 : Heap) (n0 : Nat) (Z0 : n0 ≤ h0.size) (HQ_vl : HQ Z h0 vl tvl qvl) (HQ_vr : HQ Z h0 vr tvr qvr) (E_a : Exa Z h0 a oN) (G_a : n0 ≤ a) (F_a_key : Fld Z h0 a oN "key" "J" (.long ka)) (F_a_level : Fld Z h0 a oN "level" oLd (.ref la)) (F_a_left : Fld Z h0 a oN "left" oNd vl) (F_a_right : Fld Z h0 a oN "right" oNd vr) (F_a_height : Fld Z h0 a oN "height" "I" (.int ta)) (F_a_quantity : Fld Z h0 a oN "quantity" "J" (.long qa)) (E_la : Exa Z h0 la oL) (G_la : n0 ≤ la) (F_la_quantity : Fld Z h0 la oL "quantity" "J" (.long wa)) (ne_a_la : a ≠ la) (nv_vl_a : vl ≠ .ref a) (nv_vl_la : vl ≠ .ref la) (nv_vr_a : vr ≠ .ref a) (nv_vr_la : vr ≠ .ref la) (hb1 : ¬ (1 : Int32) < (tvl - tvr)) (hb2 : ¬ (tvl - tvr) < (-1 : Int32)) :
    Con l Z (⟨oT, "balanced", "(Lcom/example/rotunda/rotunda/LevelTree$Node;)Lcom/example/rotunda/rotunda/LevelTree$Node;"⟩ : MethodName) prog_29_method_14_code 3 (some (.object oN)) ws ({ frames := 2, cells := 0, slots := 0, locals := 27 } : Room) #[(.ref a)] h0 (fun v h L => v = some (.ref a) ∧ Fr n0 L ∧ Keep h0 h [a] ∧ Fld Z h a oN "height" "I" (.int ((own_f11 tvl tvr) + (1 : Int32))) ∧ Fld Z h a oN "key" "J" (.long ka) ∧ Fld Z h a oN "left" oNd vl ∧ Fld Z h a oN "level" oLd (.ref la) ∧ Fld Z h a oN "quantity" "J" (.long ((qvl + wa) + qvr)) ∧ Fld Z h a oN "right" oNd vr) := by
  refine Con.intro (plainFor_of_name own_pn_0) ?_
  intro p e s m below meth c s₁ P hx hby hml hown hnm hret hlk hZ X0 e0 hP
  have N0 := Fr.nil n0
  have hown : s.vm.findClass oT = some m.cls := hown
  refine Go.cast (own_efbn m a) ?_
  show Go p.tables e below P (s₁.setTop (mkF m 0 #[oR a, oU, oU] []))
  refine Go.s (fun kz => XS.aloadN X0.here hx rfl (hb hby own_d8_0) rfl rfl kz) ?_
  show Go p.tables e below P (s₁.setTop (mkF m 1 #[oR a, oU, oU] [(.ref a)]))
  obtain ⟨T1, X1, e1, st1⟩ := getF X0 hx hZ hown (host := "") (Or.inl (own_g hw 56 rfl)) Via.refl e0 F_a_left (g := (mkF m 1 #[oR a, oU, oU] [(.ref a)])) rfl rfl (hb hby own_d8_1)
  refine Go.s (fun {t} => st1 t) ?_
  show Go p.tables e below P (T1.setTop (mkF m 4 #[oR a, oU, oU] [vl]))
  obtain ⟨v2, T2, L2, X2, Q2, st2⟩ := Con.static (own_rm9 l Z a0 hw [] vl tvl qvl h0 n0 Z0 HQ_vl) X1 hx hZ (W := 0) hown (own_g hw 63 rfl) (own_g hw 64 rfl) (own_g hw 16 rfl) (own_g hw 65 rfl) (by decide) (by decide) (by decide) (by decide) (by decide) e1 (g := (mkF m 4 #[oR a, oU, oU] [vl])) rfl (by rw [hml]; rfl) (argsL := [vl]) (rest := []) rfl (lenOf own_pd_0 rfl) rfl (by show 2 * 0 + _ ≤ _; exact Nat.le_of_eq rfl) (hb hby own_d8_4)
  obtain ⟨rfl, Nq2, e2⟩ := Q2
  have N2 := Fr.app N0 Nq2
  refine Go.s (fun {t} => st2) ?_
  refine Go.s (fun kz => XS.aloadN X2.here hx rfl (hb hby own_d8_7) rfl rfl kz) ?_
  show Go p.tables e below P (T2.setTop (mkF m 8 #[oR a, oU, oU] [(.ref a), (.int tvl)]))
  obtain ⟨T3, X3, e3, st3⟩ := getF X2 hx hZ hown (host := "") (Or.inl (own_g hw 58 rfl)) Via.refl e2 F_a_right (g := (mkF m 8 #[oR a, oU, oU] [(.ref a), (.int tvl)])) rfl rfl (hb hby own_d8_8)
  refine Go.s (fun {t} => st3 t) ?_
  show Go p.tables e below P (T3.setTop (mkF m 11 #[oR a, oU, oU] [vr, (.int tvl)]))
  obtain ⟨v4, T4, L4, X4, Q4, st4⟩ := Con.static (own_rm9 l Z a0 hw [] vr tvr qvr h0 n0 Z0 HQ_vr) X3 hx hZ (W := 1) hown (own_g hw 63 rfl) (own_g hw 64 rfl) (own_g hw 16 rfl) (own_g hw 65 rfl) (by decide) (by decide) (by decide) (by decide) (by decide) e3 (g := (mkF m 11 #[oR a, oU, oU] [vr, (.int tvl)])) rfl (by rw [hml]; rfl) (argsL := [vr]) (rest := [(.int tvl)]) rfl (lenOf own_pd_0 rfl) rfl (by show 2 * 0 + _ ≤ _; exact Nat.le_of_eq rfl) (hb hby own_d8_11)
  obtain ⟨rfl, Nq4, e4⟩ := Q4
  have N4 := Fr.app N2 Nq4
  refine Go.s (fun {t} => st4) ?_
  refine Go.s (fun kz => XS.isub X4.here hx rfl (hb hby own_d8_14) rfl kz) ?_
  refine Go.s (fun kz => XS.istoreN X4.here hx rfl (hb hby own_d8_15) rfl (l' := #[oR a, oI (tvl - tvr), oU]) rfl kz) ?_
  refine Go.s (fun kz => XS.iloadN X4.here hx rfl (hb hby own_d8_16) rfl kz) ?_
  show Go p.tables e below P (T4.setTop (mkF m 17 #[oR a, oI (tvl - tvr), oU] [(.int (tvl - tvr))]))
  refine Go.s (fun kz => XS.iconst X4.here hx rfl (hb hby own_d8_17) kz) ?_
  show Go p.tables e below P (T4.setTop (mkF m 18 #[oR a, oI (tvl - tvr), oU] [(.int (1 : Int32)), (.int (tvl - tvr))]))
  refine Go.s (fun kz => XS.icmpYes X4.here hx rfl (pc0 := 18) (pc' := 63) rfl (hb hby own_d8_18) rfl (XT.ii_le_t hb1) (by decide) (by decide) kz) ?_
  show Go p.tables e below P (T4.setTop (mkF m 63 #[oR a, oI (tvl - tvr), oU] []))
  refine Go.s (fun kz => XS.iloadN X4.here hx rfl (hb hby own_d8_63) rfl kz) ?_
  refine Go.s (fun kz => XS.iconst X4.here hx rfl (hb hby own_d8_64) kz) ?_
  show Go p.tables e below P (T4.setTop (mkF m 65 #[oR a, oI (tvl - tvr), oU] [(.int (-1 : Int32)), (.int (tvl - tvr))]))
  refine Go.s (fun kz => XS.icmpYes X4.here hx rfl (pc0 := 65) (pc' := 110) rfl (hb hby own_d8_65) rfl (XT.ii_ge_t hb2) (by decide) (by decide) kz) ?_
  show Go p.tables e below P (T4.setTop (mkF m 110 #[oR a, oI (tvl - tvr), oU] []))
  refine Go.s (fun kz => XS.aloadN X4.here hx rfl (hb hby own_d8_110) rfl rfl kz) ?_
  show Go p.tables e below P (T4.setTop (mkF m 111 #[oR a, oI (tvl - tvr), oU] [(.ref a)]))
  obtain ⟨v5, T5, L5, X5, Q5, st5⟩ := Con.virtual (own_rmme l Z a0 hw [] a ka la vl vr ta qa wa tvl qvl tvr qvr h0 n0 Z0 HQ_vl HQ_vr E_a G_a F_a_key F_a_level F_a_left F_a_right F_a_height F_a_quantity E_la G_la F_la_quantity ne_a_la nv_vl_a nv_vl_la nv_vr_a nv_vr_la) X4 hx hZ (W := 0) hown (own_g hw 67 rfl) (own_g hw 68 rfl) (own_g hw 70 rfl) (own_g hw 69 rfl) (own_g hw 38 rfl) (own_g hw 71 rfl) (by decide) (by decide) (by decide) (by decide) (by decide) e4 (g := (mkF m 111 #[oR a, oI (tvl - tvr), oU] [(.ref a)])) rfl (by rw [hml]; rfl) E_a (argsL := []) (rest := []) rfl (lenOf own_pd_3 rfl) rfl (by show 2 * 0 + _ ≤ _; exact Nat.le_of_eq rfl) (hb hby own_d8_111)
  obtain ⟨H5, e5⟩ : ∃ z, T5.heap = z := ⟨_, rfl⟩
  rw [e5] at Q5
  obtain ⟨rfl, Nq5, Kq5, Fp5_0, Fp5_1, Fp5_2, Fp5_3, Fp5_4, Fp5_5⟩ := Q5
  have N5 := Fr.app N4 Nq5
  have Zs5 := Nat.le_trans Z0 Kq5.1
  have f6 := Exa.keep E_a Kq5
  have f13 := Exa.keep E_la Kq5
  have f14 := Fld.keep F_la_quantity Kq5 (ninS (Ne.symm ne_a_la) nin0)
  have Q15 := HQ.keep HQ_vl Kq5 (allS nv_vl_a all0)
  have Q16 := HQ.keep HQ_vr Kq5 (allS nv_vr_a all0)
  have K5 := (Keep.refl h0 [a]).trans Kq5 (allS (Or.inl (List.mem_of_getElem? (i := 0) rfl)) all0)
  refine Go.s (fun {t} => st5) ?_
  refine Go.s (fun kz => XS.aloadN X5.here hx rfl (hb hby own_d8_114) rfl rfl kz) ?_
  refine Go.s (fun kz => XS.astoreN X5.here hx rfl (hb hby own_d8_115) rfl rfl (l' := #[oR a, oI (tvl - tvr), oR a]) rfl kz) ?_
  refine Go.s (fun kz => XS.aloadN X5.here hx rfl (hb hby own_d8_116) rfl rfl kz) ?_
  show Go p.tables e below P (T5.setTop (mkF m 117 #[oR a, oI (tvl - tvr), oR a] [(.ref a)]))
  exact Go.retR X5 hx hlk hret rfl rfl (hb hby own_d8_117) (fun U hU hF => hP U _ _ (by rw [hU, e5]; exact ⟨rfl, N5, K5, Fp5_0, Fp5_1, Fp5_2, Fp5_3, Fp5_4, Fp5_5⟩) ⟨hF.1, hF.2.1, hF.2.2.mono (by decide) (by decide)⟩)
theorem own_efbll (m : MethodId) (a : Addr) : entryFrame m #[(.ref a)] 3 = mkF m 0 #[oR a, oU, oU] [] := by
  (first | (simp [entryFrame, mkF, argsToLocals, Value.category]; done) | rfl)
theorem own_d8_21 : decode prog_29_method_14_code 21 = .ok (.aload_n 0, 1) := by decide +kernel
theorem own_d8_22 : decode prog_29_method_14_code 22 = .ok (.getfield 23, 3) := by decide +kernel
theorem own_d8_25 : decode prog_29_method_14_code 25 = .ok (.getfield 23, 3) := by decide +kernel
theorem own_d8_28 : decode prog_29_method_14_code 28 = .ok (.invokestatic 66, 3) := by decide +kernel
theorem own_d8_31 : decode prog_29_method_14_code 31 = .ok (.aload_n 0, 1) := by decide +kernel
theorem own_d8_32 : decode prog_29_method_14_code 32 = .ok (.getfield 23, 3) := by decide +kernel
theorem own_d8_35 : decode prog_29_method_14_code 35 = .ok (.getfield 26, 3) := by decide +kernel
theorem own_d8_38 : decode prog_29_method_14_code 38 = .ok (.invokestatic 66, 3) := by decide +kernel
theorem own_d8_41 : decode prog_29_method_14_code 41 = .ok (.if_icmp .ge 14, 3) := by decide +kernel
theorem own_d8_55 : decode prog_29_method_14_code 55 = .ok (.aload_n 0, 1) := by decide +kernel
theorem own_pd_4 : parseMethodDescriptor "(Lcom/example/rotunda/rotunda/LevelTree$Node;)Lcom/example/rotunda/rotunda/LevelTree$Node;" = some ⟨[(.object oN)], some (.object oN)⟩ := by decide +kernel
theorem own_d8_56 : decode prog_29_method_14_code 56 = .ok (.invokestatic 73, 3) := by decide +kernel
theorem own_d8_59 : decode prog_29_method_14_code 59 = .ok (.astore_n 2, 1) := by decide +kernel
theorem own_d8_60 : decode prog_29_method_14_code 60 = .ok (.goto 56, 3) := by decide +kernel
set_option maxRecDepth 65536 in
set_option maxHeartbeats 40000000 in
theorem own_rmbll (l : Launch) (Z : State) (a0 : Array Value) (hw : ∀ d ∈ tables_1, d.before a0 Z = true) (ws : List Jvm.Cond) (a : Nat) (ka : Int64) (la : Nat) (ac : Nat) (vr : Value) (ta : Int32) (qa : Int64) (kc : Int64) (lc : Nat) (vcl : Value) (vcr : Value) (tc : Int32) (qc : Int64) (wa : Int64) (wc : Int64) (tvr : Int32) (qvr : Int64) (tvcl : Int32) (qvcl : Int64) (tvcr : Int32) (qvcr : Int64) (h0 : Heap) (n0 : Nat) (Z0 : n0 ≤ h0.size) (HQ_vr : HQ Z h0 vr tvr qvr) (HQ_vcl : HQ Z h0 vcl tvcl qvcl) (HQ_vcr : HQ Z h0 vcr tvcr qvcr) (E_a : Exa Z h0 a oN) (G_a : n0 ≤ a) (F_a_key : Fld Z h0 a oN "key" "J" (.long ka)) (F_a_level : Fld Z h0 a oN "level" oLd (.ref la)) (F_a_left : Fld Z h0 a oN "left" oNd (.ref ac)) (F_a_right : Fld Z h0 a oN "right" oNd vr) (F_a_height : Fld Z h0 a oN "height" "I" (.int ta)) (F_a_quantity : Fld Z h0 a oN "quantity" "J" (.long qa)) (E_ac : Exa Z h0 ac oN) (G_ac : n0 ≤ ac) (F_ac_key : Fld Z h0 ac oN "key" "J" (.long kc)) (F_ac_level : Fld Z h0 ac oN "level" oLd (.ref lc)) (F_ac_left : Fld Z h0 ac oN "left" oNd vcl) (F_ac_right : Fld Z h0 ac oN "right" oNd vcr) (F_ac_height : Fld Z h0 ac oN "height" "I" (.int tc)) (F_ac_quantity : Fld Z h0 ac oN "quantity" "J" (.long qc)) (E_la : Exa Z h0 la oL) (G_la : n0 ≤ la) (F_la_quantity : Fld Z h0 la oL "quantity" "J" (.long wa)) (E_lc : Exa Z h0 lc oL) (G_lc : n0 ≤ lc) (F_lc_quantity : Fld Z h0 lc oL "quantity" "J" (.long wc)) (ne_a_ac : a ≠ ac) (ne_a_la : a ≠ la) (ne_a_lc : a ≠ lc) (ne_ac_la : ac ≠ la) (ne_ac_lc : ac ≠ lc) (ne_la_lc : la ≠ lc) (nv_vr_a : vr ≠ .ref a) (nv_vr_ac : vr ≠ .ref ac) (nv_vr_la : vr ≠ .ref la) (nv_vr_lc : vr ≠ .ref lc) (nv_vcl_a : vcl ≠ .ref a) (nv_vcl_ac : vcl ≠ .ref ac) (nv_vcl_la : vcl ≠ .ref la) (nv_vcl_lc : vcl ≠ .ref lc) (nv_vcr_a : vcr ≠ .ref a) (nv_vcr_ac : vcr ≠ .ref ac) (nv_vcr_la : vcr ≠ .ref la) (nv_vcr_lc : vcr ≠ .ref lc) (hb1 : (1 : Int32) < (tc - tvr)) (hb3 : ¬ tvcl < tvcr) :
    Con l Z (⟨oT, "balanced", "(Lcom/example/rotunda/rotunda/LevelTree$Node;)Lcom/example/rotunda/rotunda/LevelTree$Node;"⟩ : MethodName) prog_29_method_14_code 3 (some (.object oN)) ws ({ frames := 3, cells := 0, slots := 0, locals := 40 } : Room) #[(.ref a)] h0 (fun v h L => v = some (.ref ac) ∧ Fr n0 L ∧ Keep h0 h [a, ac] ∧ Fld Z h a oN "height" "I" (.int ((own_f11 tvcr tvr) + (1 : Int32))) ∧ Fld Z h a oN "key" "J" (.long ka) ∧ Fld Z h a oN "left" oNd vcr ∧ Fld Z h a oN "level" oLd (.ref la) ∧ Fld Z h a oN "quantity" "J" (.long ((qvcr + wa) + qvr)) ∧ Fld Z h a oN "right" oNd vr ∧ Fld Z h ac oN "height" "I" (.int ((own_f11 tvcl ((own_f11 tvcr tvr) + (1 : Int32))) + (1 : Int32))) ∧ Fld Z h ac oN "key" "J" (.long kc) ∧ Fld Z h ac oN "left" oNd vcl ∧ Fld Z h ac oN "level" oLd (.ref lc) ∧ Fld Z h ac oN "quantity" "J" (.long ((qvcl + wc) + ((qvcr + wa) + qvr))) ∧ Fld Z h ac oN "right" oNd (.ref a)) := by
  refine Con.intro (plainFor_of_name own_pn_0) ?_
  intro p e s m below meth c s₁ P hx hby hml hown hnm hret hlk hZ X0 e0 hP
  have N0 := Fr.nil n0
  have hown : s.vm.findClass oT = some m.cls := hown
  refine Go.cast (own_efbll m a) ?_
  show Go p.tables e below P (s₁.setTop (mkF m 0 #[oR a, oU, oU] []))
  refine Go.s (fun kz => XS.aloadN X0.here hx rfl (hb hby own_d8_0) rfl rfl kz) ?_
  show Go p.tables e below P (s₁.setTop (mkF m 1 #[oR a, oU, oU] [(.ref a)]))
  obtain ⟨T1, X1, e1, st1⟩ := getF X0 hx hZ hown (host := "") (Or.inl (own_g hw 56 rfl)) Via.refl e0 F_a_left (g := (mkF m 1 #[oR a, oU, oU] [(.ref a)])) rfl rfl (hb hby own_d8_1)
  refine Go.s (fun {t} => st1 t) ?_
  show Go p.tables e below P (T1.setTop (mkF m 4 #[oR a, oU, oU] [(.ref ac)]))
  obtain ⟨v2, T2, L2, X2, Q2, st2⟩ := Con.static (own_rm9 l Z a0 hw [] (.ref ac) tc qc h0 n0 Z0 (Or.inr ⟨ac, rfl, F_ac_height, F_ac_quantity⟩)) X1 hx hZ (W := 0) hown (own_g hw 63 rfl) (own_g hw 64 rfl) (own_g hw 16 rfl) (own_g hw 65 rfl) (by decide) (by decide) (by decide) (by decide) (by decide) e1 (g := (mkF m 4 #[oR a, oU, oU] [(.ref ac)])) rfl (by rw [hml]; rfl) (argsL := [(.ref ac)]) (rest := []) rfl (lenOf own_pd_0 rfl) rfl (by show 2 * 0 + _ ≤ _; exact Nat.le_of_eq rfl) (hb hby own_d8_4)
  obtain ⟨rfl, Nq2, e2⟩ := Q2
  have N2 := Fr.app N0 Nq2
  refine Go.s (fun {t} => st2) ?_
  refine Go.s (fun kz => XS.aloadN X2.here hx rfl (hb hby own_d8_7) rfl rfl kz) ?_
  show Go p.tables e below P (T2.setTop (mkF m 8 #[oR a, oU, oU] [(.ref a), (.int tc)]))
  obtain ⟨T3, X3, e3, st3⟩ := getF X2 hx hZ hown (host := "") (Or.inl (own_g hw 58 rfl)) Via.refl e2 F_a_right (g := (mkF m 8 #[oR a, oU, oU] [(.ref a), (.int tc)])) rfl rfl (hb hby own_d8_8)
  refine Go.s (fun {t} => st3 t) ?_
  show Go p.tables e below P (T3.setTop (mkF m 11 #[oR a, oU, oU] [vr, (.int tc)]))
  obtain ⟨v4, T4, L4, X4, Q4, st4⟩ := Con.static (own_rm9 l Z a0 hw [] vr tvr qvr h0 n0 Z0 HQ_vr) X3 hx hZ (W := 1) hown (own_g hw 63 rfl) (own_g hw 64 rfl) (own_g hw 16 rfl) (own_g hw 65 rfl) (by decide) (by decide) (by decide) (by decide) (by decide) e3 (g := (mkF m 11 #[oR a, oU, oU] [vr, (.int tc)])) rfl (by rw [hml]; rfl) (argsL := [vr]) (rest := [(.int tc)]) rfl (lenOf own_pd_0 rfl) rfl (by show 2 * 0 + _ ≤ _; exact Nat.le_of_eq rfl) (hb hby own_d8_11)
  obtain ⟨rfl, Nq4, e4⟩ := Q4
  have N4 := Fr.app N2 Nq4
  refine Go.s (fun {t} => st4) ?_
  refine Go.s (fun kz => XS.isub X4.here hx rfl (hb hby own_d8_14) rfl kz) ?_
  refine Go.s (fun kz => XS.istoreN X4.here hx rfl (hb hby own_d8_15) rfl (l' := #[oR a, oI (tc - tvr), oU]) rfl kz) ?_
  refine Go.s (fun kz => XS.iloadN X4.here hx rfl (hb hby own_d8_16) rfl kz) ?_
  show Go p.tables e below P (T4.setTop (mkF m 17 #[oR a, oI (tc - tvr), oU] [(.int (tc - tvr))]))
  refine Go.s (fun kz => XS.iconst X4.here hx rfl (hb hby own_d8_17) kz) ?_
  show Go p.tables e below P (T4.setTop (mkF m 18 #[oR a, oI (tc - tvr), oU] [(.int (1 : Int32)), (.int (tc - tvr))]))
  refine Go.s (fun kz => XS.icmpNo X4.here hx rfl (hb hby own_d8_18) rfl (XT.ii_le_f hb1) kz) ?_
  show Go p.tables e below P (T4.setTop (mkF m 21 #[oR a, oI (tc - tvr), oU] []))
  refine Go.s (fun kz => XS.aloadN X4.here hx rfl (hb hby own_d8_21) rfl rfl kz) ?_
  show Go p.tables e below P (T4.setTop (mkF m 22 #[oR a, oI (tc - tvr), oU] [(.ref a)]))
  obtain ⟨T5, X5, e5, st5⟩ := getF X4 hx hZ hown (host := "") (Or.inl (own_g hw 56 rfl)) Via.refl e4 F_a_left (g := (mkF m 22 #[oR a, oI (tc - tvr), oU] [(.ref a)])) rfl rfl (hb hby own_d8_22)
  refine Go.s (fun {t} => st5 t) ?_
  show Go p.tables e below P (T5.setTop (mkF m 25 #[oR a, oI (tc - tvr), oU] [(.ref ac)]))
  obtain ⟨T6, X6, e6, st6⟩ := getF X5 hx hZ hown (host := "") (Or.inl (own_g hw 56 rfl)) Via.refl e5 F_ac_left (g := (mkF m 25 #[oR a, oI (tc - tvr), oU] [(.ref ac)])) rfl rfl (hb hby own_d8_25)
  refine Go.s (fun {t} => st6 t) ?_
  show Go p.tables e below P (T6.setTop (mkF m 28 #[oR a, oI (tc - tvr), oU] [vcl]))
  obtain ⟨v7, T7, L7, X7, Q7, st7⟩ := Con.static (own_rm9 l Z a0 hw [] vcl tvcl qvcl h0 n0 Z0 HQ_vcl) X6 hx hZ (W := 0) hown (own_g hw 63 rfl) (own_g hw 64 rfl) (own_g hw 16 rfl) (own_g hw 65 rfl) (by decide) (by decide) (by decide) (by decide) (by decide) e6 (g := (mkF m 28 #[oR a, oI (tc - tvr), oU] [vcl])) rfl (by rw [hml]; rfl) (argsL := [vcl]) (rest := []) rfl (lenOf own_pd_0 rfl) rfl (by show 2 * 0 + _ ≤ _; exact Nat.le_of_eq rfl) (hb hby own_d8_28)
  obtain ⟨rfl, Nq7, e7⟩ := Q7
  have N7 := Fr.app N4 Nq7
  refine Go.s (fun {t} => st7) ?_
  refine Go.s (fun kz => XS.aloadN X7.here hx rfl (hb hby own_d8_31) rfl rfl kz) ?_
  show Go p.tables e below P (T7.setTop (mkF m 32 #[oR a, oI (tc - tvr), oU] [(.ref a), (.int tvcl)]))
  obtain ⟨T8, X8, e8, st8⟩ := getF X7 hx hZ hown (host := "") (Or.inl (own_g hw 56 rfl)) Via.refl e7 F_a_left (g := (mkF m 32 #[oR a, oI (tc - tvr), oU] [(.ref a), (.int tvcl)])) rfl rfl (hb hby own_d8_32)
  refine Go.s (fun {t} => st8 t) ?_
  show Go p.tables e below P (T8.setTop (mkF m 35 #[oR a, oI (tc - tvr), oU] [(.ref ac), (.int tvcl)]))
  obtain ⟨T9, X9, e9, st9⟩ := getF X8 hx hZ hown (host := "") (Or.inl (own_g hw 58 rfl)) Via.refl e8 F_ac_right (g := (mkF m 35 #[oR a, oI (tc - tvr), oU] [(.ref ac), (.int tvcl)])) rfl rfl (hb hby own_d8_35)
  refine Go.s (fun {t} => st9 t) ?_
  show Go p.tables e below P (T9.setTop (mkF m 38 #[oR a, oI (tc - tvr), oU] [vcr, (.int tvcl)]))
  obtain ⟨v10, T10, L10, X10, Q10, st10⟩ := Con.static (own_rm9 l Z a0 hw [] vcr tvcr qvcr h0 n0 Z0 HQ_vcr) X9 hx hZ (W := 1) hown (own_g hw 63 rfl) (own_g hw 64 rfl) (own_g hw 16 rfl) (own_g hw 65 rfl) (by decide) (by decide) (by decide) (by decide) (by decide) e9 (g := (mkF m 38 #[oR a, oI (tc - tvr), oU] [vcr, (.int tvcl)])) rfl (by rw [hml]; rfl) (argsL := [vcr]) (rest := [(.int tvcl)]) rfl (lenOf own_pd_0 rfl) rfl (by show 2 * 0 + _ ≤ _; exact Nat.le_of_eq rfl) (hb hby own_d8_38)
  obtain ⟨rfl, Nq10, e10⟩ := Q10
  have N10 := Fr.app N7 Nq10
  refine Go.s (fun {t} => st10) ?_
  show Go p.tables e below P (T10.setTop (mkF m 41 #[oR a, oI (tc - tvr), oU] [(.int tvcr), (.int tvcl)]))
  refine Go.s (fun kz => XS.icmpYes X10.here hx rfl (pc0 := 41) (pc' := 55) rfl (hb hby own_d8_41) rfl (XT.ii_ge_t hb3) (by decide) (by decide) kz) ?_
  show Go p.tables e below P (T10.setTop (mkF m 55 #[oR a, oI (tc - tvr), oU] []))
  refine Go.s (fun kz => XS.aloadN X10.here hx rfl (hb hby own_d8_55) rfl rfl kz) ?_
  show Go p.tables e below P (T10.setTop (mkF m 56 #[oR a, oI (tc - tvr), oU] [(.ref a)]))
  obtain ⟨v11, T11, L11, X11, Q11, st11⟩ := Con.static (own_rmwl l Z a0 hw [] a ka la ac vr ta qa kc lc vcl vcr tc qc wa wc tvr qvr tvcl qvcl tvcr qvcr h0 n0 Z0 HQ_vr HQ_vcl HQ_vcr E_a G_a F_a_key F_a_level F_a_left F_a_right F_a_height F_a_quantity E_ac G_ac F_ac_key F_ac_level F_ac_left F_ac_right F_ac_height F_ac_quantity E_la G_la F_la_quantity E_lc G_lc F_lc_quantity ne_a_ac ne_a_la ne_a_lc ne_ac_la ne_ac_lc ne_la_lc nv_vr_a nv_vr_ac nv_vr_la nv_vr_lc nv_vcl_a nv_vcl_ac nv_vcl_la nv_vcl_lc nv_vcr_a nv_vcr_ac nv_vcr_la nv_vcr_lc) X10 hx hZ (W := 0) hown (own_g hw 83 rfl) (own_g hw 84 rfl) (own_g hw 16 rfl) (own_g hw 85 rfl) (by decide) (by decide) (by decide) (by decide) (by decide) e10 (g := (mkF m 56 #[oR a, oI (tc - tvr), oU] [(.ref a)])) rfl (by rw [hml]; rfl) (argsL := [(.ref a)]) (rest := []) rfl (lenOf own_pd_4 rfl) rfl (by show 2 * 0 + _ ≤ _; exact Nat.le_of_eq rfl) (hb hby own_d8_56)
  obtain ⟨H11, e11⟩ : ∃ z, T11.heap = z := ⟨_, rfl⟩
  rw [e11] at Q11
  obtain ⟨rfl, Nq11, Kq11, Fp11_0, Fp11_1, Fp11_2, Fp11_3, Fp11_4, Fp11_5, Fp11_6, Fp11_7, Fp11_8, Fp11_9, Fp11_10, Fp11_11⟩ := Q11
  have N11 := Fr.app N10 Nq11
  have Zs11 := Nat.le_trans Z0 Kq11.1
  have f12 := Exa.keep E_a Kq11
  have f19 := Exa.keep E_ac Kq11
  have f26 := Exa.keep E_la Kq11
  have f27 := Fld.keep F_la_quantity Kq11 (ninS (Ne.symm ne_a_la) (ninS (Ne.symm ne_ac_la) nin0))
  have f28 := Exa.keep E_lc Kq11
  have f29 := Fld.keep F_lc_quantity Kq11 (ninS (Ne.symm ne_a_lc) (ninS (Ne.symm ne_ac_lc) nin0))
  have Q30 := HQ.keep HQ_vr Kq11 (allS nv_vr_a (allS nv_vr_ac all0))
  have Q31 := HQ.keep HQ_vcl Kq11 (allS nv_vcl_a (allS nv_vcl_ac all0))
  have Q32 := HQ.keep HQ_vcr Kq11 (allS nv_vcr_a (allS nv_vcr_ac all0))
  have K11 := (Keep.refl h0 [a, ac]).trans Kq11 (allS (Or.inl (List.mem_of_getElem? (i := 0) rfl)) (allS (Or.inl (List.mem_of_getElem? (i := 1) rfl)) all0))
  refine Go.s (fun {t} => st11) ?_
  refine Go.s (fun kz => XS.astoreN X11.here hx rfl (hb hby own_d8_59) rfl rfl (l' := #[oR a, oI (tc - tvr), oR ac]) rfl kz) ?_
  refine Go.s (fun kz => XS.goto X11.here hx rfl (pc0 := 60) (pc' := 116) rfl (hb hby own_d8_60) (by decide) (by decide) kz) ?_
  show Go p.tables e below P (T11.setTop (mkF m 116 #[oR a, oI (tc - tvr), oR ac] []))
  refine Go.s (fun kz => XS.aloadN X11.here hx rfl (hb hby own_d8_116) rfl rfl kz) ?_
  show Go p.tables e below P (T11.setTop (mkF m 117 #[oR a, oI (tc - tvr), oR ac] [(.ref ac)]))
  exact Go.retR X11 hx hlk hret rfl rfl (hb hby own_d8_117) (fun U hU hF => hP U _ _ (by rw [hU, e11]; exact ⟨rfl, N11, K11, Fp11_0, Fp11_1, Fp11_2, Fp11_3, Fp11_4, Fp11_5, Fp11_6, Fp11_7, Fp11_8, Fp11_9, Fp11_10, Fp11_11⟩) ⟨hF.1, hF.2.1, hF.2.2.mono (by decide) (by decide)⟩)
theorem own_efblr (m : MethodId) (a : Addr) : entryFrame m #[(.ref a)] 3 = mkF m 0 #[oR a, oU, oU] [] := by
  (first | (simp [entryFrame, mkF, argsToLocals, Value.category]; done) | rfl)
theorem own_d8_44 : decode prog_29_method_14_code 44 = .ok (.aload_n 0, 1) := by decide +kernel
theorem own_d8_45 : decode prog_29_method_14_code 45 = .ok (.aload_n 0, 1) := by decide +kernel
theorem own_d8_46 : decode prog_29_method_14_code 46 = .ok (.getfield 23, 3) := by decide +kernel
theorem own_d8_49 : decode prog_29_method_14_code 49 = .ok (.invokestatic 70, 3) := by decide +kernel
theorem own_d8_52 : decode prog_29_method_14_code 52 = .ok (.putfield 23, 3) := by decide +kernel
set_option maxRecDepth 65536 in
set_option maxHeartbeats 40000000 in
theorem own_rmblr (l : Launch) (Z : State) (a0 : Array Value) (hw : ∀ d ∈ tables_1, d.before a0 Z = true) (ws : List Jvm.Cond) (a : Nat) (ka : Int64) (la : Nat) (ac : Nat) (vr : Value) (ta : Int32) (qa : Int64) (kc : Int64) (lc : Nat) (vcl : Value) (ad : Nat) (tc : Int32) (qc : Int64) (kd : Int64) (ld : Nat) (vdl : Value) (vdr : Value) (td : Int32) (qd : Int64) (wa : Int64) (wc : Int64) (wd : Int64) (tvr : Int32) (qvr : Int64) (tvcl : Int32) (qvcl : Int64) (tvdl : Int32) (qvdl : Int64) (tvdr : Int32) (qvdr : Int64) (h0 : Heap) (n0 : Nat) (Z0 : n0 ≤ h0.size) (HQ_vr : HQ Z h0 vr tvr qvr) (HQ_vcl : HQ Z h0 vcl tvcl qvcl) (HQ_vdl : HQ Z h0 vdl tvdl qvdl) (HQ_vdr : HQ Z h0 vdr tvdr qvdr) (E_a : Exa Z h0 a oN) (G_a : n0 ≤ a) (F_a_key : Fld Z h0 a oN "key" "J" (.long ka)) (F_a_level : Fld Z h0 a oN "level" oLd (.ref la)) (F_a_left : Fld Z h0 a oN "left" oNd (.ref ac)) (F_a_right : Fld Z h0 a oN "right" oNd vr) (F_a_height : Fld Z h0 a oN "height" "I" (.int ta)) (F_a_quantity : Fld Z h0 a oN "quantity" "J" (.long qa)) (E_ac : Exa Z h0 ac oN) (G_ac : n0 ≤ ac) (F_ac_key : Fld Z h0 ac oN "key" "J" (.long kc)) (F_ac_level : Fld Z h0 ac oN "level" oLd (.ref lc)) (F_ac_left : Fld Z h0 ac oN "left" oNd vcl) (F_ac_right : Fld Z h0 ac oN "right" oNd (.ref ad)) (F_ac_height : Fld Z h0 ac oN "height" "I" (.int tc)) (F_ac_quantity : Fld Z h0 ac oN "quantity" "J" (.long qc)) (E_ad : Exa Z h0 ad oN) (G_ad : n0 ≤ ad) (F_ad_key : Fld Z h0 ad oN "key" "J" (.long kd)) (F_ad_level : Fld Z h0 ad oN "level" oLd (.ref ld)) (F_ad_left : Fld Z h0 ad oN "left" oNd vdl) (F_ad_right : Fld Z h0 ad oN "right" oNd vdr) (F_ad_height : Fld Z h0 ad oN "height" "I" (.int td)) (F_ad_quantity : Fld Z h0 ad oN "quantity" "J" (.long qd)) (E_la : Exa Z h0 la oL) (G_la : n0 ≤ la) (F_la_quantity : Fld Z h0 la oL "quantity" "J" (.long wa)) (E_lc : Exa Z h0 lc oL) (G_lc : n0 ≤ lc) (F_lc_quantity : Fld Z h0 lc oL "quantity" "J" (.long wc)) (E_ld : Exa Z h0 ld oL) (G_ld : n0 ≤ ld) (F_ld_quantity : Fld Z h0 ld oL "quantity" "J" (.long wd)) (ne_a_ac : a ≠ ac) (ne_a_ad : a ≠ ad) (ne_a_la : a ≠ la) (ne_a_lc : a ≠ lc) (ne_a_ld : a ≠ ld) (ne_ac_ad : ac ≠ ad) (ne_ac_la : ac ≠ la) (ne_ac_lc : ac ≠ lc) (ne_ac_ld : ac ≠ ld) (ne_ad_la : ad ≠ la) (ne_ad_lc : ad ≠ lc) (ne_ad_ld : ad ≠ ld) (ne_la_lc : la ≠ lc) (ne_la_ld : la ≠ ld) (ne_lc_ld : lc ≠ ld) (nv_vr_a : vr ≠ .ref a) (nv_vr_ac : vr ≠ .ref ac) (nv_vr_ad : vr ≠ .ref ad) (nv_vr_la : vr ≠ .ref la) (nv_vr_lc : vr ≠ .ref lc) (nv_vr_ld : vr ≠ .ref ld) (nv_vcl_a : vcl ≠ .ref a) (nv_vcl_ac : vcl ≠ .ref ac) (nv_vcl_ad : vcl ≠ .ref ad) (nv_vcl_la : vcl ≠ .ref la) (nv_vcl_lc : vcl ≠ .ref lc) (nv_vcl_ld : vcl ≠ .ref ld) (nv_vdl_a : vdl ≠ .ref a) (nv_vdl_ac : vdl ≠ .ref ac) (nv_vdl_ad : vdl ≠ .ref ad) (nv_vdl_la : vdl ≠ .ref la) (nv_vdl_lc : vdl ≠ .ref lc) (nv_vdl_ld : vdl ≠ .ref ld) (nv_vdr_a : vdr ≠ .ref a) (nv_vdr_ac : vdr ≠ .ref ac) (nv_vdr_ad : vdr ≠ .ref ad) (nv_vdr_la : vdr ≠ .ref la) (nv_vdr_lc : vdr ≠ .ref lc) (nv_vdr_ld : vdr ≠ .ref ld) (hb1 : (1 : Int32) < (tc - tvr)) (hb3 : tvcl < td) :
    Con l Z (⟨oT, "balanced", "(Lcom/example/rotunda/rotunda/LevelTree$Node;)Lcom/example/rotunda/rotunda/LevelTree$Node;"⟩ : MethodName) prog_29_method_14_code 3 (some (.object oN)) ws ({ frames := 3, cells := 0, slots := 0, locals := 41 } : Room) #[(.ref a)] h0 (fun v h L => v = some (.ref ad) ∧ Fr n0 L ∧ Keep h0 h [a, ac, ad] ∧ Fld Z h a oN "height" "I" (.int ((own_f11 tvdr tvr) + (1 : Int32))) ∧ Fld Z h a oN "key" "J" (.long ka) ∧ Fld Z h a oN "left" oNd vdr ∧ Fld Z h a oN "level" oLd (.ref la) ∧ Fld Z h a oN "quantity" "J" (.long ((qvdr + wa) + qvr)) ∧ Fld Z h a oN "right" oNd vr ∧ Fld Z h ac oN "height" "I" (.int ((own_f11 tvcl tvdl) + (1 : Int32))) ∧ Fld Z h ac oN "key" "J" (.long kc) ∧ Fld Z h ac oN "left" oNd vcl ∧ Fld Z h ac oN "level" oLd (.ref lc) ∧ Fld Z h ac oN "quantity" "J" (.long ((qvcl + wc) + qvdl)) ∧ Fld Z h ac oN "right" oNd vdl ∧ Fld Z h ad oN "height" "I" (.int ((own_f11 ((own_f11 tvcl tvdl) + (1 : Int32)) ((own_f11 tvdr tvr) + (1 : Int32))) + (1 : Int32))) ∧ Fld Z h ad oN "key" "J" (.long kd) ∧ Fld Z h ad oN "left" oNd (.ref ac) ∧ Fld Z h ad oN "level" oLd (.ref ld) ∧ Fld Z h ad oN "quantity" "J" (.long ((((qvcl + wc) + qvdl) + wd) + ((qvdr + wa) + qvr))) ∧ Fld Z h ad oN "right" oNd (.ref a)) := by
  refine Con.intro (plainFor_of_name own_pn_0) ?_
  intro p e s m below meth c s₁ P hx hby hml hown hnm hret hlk hZ X0 e0 hP
  have N0 := Fr.nil n0
  have hown : s.vm.findClass oT = some m.cls := hown
  refine Go.cast (own_efblr m a) ?_
  show Go p.tables e below P (s₁.setTop (mkF m 0 #[oR a, oU, oU] []))
  refine Go.s (fun kz => XS.aloadN X0.here hx rfl (hb hby own_d8_0) rfl rfl kz) ?_
  show Go p.tables e below P (s₁.setTop (mkF m 1 #[oR a, oU, oU] [(.ref a)]))
  obtain ⟨T1, X1, e1, st1⟩ := getF X0 hx hZ hown (host := "") (Or.inl (own_g hw 56 rfl)) Via.refl e0 F_a_left (g := (mkF m 1 #[oR a, oU, oU] [(.ref a)])) rfl rfl (hb hby own_d8_1)
  refine Go.s (fun {t} => st1 t) ?_
  show Go p.tables e below P (T1.setTop (mkF m 4 #[oR a, oU, oU] [(.ref ac)]))
  obtain ⟨v2, T2, L2, X2, Q2, st2⟩ := Con.static (own_rm9 l Z a0 hw [] (.ref ac) tc qc h0 n0 Z0 (Or.inr ⟨ac, rfl, F_ac_height, F_ac_quantity⟩)) X1 hx hZ (W := 0) hown (own_g hw 63 rfl) (own_g hw 64 rfl) (own_g hw 16 rfl) (own_g hw 65 rfl) (by decide) (by decide) (by decide) (by decide) (by decide) e1 (g := (mkF m 4 #[oR a, oU, oU] [(.ref ac)])) rfl (by rw [hml]; rfl) (argsL := [(.ref ac)]) (rest := []) rfl (lenOf own_pd_0 rfl) rfl (by show 2 * 0 + _ ≤ _; exact Nat.le_of_eq rfl) (hb hby own_d8_4)
  obtain ⟨rfl, Nq2, e2⟩ := Q2
  have N2 := Fr.app N0 Nq2
  refine Go.s (fun {t} => st2) ?_
  refine Go.s (fun kz => XS.aloadN X2.here hx rfl (hb hby own_d8_7) rfl rfl kz) ?_
  show Go p.tables e below P (T2.setTop (mkF m 8 #[oR a, oU, oU] [(.ref a), (.int tc)]))
  obtain ⟨T3, X3, e3, st3⟩ := getF X2 hx hZ hown (host := "") (Or.inl (own_g hw 58 rfl)) Via.refl e2 F_a_right (g := (mkF m 8 #[oR a, oU, oU] [(.ref a), (.int tc)])) rfl rfl (hb hby own_d8_8)
  refine Go.s (fun {t} => st3 t) ?_
  show Go p.tables e below P (T3.setTop (mkF m 11 #[oR a, oU, oU] [vr, (.int tc)]))
  obtain ⟨v4, T4, L4, X4, Q4, st4⟩ := Con.static (own_rm9 l Z a0 hw [] vr tvr qvr h0 n0 Z0 HQ_vr) X3 hx hZ (W := 1) hown (own_g hw 63 rfl) (own_g hw 64 rfl) (own_g hw 16 rfl) (own_g hw 65 rfl) (by decide) (by decide) (by decide) (by decide) (by decide) e3 (g := (mkF m 11 #[oR a, oU, oU] [vr, (.int tc)])) rfl (by rw [hml]; rfl) (argsL := [vr]) (rest := [(.int tc)]) rfl (lenOf own_pd_0 rfl) rfl (by show 2 * 0 + _ ≤ _; exact Nat.le_of_eq rfl) (hb hby own_d8_11)
  obtain ⟨rfl, Nq4, e4⟩ := Q4
  have N4 := Fr.app N2 Nq4
  refine Go.s (fun {t} => st4) ?_
  refine Go.s (fun kz => XS.isub X4.here hx rfl (hb hby own_d8_14) rfl kz) ?_
  refine Go.s (fun kz => XS.istoreN X4.here hx rfl (hb hby own_d8_15) rfl (l' := #[oR a, oI (tc - tvr), oU]) rfl kz) ?_
  refine Go.s (fun kz => XS.iloadN X4.here hx rfl (hb hby own_d8_16) rfl kz) ?_
  show Go p.tables e below P (T4.setTop (mkF m 17 #[oR a, oI (tc - tvr), oU] [(.int (tc - tvr))]))
  refine Go.s (fun kz => XS.iconst X4.here hx rfl (hb hby own_d8_17) kz) ?_
  show Go p.tables e below P (T4.setTop (mkF m 18 #[oR a, oI (tc - tvr), oU] [(.int (1 : Int32)), (.int (tc - tvr))]))
  refine Go.s (fun kz => XS.icmpNo X4.here hx rfl (hb hby own_d8_18) rfl (XT.ii_le_f hb1) kz) ?_
  show Go p.tables e below P (T4.setTop (mkF m 21 #[oR a, oI (tc - tvr), oU] []))
  refine Go.s (fun kz => XS.aloadN X4.here hx rfl (hb hby own_d8_21) rfl rfl kz) ?_
  show Go p.tables e below P (T4.setTop (mkF m 22 #[oR a, oI (tc - tvr), oU] [(.ref a)]))
  obtain ⟨T5, X5, e5, st5⟩ := getF X4 hx hZ hown (host := "") (Or.inl (own_g hw 56 rfl)) Via.refl e4 F_a_left (g := (mkF m 22 #[oR a, oI (tc - tvr), oU] [(.ref a)])) rfl rfl (hb hby own_d8_22)
  refine Go.s (fun {t} => st5 t) ?_
  show Go p.tables e below P (T5.setTop (mkF m 25 #[oR a, oI (tc - tvr), oU] [(.ref ac)]))
  obtain ⟨T6, X6, e6, st6⟩ := getF X5 hx hZ hown (host := "") (Or.inl (own_g hw 56 rfl)) Via.refl e5 F_ac_left (g := (mkF m 25 #[oR a, oI (tc - tvr), oU] [(.ref ac)])) rfl rfl (hb hby own_d8_25)
  refine Go.s (fun {t} => st6 t) ?_
  show Go p.tables e below P (T6.setTop (mkF m 28 #[oR a, oI (tc - tvr), oU] [vcl]))
  obtain ⟨v7, T7, L7, X7, Q7, st7⟩ := Con.static (own_rm9 l Z a0 hw [] vcl tvcl qvcl h0 n0 Z0 HQ_vcl) X6 hx hZ (W := 0) hown (own_g hw 63 rfl) (own_g hw 64 rfl) (own_g hw 16 rfl) (own_g hw 65 rfl) (by decide) (by decide) (by decide) (by decide) (by decide) e6 (g := (mkF m 28 #[oR a, oI (tc - tvr), oU] [vcl])) rfl (by rw [hml]; rfl) (argsL := [vcl]) (rest := []) rfl (lenOf own_pd_0 rfl) rfl (by show 2 * 0 + _ ≤ _; exact Nat.le_of_eq rfl) (hb hby own_d8_28)
  obtain ⟨rfl, Nq7, e7⟩ := Q7
  have N7 := Fr.app N4 Nq7
  refine Go.s (fun {t} => st7) ?_
  refine Go.s (fun kz => XS.aloadN X7.here hx rfl (hb hby own_d8_31) rfl rfl kz) ?_
  show Go p.tables e below P (T7.setTop (mkF m 32 #[oR a, oI (tc - tvr), oU] [(.ref a), (.int tvcl)]))
  obtain ⟨T8, X8, e8, st8⟩ := getF X7 hx hZ hown (host := "") (Or.inl (own_g hw 56 rfl)) Via.refl e7 F_a_left (g := (mkF m 32 #[oR a, oI (tc - tvr), oU] [(.ref a), (.int tvcl)])) rfl rfl (hb hby own_d8_32)
  refine Go.s (fun {t} => st8 t) ?_
  show Go p.tables e below P (T8.setTop (mkF m 35 #[oR a, oI (tc - tvr), oU] [(.ref ac), (.int tvcl)]))
  obtain ⟨T9, X9, e9, st9⟩ := getF X8 hx hZ hown (host := "") (Or.inl (own_g hw 58 rfl)) Via.refl e8 F_ac_right (g := (mkF m 35 #[oR a, oI (tc - tvr), oU] [(.ref ac), (.int tvcl)])) rfl rfl (hb hby own_d8_35)
  refine Go.s (fun {t} => st9 t) ?_
  show Go p.tables e below P (T9.setTop (mkF m 38 #[oR a, oI (tc - tvr), oU] [(.ref ad), (.int tvcl)]))
  obtain ⟨v10, T10, L10, X10, Q10, st10⟩ := Con.static (own_rm9 l Z a0 hw [] (.ref ad) td qd h0 n0 Z0 (Or.inr ⟨ad, rfl, F_ad_height, F_ad_quantity⟩)) X9 hx hZ (W := 1) hown (own_g hw 63 rfl) (own_g hw 64 rfl) (own_g hw 16 rfl) (own_g hw 65 rfl) (by decide) (by decide) (by decide) (by decide) (by decide) e9 (g := (mkF m 38 #[oR a, oI (tc - tvr), oU] [(.ref ad), (.int tvcl)])) rfl (by rw [hml]; rfl) (argsL := [(.ref ad)]) (rest := [(.int tvcl)]) rfl (lenOf own_pd_0 rfl) rfl (by show 2 * 0 + _ ≤ _; exact Nat.le_of_eq rfl) (hb hby own_d8_38)
  obtain ⟨rfl, Nq10, e10⟩ := Q10
  have N10 := Fr.app N7 Nq10
  refine Go.s (fun {t} => st10) ?_
  show Go p.tables e below P (T10.setTop (mkF m 41 #[oR a, oI (tc - tvr), oU] [(.int td), (.int tvcl)]))
  refine Go.s (fun kz => XS.icmpNo X10.here hx rfl (hb hby own_d8_41) rfl (XT.ii_ge_f hb3) kz) ?_
  show Go p.tables e below P (T10.setTop (mkF m 44 #[oR a, oI (tc - tvr), oU] []))
  refine Go.s (fun kz => XS.aloadN X10.here hx rfl (hb hby own_d8_44) rfl rfl kz) ?_
  refine Go.s (fun kz => XS.aloadN X10.here hx rfl (hb hby own_d8_45) rfl rfl kz) ?_
  show Go p.tables e below P (T10.setTop (mkF m 46 #[oR a, oI (tc - tvr), oU] [(.ref a), (.ref a)]))
  obtain ⟨T11, X11, e11, st11⟩ := getF X10 hx hZ hown (host := "") (Or.inl (own_g hw 56 rfl)) Via.refl e10 F_a_left (g := (mkF m 46 #[oR a, oI (tc - tvr), oU] [(.ref a), (.ref a)])) rfl rfl (hb hby own_d8_46)
  refine Go.s (fun {t} => st11 t) ?_
  show Go p.tables e below P (T11.setTop (mkF m 49 #[oR a, oI (tc - tvr), oU] [(.ref ac), (.ref a)]))
  obtain ⟨v12, T12, L12, X12, Q12, st12⟩ := Con.static (own_rmwr l Z a0 hw [] ac kc lc vcl ad tc qc kd ld vdl vdr td qd wc wd tvcl qvcl tvdl qvdl tvdr qvdr h0 n0 Z0 HQ_vcl HQ_vdl HQ_vdr E_ac G_ac F_ac_key F_ac_level F_ac_left F_ac_right F_ac_height F_ac_quantity E_ad G_ad F_ad_key F_ad_level F_ad_left F_ad_right F_ad_height F_ad_quantity E_lc G_lc F_lc_quantity E_ld G_ld F_ld_quantity ne_ac_ad ne_ac_lc ne_ac_ld ne_ad_lc ne_ad_ld ne_lc_ld nv_vcl_ac nv_vcl_ad nv_vcl_lc nv_vcl_ld nv_vdl_ac nv_vdl_ad nv_vdl_lc nv_vdl_ld nv_vdr_ac nv_vdr_ad nv_vdr_lc nv_vdr_ld) X11 hx hZ (W := 1) hown (own_g hw 87 rfl) (own_g hw 88 rfl) (own_g hw 16 rfl) (own_g hw 89 rfl) (by decide) (by decide) (by decide) (by decide) (by decide) e11 (g := (mkF m 49 #[oR a, oI (tc - tvr), oU] [(.ref ac), (.ref a)])) rfl (by rw [hml]; rfl) (argsL := [(.ref ac)]) (rest := [(.ref a)]) rfl (lenOf own_pd_4 rfl) rfl (by show 2 * 0 + _ ≤ _; exact Nat.le_of_eq rfl) (hb hby own_d8_49)
  obtain ⟨H12, e12⟩ : ∃ z, T12.heap = z := ⟨_, rfl⟩
  rw [e12] at Q12
  obtain ⟨rfl, Nq12, Kq12, Fp12_0, Fp12_1, Fp12_2, Fp12_3, Fp12_4, Fp12_5, Fp12_6, Fp12_7, Fp12_8, Fp12_9, Fp12_10, Fp12_11⟩ := Q12
  have N12 := Fr.app N10 Nq12
  have Zs12 := Nat.le_trans Z0 Kq12.1
  have f13 := Exa.keep E_a Kq12
  have f14 := Fld.keep F_a_key Kq12 (ninS ne_a_ac (ninS ne_a_ad nin0))
  have f15 := Fld.keep F_a_level Kq12 (ninS ne_a_ac (ninS ne_a_ad nin0))
  have f16 := Fld.keep F_a_left Kq12 (ninS ne_a_ac (ninS ne_a_ad nin0))
  have f17 := Fld.keep F_a_right Kq12 (ninS ne_a_ac (ninS ne_a_ad nin0))
  have f18 := Fld.keep F_a_height Kq12 (ninS ne_a_ac (ninS ne_a_ad nin0))
  have f19 := Fld.keep F_a_quantity Kq12 (ninS ne_a_ac (ninS ne_a_ad nin0))
  have f20 := Exa.keep E_ac Kq12
  have f27 := Exa.keep E_ad Kq12
  have f34 := Exa.keep E_la Kq12
  have f35 := Fld.keep F_la_quantity Kq12 (ninS (Ne.symm ne_ac_la) (ninS (Ne.symm ne_ad_la) nin0))
  have f36 := Exa.keep E_lc Kq12
  have f37 := Fld.keep F_lc_quantity Kq12 (ninS (Ne.symm ne_ac_lc) (ninS (Ne.symm ne_ad_lc) nin0))
  have f38 := Exa.keep E_ld Kq12
  have f39 := Fld.keep F_ld_quantity Kq12 (ninS (Ne.symm ne_ac_ld) (ninS (Ne.symm ne_ad_ld) nin0))
  have Q40 := HQ.keep HQ_vr Kq12 (allS nv_vr_ac (allS nv_vr_ad all0))
  have Q41 := HQ.keep HQ_vcl Kq12 (allS nv_vcl_ac (allS nv_vcl_ad all0))
  have Q42 := HQ.keep HQ_vdl Kq12 (allS nv_vdl_ac (allS nv_vdl_ad all0))
  have Q43 := HQ.keep HQ_vdr Kq12 (allS nv_vdr_ac (allS nv_vdr_ad all0))
  have K12 := (Keep.refl h0 [a, ac, ad]).trans Kq12 (allS (Or.inl (List.mem_of_getElem? (i := 1) rfl)) (allS (Or.inl (List.mem_of_getElem? (i := 2) rfl)) all0))
  refine Go.s (fun {t} => st12) ?_
  show Go p.tables e below P (T12.setTop (mkF m 52 #[oR a, oI (tc - tvr), oU] [(.ref ad), (.ref a)]))
  obtain ⟨T44, H44, X44, e44, W44, st44⟩ := putF X12 hx hZ hown (host := "") (Or.inl (own_g hw 56 rfl)) Via.refl e12 f16 f13 (Or.inl (own_g hw 57 rfl)) (own_g hw 37 rfl) (ty := (.object oN)) (by decide) rfl rfl (g := (mkF m 52 #[oR a, oI (tc - tvr), oU] [(.ref ad), (.ref a)])) rfl rfl (hb hby own_d8_52)
  refine Go.s (fun {t} => st44 t) ?_
  have Fw44 := Fld.same W44 f16
  have f45 := Exa.wr W44 f13
  have f46 := Fld.other W44 f14 (Or.inr (slot_ne (Or.inr (own_g hw 46 rfl)) (Or.inl (own_g hw 57 rfl)) (by decide) (t := .long) (t' := (.object oN)) (by decide) (by decide)))
  have f47 := Fld.other W44 f15 (Or.inr (slot_ne (Or.inr (own_g hw 48 rfl)) (Or.inl (own_g hw 57 rfl)) (by decide) (t := (.object oL)) (t' := (.object oN)) (by decide) (by decide)))
  have f49 := Fld.other W44 f17 (Or.inr (slot_ne (Or.inl (own_g hw 59 rfl)) (Or.inl (own_g hw 57 rfl)) (by decide) (t := (.object oN)) (t' := (.object oN)) (by decide) (by decide)))
  have f50 := Fld.other W44 f18 (Or.inr (slot_ne (Or.inl (own_g hw 44 rfl)) (Or.inl (own_g hw 57 rfl)) (by decide) (t := .int) (t' := (.object oN)) (by decide) (by decide)))
  have f51 := Fld.other W44 f19 (Or.inr (slot_ne (Or.inl (own_g hw 52 rfl)) (Or.inl (own_g hw 57 rfl)) (by decide) (t := .long) (t' := (.object oN)) (by decide) (by decide)))
  have f52 := Exa.wr W44 f20
  have f53 := Exa.wr W44 f27
  have f54 := Exa.wr W44 f34
  have f55 := Fld.other W44 f35 (Or.inl (Ne.symm ne_a_la))
  have f56 := Exa.wr W44 f36
  have f57 := Fld.other W44 f37 (Or.inl (Ne.symm ne_a_lc))
  have f58 := Exa.wr W44 f38
  have f59 := Fld.other W44 f39 (Or.inl (Ne.symm ne_a_ld))
  have f60 := Fld.other W44 Fp12_0 (Or.inl (Ne.symm ne_a_ac))
  have f61 := Fld.other W44 Fp12_1 (Or.inl (Ne.symm ne_a_ac))
  have f62 := Fld.other W44 Fp12_2 (Or.inl (Ne.symm ne_a_ac))
  have f63 := Fld.other W44 Fp12_3 (Or.inl (Ne.symm ne_a_ac))
  have f64 := Fld.other W44 Fp12_4 (Or.inl (Ne.symm ne_a_ac))
  have f65 := Fld.other W44 Fp12_5 (Or.inl (Ne.symm ne_a_ac))
  have f66 := Fld.other W44 Fp12_6 (Or.inl (Ne.symm ne_a_ad))
  have f67 := Fld.other W44 Fp12_7 (Or.inl (Ne.symm ne_a_ad))
  have f68 := Fld.other W44 Fp12_8 (Or.inl (Ne.symm ne_a_ad))
  have f69 := Fld.other W44 Fp12_9 (Or.inl (Ne.symm ne_a_ad))
  have f70 := Fld.other W44 Fp12_10 (Or.inl (Ne.symm ne_a_ad))
  have f71 := Fld.other W44 Fp12_11 (Or.inl (Ne.symm ne_a_ad))
  have Q72 := HQ.other Q40 W44 nv_vr_a
  have Q73 := HQ.other Q41 W44 nv_vcl_a
  have Q74 := HQ.other Q42 W44 nv_vdl_a
  have Q75 := HQ.other Q43 W44 nv_vdr_a
  have N44 := Fr.snoc X44 N12 G_a
  have Zs44 := Nat.le_trans Zs12 (Keep.of_wr W44).1
  have K44 : Keep h0 H44 [a, ac, ad] := K12.wr W44 (Or.inl (List.mem_of_getElem? (i := 0) rfl))
  refine Go.s (fun kz => XS.aloadN X44.here hx rfl (hb hby own_d8_55) rfl rfl kz) ?_
  show Go p.tables e below P (T44.setTop (mkF m 56 #[oR a, oI (tc - tvr), oU] [(.ref a)]))
  obtain ⟨v76, T76, L76, X76, Q76, st76⟩ := Con.static (own_rmwl l Z a0 hw [] a ka la ad vr ta qa kd ld (.ref ac) vdr ((own_f11 ((own_f11 tvcl tvdl) + (1 : Int32)) tvdr) + (1 : Int32)) ((((qvcl + wc) + qvdl) + wd) + qvdr) wa wd tvr qvr ((own_f11 tvcl tvdl) + (1 : Int32)) ((qvcl + wc) + qvdl) tvdr qvdr H44 n0 Zs44 Q72 (Or.inr ⟨ac, rfl, f60, f64⟩) Q75 f45 G_a f46 f47 Fw44 f49 f50 f51 f53 G_ad f67 f69 f68 f71 f66 f70 f54 G_la f55 f58 G_ld f59 ne_a_ad ne_a_la ne_a_ld ne_ad_la ne_ad_ld ne_la_ld nv_vr_a nv_vr_ad nv_vr_la nv_vr_ld (fun q => (Ne.symm ne_a_ac) (Value.ref.inj q)) (fun q => ne_ac_ad (Value.ref.inj q)) (fun q => ne_ac_la (Value.ref.inj q)) (fun q => ne_ac_ld (Value.ref.inj q)) nv_vdr_a nv_vdr_ad nv_vdr_la nv_vdr_ld) X44 hx hZ (W := 0) hown (own_g hw 83 rfl) (own_g hw 84 rfl) (own_g hw 16 rfl) (own_g hw 85 rfl) (by decide) (by decide) (by decide) (by decide) (by decide) e44 (g := (mkF m 56 #[oR a, oI (tc - tvr), oU] [(.ref a)])) rfl (by rw [hml]; rfl) (argsL := [(.ref a)]) (rest := []) rfl (lenOf own_pd_4 rfl) rfl (by show 2 * 0 + _ ≤ _; exact Nat.le_of_eq rfl) (hb hby own_d8_56)
  obtain ⟨H76, e76⟩ : ∃ z, T76.heap = z := ⟨_, rfl⟩
  rw [e76] at Q76
  obtain ⟨rfl, Nq76, Kq76, Fp76_0, Fp76_1, Fp76_2, Fp76_3, Fp76_4, Fp76_5, Fp76_6, Fp76_7, Fp76_8, Fp76_9, Fp76_10, Fp76_11⟩ := Q76
  have N76 := Fr.app N44 Nq76
  have Zs76 := Nat.le_trans Zs44 Kq76.1
  have f77 := Exa.keep f45 Kq76
  have f83 := Exa.keep f52 Kq76
  have f84 := Exa.keep f53 Kq76
  have f85 := Exa.keep f54 Kq76
  have f86 := Fld.keep f55 Kq76 (ninS (Ne.symm ne_a_la) (ninS (Ne.symm ne_ad_la) nin0))
  have f87 := Exa.keep f56 Kq76
  have f88 := Fld.keep f57 Kq76 (ninS (Ne.symm ne_a_lc) (ninS (Ne.symm ne_ad_lc) nin0))
  have f89 := Exa.keep f58 Kq76
  have f90 := Fld.keep f59 Kq76 (ninS (Ne.symm ne_a_ld) (ninS (Ne.symm ne_ad_ld) nin0))
  have f91 := Fld.keep f60 Kq76 (ninS (Ne.symm ne_a_ac) (ninS ne_ac_ad nin0))
  have f92 := Fld.keep f61 Kq76 (ninS (Ne.symm ne_a_ac) (ninS ne_ac_ad nin0))
  have f93 := Fld.keep f62 Kq76 (ninS (Ne.symm ne_a_ac) (ninS ne_ac_ad nin0))
  have f94 := Fld.keep f63 Kq76 (ninS (Ne.symm ne_a_ac) (ninS ne_ac_ad nin0))
  have f95 := Fld.keep f64 Kq76 (ninS (Ne.symm ne_a_ac) (ninS ne_ac_ad nin0))
  have f96 := Fld.keep f65 Kq76 (ninS (Ne.symm ne_a_ac) (ninS ne_ac_ad nin0))
  have Q104 := HQ.keep Q72 Kq76 (allS nv_vr_a (allS nv_vr_ad all0))
  have Q105 := HQ.keep Q73 Kq76 (allS nv_vcl_a (allS nv_vcl_ad all0))
  have Q106 := HQ.keep Q74 Kq76 (allS nv_vdl_a (allS nv_vdl_ad all0))
  have Q107 := HQ.keep Q75 Kq76 (allS nv_vdr_a (allS nv_vdr_ad all0))
  have K76 := K44.trans Kq76 (allS (Or.inl (List.mem_of_getElem? (i := 0) rfl)) (allS (Or.inl (List.mem_of_getElem? (i := 2) rfl)) all0))
  refine Go.s (fun {t} => st76) ?_
  refine Go.s (fun kz => XS.astoreN X76.here hx rfl (hb hby own_d8_59) rfl rfl (l' := #[oR a, oI (tc - tvr), oR ad]) rfl kz) ?_
  refine Go.s (fun kz => XS.goto X76.here hx rfl (pc0 := 60) (pc' := 116) rfl (hb hby own_d8_60) (by decide) (by decide) kz) ?_
  show Go p.tables e below P (T76.setTop (mkF m 116 #[oR a, oI (tc - tvr), oR ad] []))
  refine Go.s (fun kz => XS.aloadN X76.here hx rfl (hb hby own_d8_116) rfl rfl kz) ?_
  show Go p.tables e below P (T76.setTop (mkF m 117 #[oR a, oI (tc - tvr), oR ad] [(.ref ad)]))
  exact Go.retR X76 hx hlk hret rfl rfl (hb hby own_d8_117) (fun U hU hF => hP U _ _ (by rw [hU, e76]; exact ⟨rfl, N76, K76, Fp76_0, Fp76_1, Fp76_2, Fp76_3, Fp76_4, Fp76_5, f91, f92, f93, f94, f95, f96, Fp76_6, Fp76_7, Fp76_8, Fp76_9, Fp76_10, Fp76_11⟩) ⟨hF.1, hF.2.1, hF.2.2.mono (by decide) (by decide)⟩)
theorem own_efbrr (m : MethodId) (a : Addr) : entryFrame m #[(.ref a)] 3 = mkF m 0 #[oR a, oU, oU] [] := by
  (first | (simp [entryFrame, mkF, argsToLocals, Value.category]; done) | rfl)
theorem own_d8_68 : decode prog_29_method_14_code 68 = .ok (.aload_n 0, 1) := by decide +kernel
theorem own_d8_69 : decode prog_29_method_14_code 69 = .ok (.getfield 26, 3) := by decide +kernel
theorem own_d8_72 : decode prog_29_method_14_code 72 = .ok (.getfield 26, 3) := by decide +kernel
theorem own_d8_75 : decode prog_29_method_14_code 75 = .ok (.invokestatic 66, 3) := by decide +kernel
theorem own_d8_78 : decode prog_29_method_14_code 78 = .ok (.aload_n 0, 1) := by decide +kernel
theorem own_d8_79 : decode prog_29_method_14_code 79 = .ok (.getfield 26, 3) := by decide +kernel
theorem own_d8_82 : decode prog_29_method_14_code 82 = .ok (.getfield 23, 3) := by decide +kernel
theorem own_d8_85 : decode prog_29_method_14_code 85 = .ok (.invokestatic 66, 3) := by decide +kernel
theorem own_d8_88 : decode prog_29_method_14_code 88 = .ok (.if_icmp .ge 14, 3) := by decide +kernel
theorem own_d8_102 : decode prog_29_method_14_code 102 = .ok (.aload_n 0, 1) := by decide +kernel
theorem own_d8_103 : decode prog_29_method_14_code 103 = .ok (.invokestatic 70, 3) := by decide +kernel
theorem own_d8_106 : decode prog_29_method_14_code 106 = .ok (.astore_n 2, 1) := by decide +kernel
theorem own_d8_107 : decode prog_29_method_14_code 107 = .ok (.goto 9, 3) := by decide +kernel
set_option maxRecDepth 65536 in
set_option maxHeartbeats 40000000 in
theorem own_rmbrr (l : Launch) (Z : State) (a0 : Array Value) (hw : ∀ d ∈ tables_1, d.before a0 Z = true) (ws : List Jvm.Cond) (a : Nat) (ka : Int64) (la : Nat) (vl : Value) (ac : Nat) (ta : Int32) (qa : Int64) (kc : Int64) (lc : Nat) (vcl : Value) (vcr : Value) (tc : Int32) (qc : Int64) (wa : Int64) (wc : Int64) (tvl : Int32) (qvl : Int64) (tvcl : Int32) (qvcl : Int64) (tvcr : Int32) (qvcr : Int64) (h0 : Heap) (n0 : Nat) (Z0 : n0 ≤ h0.size) (HQ_vl : HQ Z h0 vl tvl qvl) (HQ_vcl : HQ Z h0 vcl tvcl qvcl) (HQ_vcr : HQ Z h0 vcr tvcr qvcr) (E_a : Exa Z h0 a oN) (G_a : n0 ≤ a) (F_a_key : Fld Z h0 a oN "key" "J" (.long ka)) (F_a_level : Fld Z h0 a oN "level" oLd (.ref la)) (F_a_left : Fld Z h0 a oN "left" oNd vl) (F_a_right : Fld Z h0 a oN "right" oNd (.ref ac)) (F_a_height : Fld Z h0 a oN "height" "I" (.int ta)) (F_a_quantity : Fld Z h0 a oN "quantity" "J" (.long qa)) (E_ac : Exa Z h0 ac oN) (G_ac : n0 ≤ ac) (F_ac_key : Fld Z h0 ac oN "key" "J" (.long kc)) (F_ac_level : Fld Z h0 ac oN "level" oLd (.ref lc)) (F_ac_left : Fld Z h0 ac oN "left" oNd vcl) (F_ac_right : Fld Z h0 ac oN "right" oNd vcr) (F_ac_height : Fld Z h0 ac oN "height" "I" (.int tc)) (F_ac_quantity : Fld Z h0 ac oN "quantity" "J" (.long qc)) (E_la : Exa Z h0 la oL) (G_la : n0 ≤ la) (F_la_quantity : Fld Z h0 la oL "quantity" "J" (.long wa)) (E_lc : Exa Z h0 lc oL) (G_lc : n0 ≤ lc) (F_lc_quantity : Fld Z h0 lc oL "quantity" "J" (.long wc)) (ne_a_ac : a ≠ ac) (ne_a_la : a ≠ la) (ne_a_lc : a ≠ lc) (ne_ac_la : ac ≠ la) (ne_ac_lc : ac ≠ lc) (ne_la_lc : la ≠ lc) (nv_vl_a : vl ≠ .ref a) (nv_vl_ac : vl ≠ .ref ac) (nv_vl_la : vl ≠ .ref la) (nv_vl_lc : vl ≠ .ref lc) (nv_vcl_a : vcl ≠ .ref a) (nv_vcl_ac : vcl ≠ .ref ac) (nv_vcl_la : vcl ≠ .ref la) (nv_vcl_lc : vcl ≠ .ref lc) (nv_vcr_a : vcr ≠ .ref a) (nv_vcr_ac : vcr ≠ .ref ac) (nv_vcr_la : vcr ≠ .ref la) (nv_vcr_lc : vcr ≠ .ref lc) (hb1 : ¬ (1 : Int32) < (tvl - tc)) (hb2 : (tvl - tc) < (-1 : Int32)) (hb3 : ¬ tvcr < tvcl) :
    Con l Z (⟨oT, "balanced", "(Lcom/example/rotunda/rotunda/LevelTree$Node;)Lcom/example/rotunda/rotunda/LevelTree$Node;"⟩ : MethodName) prog_29_method_14_code 3 (some (.object oN)) ws ({ frames := 3, cells := 0, slots := 0, locals := 40 } : Room) #[(.ref a)] h0 (fun v h L => v = some (.ref ac) ∧ Fr n0 L ∧ Keep h0 h [a, ac] ∧ Fld Z h a oN "height" "I" (.int ((own_f11 tvl tvcl) + (1 : Int32))) ∧ Fld Z h a oN "key" "J" (.long ka) ∧ Fld Z h a oN "left" oNd vl ∧ Fld Z h a oN "level" oLd (.ref la) ∧ Fld Z h a oN "quantity" "J" (.long ((qvl + wa) + qvcl)) ∧ Fld Z h a oN "right" oNd vcl ∧ Fld Z h ac oN "height" "I" (.int ((own_f11 ((own_f11 tvl tvcl) + (1 : Int32)) tvcr) + (1 : Int32))) ∧ Fld Z h ac oN "key" "J" (.long kc) ∧ Fld Z h ac oN "left" oNd (.ref a) ∧ Fld Z h ac oN "level" oLd (.ref lc) ∧ Fld Z h ac oN "quantity" "J" (.long ((((qvl + wa) + qvcl) + wc) + qvcr)) ∧ Fld Z h ac oN "right" oNd vcr) := by
  refine Con.intro (plainFor_of_name own_pn_0) ?_
  intro p e s m below meth c s₁ P hx hby hml hown hnm hret hlk hZ X0 e0 hP
  have N0 := Fr.nil n0
  have hown : s.vm.findClass oT = some m.cls := hown
  refine Go.cast (own_efbrr m a) ?_
  show Go p.tables e below P (s₁.setTop (mkF m 0 #[oR a, oU, oU] []))
  refine Go.s (fun kz => XS.aloadN X0.here hx rfl (hb hby own_d8_0) rfl rfl kz) ?_
  show Go p.tables e below P (s₁.setTop (mkF m 1 #[oR a, oU, oU] [(.ref a)]))
  obtain ⟨T1, X1, e1, st1⟩ := getF X0 hx hZ hown (host := "") (Or.inl (own_g hw 56 rfl)) Via.refl e0 F_a_left (g := (mkF m 1 #[oR a, oU, oU] [(.ref a)])) rfl rfl (hb hby own_d8_1)
  refine Go.s (fun {t} => st1 t) ?_
  show Go p.tables e below P (T1.setTop (mkF m 4 #[oR a, oU, oU] [vl]))
  obtain ⟨v2, T2, L2, X2, Q2, st2⟩ := Con.static (own_rm9 l Z a0 hw [] vl tvl qvl h0 n0 Z0 HQ_vl) X1 hx hZ (W := 0) hown (own_g hw 63 rfl) (own_g hw 64 rfl) (own_g hw 16 rfl) (own_g hw 65 rfl) (by decide) (by decide) (by decide) (by decide) (by decide) e1 (g := (mkF m 4 #[oR a, oU, oU] [vl])) rfl (by rw [hml]; rfl) (argsL := [vl]) (rest := []) rfl (lenOf own_pd_0 rfl) rfl (by show 2 * 0 + _ ≤ _; exact Nat.le_of_eq rfl) (hb hby own_d8_4)
  obtain ⟨rfl, Nq2, e2⟩ := Q2
  have N2 := Fr.app N0 Nq2
  refine Go.s (fun {t} => st2) ?_
  refine Go.s (fun kz => XS.aloadN X2.here hx rfl (hb hby own_d8_7) rfl rfl kz) ?_
  show Go p.tables e below P (T2.setTop (mkF m 8 #[oR a, oU, oU] [(.ref a), (.int tvl)]))
  obtain ⟨T3, X3, e3, st3⟩ := getF X2 hx hZ hown (host := "") (Or.inl (own_g hw 58 rfl)) Via.refl e2 F_a_right (g := (mkF m 8 #[oR a, oU, oU] [(.ref a), (.int tvl)])) rfl rfl (hb hby own_d8_8)
  refine Go.s (fun {t} => st3 t) ?_
  show Go p.tables e below P (T3.setTop (mkF m 11 #[oR a, oU, oU] [(.ref ac), (.int tvl)]))
  obtain ⟨v4, T4, L4, X4, Q4, st4⟩ := Con.static (own_rm9 l Z a0 hw [] (.ref ac) tc qc h0 n0 Z0 (Or.inr ⟨ac, rfl, F_ac_height, F_ac_quantity⟩)) X3 hx hZ (W := 1) hown (own_g hw 63 rfl) (own_g hw 64 rfl) (own_g hw 16 rfl) (own_g hw 65 rfl) (by decide) (by decide) (by decide) (by decide) (by decide) e3 (g := (mkF m 11 #[oR a, oU, oU] [(.ref ac), (.int tvl)])) rfl (by rw [hml]; rfl) (argsL := [(.ref ac)]) (rest := [(.int tvl)]) rfl (lenOf own_pd_0 rfl) rfl (by show 2 * 0 + _ ≤ _; exact Nat.le_of_eq rfl) (hb hby own_d8_11)
  obtain ⟨rfl, Nq4, e4⟩ := Q4
  have N4 := Fr.app N2 Nq4
  refine Go.s (fun {t} => st4) ?_
  refine Go.s (fun kz => XS.isub X4.here hx rfl (hb hby own_d8_14) rfl kz) ?_
  refine Go.s (fun kz => XS.istoreN X4.here hx rfl (hb hby own_d8_15) rfl (l' := #[oR a, oI (tvl - tc), oU]) rfl kz) ?_
  refine Go.s (fun kz => XS.iloadN X4.here hx rfl (hb hby own_d8_16) rfl kz) ?_
  show Go p.tables e below P (T4.setTop (mkF m 17 #[oR a, oI (tvl - tc), oU] [(.int (tvl - tc))]))
  refine Go.s (fun kz => XS.iconst X4.here hx rfl (hb hby own_d8_17) kz) ?_
  show Go p.tables e below P (T4.setTop (mkF m 18 #[oR a, oI (tvl - tc), oU] [(.int (1 : Int32)), (.int (tvl - tc))]))
  refine Go.s (fun kz => XS.icmpYes X4.here hx rfl (pc0 := 18) (pc' := 63) rfl (hb hby own_d8_18) rfl (XT.ii_le_t hb1) (by decide) (by decide) kz) ?_
  show Go p.tables e below P (T4.setTop (mkF m 63 #[oR a, oI (tvl - tc), oU] []))
  refine Go.s (fun kz => XS.iloadN X4.here hx rfl (hb hby own_d8_63) rfl kz) ?_
  refine Go.s (fun kz => XS.iconst X4.here hx rfl (hb hby own_d8_64) kz) ?_
  show Go p.tables e below P (T4.setTop (mkF m 65 #[oR a, oI (tvl - tc), oU] [(.int (-1 : Int32)), (.int (tvl - tc))]))
  refine Go.s (fun kz => XS.icmpNo X4.here hx rfl (hb hby own_d8_65) rfl (XT.ii_ge_f hb2) kz) ?_
  show Go p.tables e below P (T4.setTop (mkF m 68 #[oR a, oI (tvl - tc), oU] []))
  refine Go.s (fun kz => XS.aloadN X4.here hx rfl (hb hby own_d8_68) rfl rfl kz) ?_
  show Go p.tables e below P (T4.setTop (mkF m 69 #[oR a, oI (tvl - tc), oU] [(.ref a)]))
  obtain ⟨T5, X5, e5, st5⟩ := getF X4 hx hZ hown (host := "") (Or.inl (own_g hw 58 rfl)) Via.refl e4 F_a_right (g := (mkF m 69 #[oR a, oI (tvl - tc), oU] [(.ref a)])) rfl rfl (hb hby own_d8_69)
  refine Go.s (fun {t} => st5 t) ?_
  show Go p.tables e below P (T5.setTop (mkF m 72 #[oR a, oI (tvl - tc), oU] [(.ref ac)]))
  obtain ⟨T6, X6, e6, st6⟩ := getF X5 hx hZ hown (host := "") (Or.inl (own_g hw 58 rfl)) Via.refl e5 F_ac_right (g := (mkF m 72 #[oR a, oI (tvl - tc), oU] [(.ref ac)])) rfl rfl (hb hby own_d8_72)
  refine Go.s (fun {t} => st6 t) ?_
  show Go p.tables e below P (T6.setTop (mkF m 75 #[oR a, oI (tvl - tc), oU] [vcr]))
  obtain ⟨v7, T7, L7, X7, Q7, st7⟩ := Con.static (own_rm9 l Z a0 hw [] vcr tvcr qvcr h0 n0 Z0 HQ_vcr) X6 hx hZ (W := 0) hown (own_g hw 63 rfl) (own_g hw 64 rfl) (own_g hw 16 rfl) (own_g hw 65 rfl) (by decide) (by decide) (by decide) (by decide) (by decide) e6 (g := (mkF m 75 #[oR a, oI (tvl - tc), oU] [vcr])) rfl (by rw [hml]; rfl) (argsL := [vcr]) (rest := []) rfl (lenOf own_pd_0 rfl) rfl (by show 2 * 0 + _ ≤ _; exact Nat.le_of_eq rfl) (hb hby own_d8_75)
  obtain ⟨rfl, Nq7, e7⟩ := Q7
  have N7 := Fr.app N4 Nq7
  refine Go.s (fun {t} => st7) ?_
  refine Go.s (fun kz => XS.aloadN X7.here hx rfl (hb hby own_d8_78) rfl rfl kz) ?_
  show Go p.tables e below P (T7.setTop (mkF m 79 #[oR a, oI (tvl - tc), oU] [(.ref a), (.int tvcr)]))
  obtain ⟨T8, X8, e8, st8⟩ := getF X7 hx hZ hown (host := "") (Or.inl (own_g hw 58 rfl)) Via.refl e7 F_a_right (g := (mkF m 79 #[oR a, oI (tvl - tc), oU] [(.ref a), (.int tvcr)])) rfl rfl (hb hby own_d8_79)
  refine Go.s (fun {t} => st8 t) ?_
  show Go p.tables e below P (T8.setTop (mkF m 82 #[oR a, oI (tvl - tc), oU] [(.ref ac), (.int tvcr)]))
  obtain ⟨T9, X9, e9, st9⟩ := getF X8 hx hZ hown (host := "") (Or.inl (own_g hw 56 rfl)) Via.refl e8 F_ac_left (g := (mkF m 82 #[oR a, oI (tvl - tc), oU] [(.ref ac), (.int tvcr)])) rfl rfl (hb hby own_d8_82)
  refine Go.s (fun {t} => st9 t) ?_
  show Go p.tables e below P (T9.setTop (mkF m 85 #[oR a, oI (tvl - tc), oU] [vcl, (.int tvcr)]))
  obtain ⟨v10, T10, L10, X10, Q10, st10⟩ := Con.static (own_rm9 l Z a0 hw [] vcl tvcl qvcl h0 n0 Z0 HQ_vcl) X9 hx hZ (W := 1) hown (own_g hw 63 rfl) (own_g hw 64 rfl) (own_g hw 16 rfl) (own_g hw 65 rfl) (by decide) (by decide) (by decide) (by decide) (by decide) e9 (g := (mkF m 85 #[oR a, oI (tvl - tc), oU] [vcl, (.int tvcr)])) rfl (by rw [hml]; rfl) (argsL := [vcl]) (rest := [(.int tvcr)]) rfl (lenOf own_pd_0 rfl) rfl (by show 2 * 0 + _ ≤ _; exact Nat.le_of_eq rfl) (hb hby own_d8_85)
  obtain ⟨rfl, Nq10, e10⟩ := Q10
  have N10 := Fr.app N7 Nq10
  refine Go.s (fun {t} => st10) ?_
  show Go p.tables e below P (T10.setTop (mkF m 88 #[oR a, oI (tvl - tc), oU] [(.int tvcl), (.int tvcr)]))
  refine Go.s (fun kz => XS.icmpYes X10.here hx rfl (pc0 := 88) (pc' := 102) rfl (hb hby own_d8_88) rfl (XT.ii_ge_t hb3) (by decide) (by decide) kz) ?_
  show Go p.tables e below P (T10.setTop (mkF m 102 #[oR a, oI (tvl - tc), oU] []))
  refine Go.s (fun kz => XS.aloadN X10.here hx rfl (hb hby own_d8_102) rfl rfl kz) ?_
  show Go p.tables e below P (T10.setTop (mkF m 103 #[oR a, oI (tvl - tc), oU] [(.ref a)]))
  obtain ⟨v11, T11, L11, X11, Q11, st11⟩ := Con.static (own_rmwr l Z a0 hw [] a ka la vl ac ta qa kc lc vcl vcr tc qc wa wc tvl qvl tvcl qvcl tvcr qvcr h0 n0 Z0 HQ_vl HQ_vcl HQ_vcr E_a G_a F_a_key F_a_level F_a_left F_a_right F_a_height F_a_quantity E_ac G_ac F_ac_key F_ac_level F_ac_left F_ac_right F_ac_height F_ac_quantity E_la G_la F_la_quantity E_lc G_lc F_lc_quantity ne_a_ac ne_a_la ne_a_lc ne_ac_la ne_ac_lc ne_la_lc nv_vl_a nv_vl_ac nv_vl_la nv_vl_lc nv_vcl_a nv_vcl_ac nv_vcl_la nv_vcl_lc nv_vcr_a nv_vcr_ac nv_vcr_la nv_vcr_lc) X10 hx hZ (W := 0) hown (own_g hw 87 rfl) (own_g hw 88 rfl) (own_g hw 16 rfl) (own_g hw 89 rfl) (by decide) (by decide) (by decide) (by decide) (by decide) e10 (g := (mkF m 103 #[oR a, oI (tvl - tc), oU] [(.ref a)])) rfl (by rw [hml]; rfl) (argsL := [(.ref a)]) (rest := []) rfl (lenOf own_pd_4 rfl) rfl (by show 2 * 0 + _ ≤ _; exact Nat.le_of_eq rfl) (hb hby own_d8_103)
  obtain ⟨H11, e11⟩ : ∃ z, T11.heap = z := ⟨_, rfl⟩
  rw [e11] at Q11
  obtain ⟨rfl, Nq11, Kq11, Fp11_0, Fp11_1, Fp11_2, Fp11_3, Fp11_4, Fp11_5, Fp11_6, Fp11_7, Fp11_8, Fp11_9, Fp11_10, Fp11_11⟩ := Q11
  have N11 := Fr.app N10 Nq11
  have Zs11 := Nat.le_trans Z0 Kq11.1
  have f12 := Exa.keep E_a Kq11
  have f19 := Exa.keep E_ac Kq11
  have f26 := Exa.keep E_la Kq11
  have f27 := Fld.keep F_la_quantity Kq11 (ninS (Ne.symm ne_a_la) (ninS (Ne.symm ne_ac_la) nin0))
  have f28 := Exa.keep E_lc Kq11
  have f29 := Fld.keep F_lc_quantity Kq11 (ninS (Ne.symm ne_a_lc) (ninS (Ne.symm ne_ac_lc) nin0))
  have Q30 := HQ.keep HQ_vl Kq11 (allS nv_vl_a (allS nv_vl_ac all0))
  have Q31 := HQ.keep HQ_vcl Kq11 (allS nv_vcl_a (allS nv_vcl_ac all0))
  have Q32 := HQ.keep HQ_vcr Kq11 (allS nv_vcr_a (allS nv_vcr_ac all0))
  have K11 := (Keep.refl h0 [a, ac]).trans Kq11 (allS (Or.inl (List.mem_of_getElem? (i := 0) rfl)) (allS (Or.inl (List.mem_of_getElem? (i := 1) rfl)) all0))
  refine Go.s (fun {t} => st11) ?_
  refine Go.s (fun kz => XS.astoreN X11.here hx rfl (hb hby own_d8_106) rfl rfl (l' := #[oR a, oI (tvl - tc), oR ac]) rfl kz) ?_
  refine Go.s (fun kz => XS.goto X11.here hx rfl (pc0 := 107) (pc' := 116) rfl (hb hby own_d8_107) (by decide) (by decide) kz) ?_
  show Go p.tables e below P (T11.setTop (mkF m 116 #[oR a, oI (tvl - tc), oR ac] []))
  refine Go.s (fun kz => XS.aloadN X11.here hx rfl (hb hby own_d8_116) rfl rfl kz) ?_
  show Go p.tables e below P (T11.setTop (mkF m 117 #[oR a, oI (tvl - tc), oR ac] [(.ref ac)]))
  exact Go.retR X11 hx hlk hret rfl rfl (hb hby own_d8_117) (fun U hU hF => hP U _ _ (by rw [hU, e11]; exact ⟨rfl, N11, K11, Fp11_0, Fp11_1, Fp11_2, Fp11_3, Fp11_4, Fp11_5, Fp11_6, Fp11_7, Fp11_8, Fp11_9, Fp11_10, Fp11_11⟩) ⟨hF.1, hF.2.1, hF.2.2.mono (by decide) (by decide)⟩)
theorem own_efbrl (m : MethodId) (a : Addr) : entryFrame m #[(.ref a)] 3 = mkF m 0 #[oR a, oU, oU] [] := by
  (first | (simp [entryFrame, mkF, argsToLocals, Value.category]; done) | rfl)
theorem own_d8_91 : decode prog_29_method_14_code 91 = .ok (.aload_n 0, 1) := by decide +kernel
theorem own_d8_92 : decode prog_29_method_14_code 92 = .ok (.aload_n 0, 1) := by decide +kernel
theorem own_d8_93 : decode prog_29_method_14_code 93 = .ok (.getfield 26, 3) := by decide +kernel
theorem own_d8_96 : decode prog_29_method_14_code 96 = .ok (.invokestatic 73, 3) := by decide +kernel
theorem own_d8_99 : decode prog_29_method_14_code 99 = .ok (.putfield 26, 3) := by decide +kernel
set_option maxRecDepth 65536 in
set_option maxHeartbeats 40000000 in
theorem own_rmbrl (l : Launch) (Z : State) (a0 : Array Value) (hw : ∀ d ∈ tables_1, d.before a0 Z = true) (ws : List Jvm.Cond) (a : Nat) (ka : Int64) (la : Nat) (vl : Value) (ac : Nat) (ta : Int32) (qa : Int64) (kc : Int64) (lc : Nat) (ad : Nat) (vcr : Value) (tc : Int32) (qc : Int64) (kd : Int64) (ld : Nat) (vdl : Value) (vdr : Value) (td : Int32) (qd : Int64) (wa : Int64) (wc : Int64) (wd : Int64) (tvl : Int32) (qvl : Int64) (tvcr : Int32) (qvcr : Int64) (tvdl : Int32) (qvdl : Int64) (tvdr : Int32) (qvdr : Int64) (h0 : Heap) (n0 : Nat) (Z0 : n0 ≤ h0.size) (HQ_vl : HQ Z h0 vl tvl qvl) (HQ_vcr : HQ Z h0 vcr tvcr qvcr) (HQ_vdl : HQ Z h0 vdl tvdl qvdl) (HQ_vdr : HQ Z h0 vdr tvdr qvdr) (E_a : Exa Z h0 a oN) (G_a : n0 ≤ a) (F_a_key : Fld Z h0 a oN "key" "J" (.long ka)) (F_a_level : Fld Z h0 a oN "level" oLd (.ref la)) (F_a_left : Fld Z h0 a oN "left" oNd vl) (F_a_right : Fld Z h0 a oN "right" oNd (.ref ac)) (F_a_height : Fld Z h0 a oN "height" "I" (.int ta)) (F_a_quantity : Fld Z h0 a oN "quantity" "J" (.long qa)) (E_ac : Exa Z h0 ac oN) (G_ac : n0 ≤ ac) (F_ac_key : Fld Z h0 ac oN "key" "J" (.long kc)) (F_ac_level : Fld Z h0 ac oN "level" oLd (.ref lc)) (F_ac_left : Fld Z h0 ac oN "left" oNd (.ref ad)) (F_ac_right : Fld Z h0 ac oN "right" oNd vcr) (F_ac_height : Fld Z h0 ac oN "height" "I" (.int tc)) (F_ac_quantity : Fld Z h0 ac oN "quantity" "J" (.long qc)) (E_ad : Exa Z h0 ad oN) (G_ad : n0 ≤ ad) (F_ad_key : Fld Z h0 ad oN "key" "J" (.long kd)) (F_ad_level : Fld Z h0 ad oN "level" oLd (.ref ld)) (F_ad_left : Fld Z h0 ad oN "left" oNd vdl) (F_ad_right : Fld Z h0 ad oN "right" oNd vdr) (F_ad_height : Fld Z h0 ad oN "height" "I" (.int td)) (F_ad_quantity : Fld Z h0 ad oN "quantity" "J" (.long qd)) (E_la : Exa Z h0 la oL) (G_la : n0 ≤ la) (F_la_quantity : Fld Z h0 la oL "quantity" "J" (.long wa)) (E_lc : Exa Z h0 lc oL) (G_lc : n0 ≤ lc) (F_lc_quantity : Fld Z h0 lc oL "quantity" "J" (.long wc)) (E_ld : Exa Z h0 ld oL) (G_ld : n0 ≤ ld) (F_ld_quantity : Fld Z h0 ld oL "quantity" "J" (.long wd)) (ne_a_ac : a ≠ ac) (ne_a_ad : a ≠ ad) (ne_a_la : a ≠ la) (ne_a_lc : a ≠ lc) (ne_a_ld : a ≠ ld) (ne_ac_ad : ac ≠ ad) (ne_ac_la : ac ≠ la) (ne_ac_lc : ac ≠ lc) (ne_ac_ld : ac ≠ ld) (ne_ad_la : ad ≠ la) (ne_ad_lc : ad ≠ lc) (ne_ad_ld : ad ≠ ld) (ne_la_lc : la ≠ lc) (ne_la_ld : la ≠ ld) (ne_lc_ld : lc ≠ ld) (nv_vl_a : vl ≠ .ref a) (nv_vl_ac : vl ≠ .ref ac) (nv_vl_ad : vl ≠ .ref ad) (nv_vl_la : vl ≠ .ref la) (nv_vl_lc : vl ≠ .ref lc) (nv_vl_ld : vl ≠ .ref ld) (nv_vcr_a : vcr ≠ .ref a) (nv_vcr_ac : vcr ≠ .ref ac) (nv_vcr_ad : vcr ≠ .ref ad) (nv_vcr_la : vcr ≠ .ref la) (nv_vcr_lc : vcr ≠ .ref lc) (nv_vcr_ld : vcr ≠ .ref ld) (nv_vdl_a : vdl ≠ .ref a) (nv_vdl_ac : vdl ≠ .ref ac) (nv_vdl_ad : vdl ≠ .ref ad) (nv_vdl_la : vdl ≠ .ref la) (nv_vdl_lc : vdl ≠ .ref lc) (nv_vdl_ld : vdl ≠ .ref ld) (nv_vdr_a : vdr ≠ .ref a) (nv_vdr_ac : vdr ≠ .ref ac) (nv_vdr_ad : vdr ≠ .ref ad) (nv_vdr_la : vdr ≠ .ref la) (nv_vdr_lc : vdr ≠ .ref lc) (nv_vdr_ld : vdr ≠ .ref ld) (hb1 : ¬ (1 : Int32) < (tvl - tc)) (hb2 : (tvl - tc) < (-1 : Int32)) (hb3 : tvcr < td) :
    Con l Z (⟨oT, "balanced", "(Lcom/example/rotunda/rotunda/LevelTree$Node;)Lcom/example/rotunda/rotunda/LevelTree$Node;"⟩ : MethodName) prog_29_method_14_code 3 (some (.object oN)) ws ({ frames := 3, cells := 0, slots := 0, locals := 41 } : Room) #[(.ref a)] h0 (fun v h L => v = some (.ref ad) ∧ Fr n0 L ∧ Keep h0 h [a, ac, ad] ∧ Fld Z h a oN "height" "I" (.int ((own_f11 tvl tvdl) + (1 : Int32))) ∧ Fld Z h a oN "key" "J" (.long ka) ∧ Fld Z h a oN "left" oNd vl ∧ Fld Z h a oN "level" oLd (.ref la) ∧ Fld Z h a oN "quantity" "J" (.long ((qvl + wa) + qvdl)) ∧ Fld Z h a oN "right" oNd vdl ∧ Fld Z h ac oN "height" "I" (.int ((own_f11 tvdr tvcr) + (1 : Int32))) ∧ Fld Z h ac oN "key" "J" (.long kc) ∧ Fld Z h ac oN "left" oNd vdr ∧ Fld Z h ac oN "level" oLd (.ref lc) ∧ Fld Z h ac oN "quantity" "J" (.long ((qvdr + wc) + qvcr)) ∧ Fld Z h ac oN "right" oNd vcr ∧ Fld Z h ad oN "height" "I" (.int ((own_f11 ((own_f11 tvl tvdl) + (1 : Int32)) ((own_f11 tvdr tvcr) + (1 : Int32))) + (1 : Int32))) ∧ Fld Z h ad oN "key" "J" (.long kd) ∧ Fld Z h ad oN "left" oNd (.ref a) ∧ Fld Z h ad oN "level" oLd (.ref ld) ∧ Fld Z h ad oN "quantity" "J" (.long ((((qvl + wa) + qvdl) + wd) + ((qvdr + wc) + qvcr))) ∧ Fld Z h ad oN "right" oNd (.ref ac)) := by
  refine Con.intro (plainFor_of_name own_pn_0) ?_
  intro p e s m below meth c s₁ P hx hby hml hown hnm hret hlk hZ X0 e0 hP
  have N0 := Fr.nil n0
  have hown : s.vm.findClass oT = some m.cls := hown
  refine Go.cast (own_efbrl m a) ?_
  show Go p.tables e below P (s₁.setTop (mkF m 0 #[oR a, oU, oU] []))
  refine Go.s (fun kz => XS.aloadN X0.here hx rfl (hb hby own_d8_0) rfl rfl kz) ?_
  show Go p.tables e below P (s₁.setTop (mkF m 1 #[oR a, oU, oU] [(.ref a)]))
  obtain ⟨T1, X1, e1, st1⟩ := getF X0 hx hZ hown (host := "") (Or.inl (own_g hw 56 rfl)) Via.refl e0 F_a_left (g := (mkF m 1 #[oR a, oU, oU] [(.ref a)])) rfl rfl (hb hby own_d8_1)
  refine Go.s (fun {t} => st1 t) ?_
  show Go p.tables e below P (T1.setTop (mkF m 4 #[oR a, oU, oU] [vl]))
  obtain ⟨v2, T2, L2, X2, Q2, st2⟩ := Con.static (own_rm9 l Z a0 hw [] vl tvl qvl h0 n0 Z0 HQ_vl) X1 hx hZ (W := 0) hown (own_g hw 63 rfl) (own_g hw 64 rfl) (own_g hw 16 rfl) (own_g hw 65 rfl) (by decide) (by decide) (by decide) (by decide) (by decide) e1 (g := (mkF m 4 #[oR a, oU, oU] [vl])) rfl (by rw [hml]; rfl) (argsL := [vl]) (rest := []) rfl (lenOf own_pd_0 rfl) rfl (by show 2 * 0 + _ ≤ _; exact Nat.le_of_eq rfl) (hb hby own_d8_4)
  obtain ⟨rfl, Nq2, e2⟩ := Q2
  have N2 := Fr.app N0 Nq2
  refine Go.s (fun {t} => st2) ?_
  refine Go.s (fun kz => XS.aloadN X2.here hx rfl (hb hby own_d8_7) rfl rfl kz) ?_
  show Go p.tables e below P (T2.setTop (mkF m 8 #[oR a, oU, oU] [(.ref a), (.int tvl)]))
  obtain ⟨T3, X3, e3, st3⟩ := getF X2 hx hZ hown (host := "") (Or.inl (own_g hw 58 rfl)) Via.refl e2 F_a_right (g := (mkF m 8 #[oR a, oU, oU] [(.ref a), (.int tvl)])) rfl rfl (hb hby own_d8_8)
  refine Go.s (fun {t} => st3 t) ?_
  show Go p.tables e below P (T3.setTop (mkF m 11 #[oR a, oU, oU] [(.ref ac), (.int tvl)]))
  obtain ⟨v4, T4, L4, X4, Q4, st4⟩ := Con.static (own_rm9 l Z a0 hw [] (.ref ac) tc qc h0 n0 Z0 (Or.inr ⟨ac, rfl, F_ac_height, F_ac_quantity⟩)) X3 hx hZ (W := 1) hown (own_g hw 63 rfl) (own_g hw 64 rfl) (own_g hw 16 rfl) (own_g hw 65 rfl) (by decide) (by decide) (by decide) (by decide) (by decide) e3 (g := (mkF m 11 #[oR a, oU, oU] [(.ref ac), (.int tvl)])) rfl (by rw [hml]; rfl) (argsL := [(.ref ac)]) (rest := [(.int tvl)]) rfl (lenOf own_pd_0 rfl) rfl (by show 2 * 0 + _ ≤ _; exact Nat.le_of_eq rfl) (hb hby own_d8_11)
  obtain ⟨rfl, Nq4, e4⟩ := Q4
  have N4 := Fr.app N2 Nq4
  refine Go.s (fun {t} => st4) ?_
  refine Go.s (fun kz => XS.isub X4.here hx rfl (hb hby own_d8_14) rfl kz) ?_
  refine Go.s (fun kz => XS.istoreN X4.here hx rfl (hb hby own_d8_15) rfl (l' := #[oR a, oI (tvl - tc), oU]) rfl kz) ?_
  refine Go.s (fun kz => XS.iloadN X4.here hx rfl (hb hby own_d8_16) rfl kz) ?_
  show Go p.tables e below P (T4.setTop (mkF m 17 #[oR a, oI (tvl - tc), oU] [(.int (tvl - tc))]))
  refine Go.s (fun kz => XS.iconst X4.here hx rfl (hb hby own_d8_17) kz) ?_
  show Go p.tables e below P (T4.setTop (mkF m 18 #[oR a, oI (tvl - tc), oU] [(.int (1 : Int32)), (.int (tvl - tc))]))
  refine Go.s (fun kz => XS.icmpYes X4.here hx rfl (pc0 := 18) (pc' := 63) rfl (hb hby own_d8_18) rfl (XT.ii_le_t hb1) (by decide) (by decide) kz) ?_
  show Go p.tables e below P (T4.setTop (mkF m 63 #[oR a, oI (tvl - tc), oU] []))
  refine Go.s (fun kz => XS.iloadN X4.here hx rfl (hb hby own_d8_63) rfl kz) ?_
  refine Go.s (fun kz => XS.iconst X4.here hx rfl (hb hby own_d8_64) kz) ?_
  show Go p.tables e below P (T4.setTop (mkF m 65 #[oR a, oI (tvl - tc), oU] [(.int (-1 : Int32)), (.int (tvl - tc))]))
  refine Go.s (fun kz => XS.icmpNo X4.here hx rfl (hb hby own_d8_65) rfl (XT.ii_ge_f hb2) kz) ?_
  show Go p.tables e below P (T4.setTop (mkF m 68 #[oR a, oI (tvl - tc), oU] []))
  refine Go.s (fun kz => XS.aloadN X4.here hx rfl (hb hby own_d8_68) rfl rfl kz) ?_
  show Go p.tables e below P (T4.setTop (mkF m 69 #[oR a, oI (tvl - tc), oU] [(.ref a)]))
  obtain ⟨T5, X5, e5, st5⟩ := getF X4 hx hZ hown (host := "") (Or.inl (own_g hw 58 rfl)) Via.refl e4 F_a_right (g := (mkF m 69 #[oR a, oI (tvl - tc), oU] [(.ref a)])) rfl rfl (hb hby own_d8_69)
  refine Go.s (fun {t} => st5 t) ?_
  show Go p.tables e below P (T5.setTop (mkF m 72 #[oR a, oI (tvl - tc), oU] [(.ref ac)]))
  obtain ⟨T6, X6, e6, st6⟩ := getF X5 hx hZ hown (host := "") (Or.inl (own_g hw 58 rfl)) Via.refl e5 F_ac_right (g := (mkF m 72 #[oR a, oI (tvl - tc), oU] [(.ref ac)])) rfl rfl (hb hby own_d8_72)
  refine Go.s (fun {t} => st6 t) ?_
  show Go p.tables e below P (T6.setTop (mkF m 75 #[oR a, oI (tvl - tc), oU] [vcr]))
  obtain ⟨v7, T7, L7, X7, Q7, st7⟩ := Con.static (own_rm9 l Z a0 hw [] vcr tvcr qvcr h0 n0 Z0 HQ_vcr) X6 hx hZ (W := 0) hown (own_g hw 63 rfl) (own_g hw 64 rfl) (own_g hw 16 rfl) (own_g hw 65 rfl) (by decide) (by decide) (by decide) (by decide) (by decide) e6 (g := (mkF m 75 #[oR a, oI (tvl - tc), oU] [vcr])) rfl (by rw [hml]; rfl) (argsL := [vcr]) (rest := []) rfl (lenOf own_pd_0 rfl) rfl (by show 2 * 0 + _ ≤ _; exact Nat.le_of_eq rfl) (hb hby own_d8_75)
  obtain ⟨rfl, Nq7, e7⟩ := Q7
  have N7 := Fr.app N4 Nq7
  refine Go.s (fun {t} => st7) ?_
  refine Go.s (fun kz => XS.aloadN X7.here hx rfl (hb hby own_d8_78) rfl rfl kz) ?_
  show Go p.tables e below P (T7.setTop (mkF m 79 #[oR a, oI (tvl - tc), oU] [(.ref a), (.int tvcr)]))
  obtain ⟨T8, X8, e8, st8⟩ := getF X7 hx hZ hown (host := "") (Or.inl (own_g hw 58 rfl)) Via.refl e7 F_a_right (g := (mkF m 79 #[oR a, oI (tvl - tc), oU] [(.ref a), (.int tvcr)])) rfl rfl (hb hby own_d8_79)
  refine Go.s (fun {t} => st8 t) ?_
  show Go p.tables e below P (T8.setTop (mkF m 82 #[oR a, oI (tvl - tc), oU] [(.ref ac), (.int tvcr)]))
  obtain ⟨T9, X9, e9, st9⟩ := getF X8 hx hZ hown (host := "") (Or.inl (own_g hw 56 rfl)) Via.refl e8 F_ac_left (g := (mkF m 82 #[oR a, oI (tvl - tc), oU] [(.ref ac), (.int tvcr)])) rfl rfl (hb hby own_d8_82)
  refine Go.s (fun {t} => st9 t) ?_
  show Go p.tables e below P (T9.setTop (mkF m 85 #[oR a, oI (tvl - tc), oU] [(.ref ad), (.int tvcr)]))
  obtain ⟨v10, T10, L10, X10, Q10, st10⟩ := Con.static (own_rm9 l Z a0 hw [] (.ref ad) td qd h0 n0 Z0 (Or.inr ⟨ad, rfl, F_ad_height, F_ad_quantity⟩)) X9 hx hZ (W := 1) hown (own_g hw 63 rfl) (own_g hw 64 rfl) (own_g hw 16 rfl) (own_g hw 65 rfl) (by decide) (by decide) (by decide) (by decide) (by decide) e9 (g := (mkF m 85 #[oR a, oI (tvl - tc), oU] [(.ref ad), (.int tvcr)])) rfl (by rw [hml]; rfl) (argsL := [(.ref ad)]) (rest := [(.int tvcr)]) rfl (lenOf own_pd_0 rfl) rfl (by show 2 * 0 + _ ≤ _; exact Nat.le_of_eq rfl) (hb hby own_d8_85)
  obtain ⟨rfl, Nq10, e10⟩ := Q10
  have N10 := Fr.app N7 Nq10
  refine Go.s (fun {t} => st10) ?_
  show Go p.tables e below P (T10.setTop (mkF m 88 #[oR a, oI (tvl - tc), oU] [(.int td), (.int tvcr)]))
  refine Go.s (fun kz => XS.icmpNo X10.here hx rfl (hb hby own_d8_88) rfl (XT.ii_ge_f hb3) kz) ?_
  show Go p.tables e below P (T10.setTop (mkF m 91 #[oR a, oI (tvl - tc), oU] []))
  refine Go.s (fun kz => XS.aloadN X10.here hx rfl (hb hby own_d8_91) rfl rfl kz) ?_
  refine Go.s (fun kz => XS.aloadN X10.here hx rfl (hb hby own_d8_92) rfl rfl kz) ?_
  show Go p.tables e below P (T10.setTop (mkF m 93 #[oR a, oI (tvl - tc), oU] [(.ref a), (.ref a)]))
  obtain ⟨T11, X11, e11, st11⟩ := getF X10 hx hZ hown (host := "") (Or.inl (own_g hw 58 rfl)) Via.refl e10 F_a_right (g := (mkF m 93 #[oR a, oI (tvl - tc), oU] [(.ref a), (.ref a)])) rfl rfl (hb hby own_d8_93)
  refine Go.s (fun {t} => st11 t) ?_
  show Go p.tables e below P (T11.setTop (mkF m 96 #[oR a, oI (tvl - tc), oU] [(.ref ac), (.ref a)]))
  obtain ⟨v12, T12, L12, X12, Q12, st12⟩ := Con.static (own_rmwl l Z a0 hw [] ac kc lc ad vcr tc qc kd ld vdl vdr td qd wc wd tvcr qvcr tvdl qvdl tvdr qvdr h0 n0 Z0 HQ_vcr HQ_vdl HQ_vdr E_ac G_ac F_ac_key F_ac_level F_ac_left F_ac_right F_ac_height F_ac_quantity E_ad G_ad F_ad_key F_ad_level F_ad_left F_ad_right F_ad_height F_ad_quantity E_lc G_lc F_lc_quantity E_ld G_ld F_ld_quantity ne_ac_ad ne_ac_lc ne_ac_ld ne_ad_lc ne_ad_ld ne_lc_ld nv_vcr_ac nv_vcr_ad nv_vcr_lc nv_vcr_ld nv_vdl_ac nv_vdl_ad nv_vdl_lc nv_vdl_ld nv_vdr_ac nv_vdr_ad nv_vdr_lc nv_vdr_ld) X11 hx hZ (W := 1) hown (own_g hw 83 rfl) (own_g hw 84 rfl) (own_g hw 16 rfl) (own_g hw 85 rfl) (by decide) (by decide) (by decide) (by decide) (by decide) e11 (g := (mkF m 96 #[oR a, oI (tvl - tc), oU] [(.ref ac), (.ref a)])) rfl (by rw [hml]; rfl) (argsL := [(.ref ac)]) (rest := [(.ref a)]) rfl (lenOf own_pd_4 rfl) rfl (by show 2 * 0 + _ ≤ _; exact Nat.le_of_eq rfl) (hb hby own_d8_96)
  obtain ⟨H12, e12⟩ : ∃ z, T12.heap = z := ⟨_, rfl⟩
  rw [e12] at Q12
  obtain ⟨rfl, Nq12, Kq12, Fp12_0, Fp12_1, Fp12_2, Fp12_3, Fp12_4, Fp12_5, Fp12_6, Fp12_7, Fp12_8, Fp12_9, Fp12_10, Fp12_11⟩ := Q12
  have N12 := Fr.app N10 Nq12
  have Zs12 := Nat.le_trans Z0 Kq12.1
  have f13 := Exa.keep E_a Kq12
  have f14 := Fld.keep F_a_key Kq12 (ninS ne_a_ac (ninS ne_a_ad nin0))
  have f15 := Fld.keep F_a_level Kq12 (ninS ne_a_ac (ninS ne_a_ad nin0))
  have f16 := Fld.keep F_a_left Kq12 (ninS ne_a_ac (ninS ne_a_ad nin0))
  have f17 := Fld.keep F_a_right Kq12 (ninS ne_a_ac (ninS ne_a_ad nin0))
  have f18 := Fld.keep F_a_height Kq12 (ninS ne_a_ac (ninS ne_a_ad nin0))
  have f19 := Fld.keep F_a_quantity Kq12 (ninS ne_a_ac (ninS ne_a_ad nin0))
  have f20 := Exa.keep E_ac Kq12
  have f27 := Exa.keep E_ad Kq12
  have f34 := Exa.keep E_la Kq12
  have f35 := Fld.keep F_la_quantity Kq12 (ninS (Ne.symm ne_ac_la) (ninS (Ne.symm ne_ad_la) nin0))
  have f36 := Exa.keep E_lc Kq12
  have f37 := Fld.keep F_lc_quantity Kq12 (ninS (Ne.symm ne_ac_lc) (ninS (Ne.symm ne_ad_lc) nin0))
  have f38 := Exa.keep E_ld Kq12
  have f39 := Fld.keep F_ld_quantity Kq12 (ninS (Ne.symm ne_ac_ld) (ninS (Ne.symm ne_ad_ld) nin0))
  have Q40 := HQ.keep HQ_vl Kq12 (allS nv_vl_ac (allS nv_vl_ad all0))
  have Q41 := HQ.keep HQ_vcr Kq12 (allS nv_vcr_ac (allS nv_vcr_ad all0))
  have Q42 := HQ.keep HQ_vdl Kq12 (allS nv_vdl_ac (allS nv_vdl_ad all0))
  have Q43 := HQ.keep HQ_vdr Kq12 (allS nv_vdr_ac (allS nv_vdr_ad all0))
  have K12 := (Keep.refl h0 [a, ac, ad]).trans Kq12 (allS (Or.inl (List.mem_of_getElem? (i := 1) rfl)) (allS (Or.inl (List.mem_of_getElem? (i := 2) rfl)) all0))
  refine Go.s (fun {t} => st12) ?_
  show Go p.tables e below P (T12.setTop (mkF m 99 #[oR a, oI (tvl - tc), oU] [(.ref ad), (.ref a)]))
  obtain ⟨T44, H44, X44, e44, W44, st44⟩ := putF X12 hx hZ hown (host := "") (Or.inl (own_g hw 58 rfl)) Via.refl e12 f17 f13 (Or.inl (own_g hw 59 rfl)) (own_g hw 37 rfl) (ty := (.object oN)) (by decide) rfl rfl (g := (mkF m 99 #[oR a, oI (tvl - tc), oU] [(.ref ad), (.ref a)])) rfl rfl (hb hby own_d8_99)
  refine Go.s (fun {t} => st44 t) ?_
  have Fw44 := Fld.same W44 f17
  have f45 := Exa.wr W44 f13
  have f46 := Fld.other W44 f14 (Or.inr (slot_ne (Or.inr (own_g hw 46 rfl)) (Or.inl (own_g hw 59 rfl)) (by decide) (t := .long) (t' := (.object oN)) (by decide) (by decide)))
  have f47 := Fld.other W44 f15 (Or.inr (slot_ne (Or.inr (own_g hw 48 rfl)) (Or.inl (own_g hw 59 rfl)) (by decide) (t := (.object oL)) (t' := (.object oN)) (by decide) (by decide)))
  have f48 := Fld.other W44 f16 (Or.inr (slot_ne (Or.inl (own_g hw 57 rfl)) (Or.inl (own_g hw 59 rfl)) (by decide) (t := (.object oN)) (t' := (.object oN)) (by decide) (by decide)))
  have f50 := Fld.other W44 f18 (Or.inr (slot_ne (Or.inl (own_g hw 44 rfl)) (Or.inl (own_g hw 59 rfl)) (by decide) (t := .int) (t' := (.object oN)) (by decide) (by decide)))
  have f51 := Fld.other W44 f19 (Or.inr (slot_ne (Or.inl (own_g hw 52 rfl)) (Or.inl (own_g hw 59 rfl)) (by decide) (t := .long) (t' := (.object oN)) (by decide) (by decide)))
  have f52 := Exa.wr W44 f20
  have f53 := Exa.wr W44 f27
  have f54 := Exa.wr W44 f34
  have f55 := Fld.other W44 f35 (Or.inl (Ne.symm ne_a_la))
  have f56 := Exa.wr W44 f36
  have f57 := Fld.other W44 f37 (Or.inl (Ne.symm ne_a_lc))
  have f58 := Exa.wr W44 f38
  have f59 := Fld.other W44 f39 (Or.inl (Ne.symm ne_a_ld))
  have f60 := Fld.other W44 Fp12_0 (Or.inl (Ne.symm ne_a_ac))
  have f61 := Fld.other W44 Fp12_1 (Or.inl (Ne.symm ne_a_ac))
  have f62 := Fld.other W44 Fp12_2 (Or.inl (Ne.symm ne_a_ac))
  have f63 := Fld.other W44 Fp12_3 (Or.inl (Ne.symm ne_a_ac))
  have f64 := Fld.other W44 Fp12_4 (Or.inl (Ne.symm ne_a_ac))
  have f65 := Fld.other W44 Fp12_5 (Or.inl (Ne.symm ne_a_ac))
  have f66 := Fld.other W44 Fp12_6 (Or.inl (Ne.symm ne_a_ad))
  have f67 := Fld.other W44 Fp12_7 (Or.inl (Ne.symm ne_a_ad))
  have f68 := Fld.other W44 Fp12_8 (Or.inl (Ne.symm ne_a_ad))
  have f69 := Fld.other W44 Fp12_9 (Or.inl (Ne.symm ne_a_ad))
  have f70 := Fld.other W44 Fp12_10 (Or.inl (Ne.symm ne_a_ad))
  have f71 := Fld.other W44 Fp12_11 (Or.inl (Ne.symm ne_a_ad))
  have Q72 := HQ.other Q40 W44 nv_vl_a
  have Q73 := HQ.other Q41 W44 nv_vcr_a
  have Q74 := HQ.other Q42 W44 nv_vdl_a
  have Q75 := HQ.other Q43 W44 nv_vdr_a
  have N44 := Fr.snoc X44 N12 G_a
  have Zs44 := Nat.le_trans Zs12 (Keep.of_wr W44).1
  have K44 : Keep h0 H44 [a, ac, ad] := K12.wr W44 (Or.inl (List.mem_of_getElem? (i := 0) rfl))
  refine Go.s (fun kz => XS.aloadN X44.here hx rfl (hb hby own_d8_102) rfl rfl kz) ?_
  show Go p.tables e below P (T44.setTop (mkF m 103 #[oR a, oI (tvl - tc), oU] [(.ref a)]))
  obtain ⟨v76, T76, L76, X76, Q76, st76⟩ := Con.static (own_rmwr l Z a0 hw [] a ka la vl ad ta qa kd ld vdl (.ref ac) ((own_f11 tvdl ((own_f11 tvdr tvcr) + (1 : Int32))) + (1 : Int32)) ((qvdl + wd) + ((qvdr + wc) + qvcr)) wa wd tvl qvl tvdl qvdl ((own_f11 tvdr tvcr) + (1 : Int32)) ((qvdr + wc) + qvcr) H44 n0 Zs44 Q72 Q74 (Or.inr ⟨ac, rfl, f60, f64⟩) f45 G_a f46 f47 f48 Fw44 f50 f51 f53 G_ad f67 f69 f68 f71 f66 f70 f54 G_la f55 f58 G_ld f59 ne_a_ad ne_a_la ne_a_ld ne_ad_la ne_ad_ld ne_la_ld nv_vl_a nv_vl_ad nv_vl_la nv_vl_ld nv_vdl_a nv_vdl_ad nv_vdl_la nv_vdl_ld (fun q => (Ne.symm ne_a_ac) (Value.ref.inj q)) (fun q => ne_ac_ad (Value.ref.inj q)) (fun q => ne_ac_la (Value.ref.inj q)) (fun q => ne_ac_ld (Value.ref.inj q))) X44 hx hZ (W := 0) hown (own_g hw 87 rfl) (own_g hw 88 rfl) (own_g hw 16 rfl) (own_g hw 89 rfl) (by decide) (by decide) (by decide) (by decide) (by decide) e44 (g := (mkF m 103 #[oR a, oI (tvl - tc), oU] [(.ref a)])) rfl (by rw [hml]; rfl) (argsL := [(.ref a)]) (rest := []) rfl (lenOf own_pd_4 rfl) rfl (by show 2 * 0 + _ ≤ _; exact Nat.le_of_eq rfl) (hb hby own_d8_103)
  obtain ⟨H76, e76⟩ : ∃ z, T76.heap = z := ⟨_, rfl⟩
  rw [e76] at Q76
  obtain ⟨rfl, Nq76, Kq76, Fp76_0, Fp76_1, Fp76_2, Fp76_3, Fp76_4, Fp76_5, Fp76_6, Fp76_7, Fp76_8, Fp76_9, Fp76_10, Fp76_11⟩ := Q76
  have N76 := Fr.app N44 Nq76
  have Zs76 := Nat.le_trans Zs44 Kq76.1
  have f77 := Exa.keep f45 Kq76
  have f83 := Exa.keep f52 Kq76
  have f84 := Exa.keep f53 Kq76
  have f85 := Exa.keep f54 Kq76
  have f86 := Fld.keep f55 Kq76 (ninS (Ne.symm ne_a_la) (ninS (Ne.symm ne_ad_la) nin0))
  have f87 := Exa.keep f56 Kq76
  have f88 := Fld.keep f57 Kq76 (ninS (Ne.symm ne_a_lc) (ninS (Ne.symm ne_ad_lc) nin0))
  have f89 := Exa.keep f58 Kq76
  have f90 := Fld.keep f59 Kq76 (ninS (Ne.symm ne_a_ld) (ninS (Ne.symm ne_ad_ld) nin0))
  have f91 := Fld.keep f60 Kq76 (ninS (Ne.symm ne_a_ac) (ninS ne_ac_ad nin0))
  have f92 := Fld.keep f61 Kq76 (ninS (Ne.symm ne_a_ac) (ninS ne_ac_ad nin0))
  have f93 := Fld.keep f62 Kq76 (ninS (Ne.symm ne_a_ac) (ninS ne_ac_ad nin0))
  have f94 := Fld.keep f63 Kq76 (ninS (Ne.symm ne_a_ac) (ninS ne_ac_ad nin0))
  have f95 := Fld.keep f64 Kq76 (ninS (Ne.symm ne_a_ac) (ninS ne_ac_ad nin0))
  have f96 := Fld.keep f65 Kq76 (ninS (Ne.symm ne_a_ac) (ninS ne_ac_ad nin0))
  have Q104 := HQ.keep Q72 Kq76 (allS nv_vl_a (allS nv_vl_ad all0))
  have Q105 := HQ.keep Q73 Kq76 (allS nv_vcr_a (allS nv_vcr_ad all0))
  have Q106 := HQ.keep Q74 Kq76 (allS nv_vdl_a (allS nv_vdl_ad all0))
  have Q107 := HQ.keep Q75 Kq76 (allS nv_vdr_a (allS nv_vdr_ad all0))
  have K76 := K44.trans Kq76 (allS (Or.inl (List.mem_of_getElem? (i := 0) rfl)) (allS (Or.inl (List.mem_of_getElem? (i := 2) rfl)) all0))
  refine Go.s (fun {t} => st76) ?_
  refine Go.s (fun kz => XS.astoreN X76.here hx rfl (hb hby own_d8_106) rfl rfl (l' := #[oR a, oI (tvl - tc), oR ad]) rfl kz) ?_
  refine Go.s (fun kz => XS.goto X76.here hx rfl (pc0 := 107) (pc' := 116) rfl (hb hby own_d8_107) (by decide) (by decide) kz) ?_
  show Go p.tables e below P (T76.setTop (mkF m 116 #[oR a, oI (tvl - tc), oR ad] []))
  refine Go.s (fun kz => XS.aloadN X76.here hx rfl (hb hby own_d8_116) rfl rfl kz) ?_
  show Go p.tables e below P (T76.setTop (mkF m 117 #[oR a, oI (tvl - tc), oR ad] [(.ref ad)]))
  exact Go.retR X76 hx hlk hret rfl rfl (hb hby own_d8_117) (fun U hU hF => hP U _ _ (by rw [hU, e76]; exact ⟨rfl, N76, K76, Fp76_0, Fp76_1, Fp76_2, Fp76_3, Fp76_4, Fp76_5, f91, f92, f93, f94, f95, f96, Fp76_6, Fp76_7, Fp76_8, Fp76_9, Fp76_10, Fp76_11⟩) ⟨hF.1, hF.2.1, hF.2.2.mono (by decide) (by decide)⟩)
theorem own_efp0 (m : MethodId) (key : Int64) (lv : Addr) : entryFrame m #[.null, (.long key), (.ref lv)] 4 = mkF m 0 #[oV .null, oJ key, oS, oR lv] [] := by
  (first | (simp [entryFrame, mkF, argsToLocals, Value.category]; done) | rfl)
theorem own_d6_0 : decode prog_29_method_11_code 0 = .ok (.aload_n 0, 1) := by decide +kernel
theorem own_d6_1 : decode prog_29_method_11_code 1 = .ok (.ifnonnull 13, 3) := by decide +kernel
theorem own_d6_4 : decode prog_29_method_11_code 4 = .ok (.new 18, 3) := by decide +kernel
theorem own_d6_7 : decode prog_29_method_11_code 7 = .ok (.dup, 1) := by decide +kernel
theorem own_d6_8 : decode prog_29_method_11_code 8 = .ok (.lload_n 1, 1) := by decide +kernel
theorem own_d6_9 : decode prog_29_method_11_code 9 = .ok (.aload_n 3, 1) := by decide +kernel
theorem own_pd_5 : parseMethodDescriptor "(JLcom/example/rotunda/rotunda/BookSide$Level;)V" = some ⟨[.long, (.object oL)], none⟩ := by decide +kernel
theorem own_d6_10 : decode prog_29_method_11_code 10 = .ok (.invokespecial 60, 3) := by decide +kernel
theorem own_d6_13 : decode prog_29_method_11_code 13 = .ok (.areturn, 1) := by decide +kernel
set_option maxRecDepth 65536 in
set_option maxHeartbeats 40000000 in
theorem own_rmp0 (l : Launch) (Z : State) (a0 : Array Value) (hw : ∀ d ∈ tables_1, d.before a0 Z = true) (ws : List Jvm.Cond) (key : Int64) (lv : Nat) (wv : Int64) (h0 : Heap) (n0 : Nat) (Z0 : n0 ≤ h0.size) (E_lv : Exa Z h0 lv oL) (G_lv : n0 ≤ lv) (F_lv_quantity : Fld Z h0 lv oL "quantity" "J" (.long wv)) :
    Con l Z (⟨oT, "put", "(Lcom/example/rotunda/rotunda/LevelTree$Node;JLcom/example/rotunda/rotunda/BookSide$Level;)Lcom/example/rotunda/rotunda/LevelTree$Node;"⟩ : MethodName) prog_29_method_11_code 4 (some (.object oN)) ws ({ frames := 2, cells := 1, slots := 6, locals := 28 } : Room) #[.null, (.long key), (.ref lv)] h0 (fun v h L => ∃ b1 : Nat, v = some (.ref b1) ∧ Fr n0 L ∧ Keep h0 h [] ∧ h0.size ≤ b1 ∧ Exa Z h b1 oN ∧ Fld Z h b1 oN "height" "I" (.int (1 : Int32)) ∧ Fld Z h b1 oN "key" "J" (.long key) ∧ Fld Z h b1 oN "left" oNd .null ∧ Fld Z h b1 oN "level" oLd (.ref lv) ∧ Fld Z h b1 oN "quantity" "J" (.long wv) ∧ Fld Z h b1 oN "right" oNd .null) := by
  refine Con.intro (plainFor_of_name own_pn_0) ?_
  intro p e s m below meth c s₁ P hx hby hml hown hnm hret hlk hZ X0 e0 hP
  have N0 := Fr.nil n0
  have hown : s.vm.findClass oT = some m.cls := hown
  refine Go.cast (own_efp0 m key lv) ?_
  show Go p.tables e below P (s₁.setTop (mkF m 0 #[oV .null, oJ key, oS, oR lv] []))
  refine Go.s (fun kz => XS.aloadN X0.here hx rfl (hb hby own_d6_0) rfl rfl kz) ?_
  show Go p.tables e below P (s₁.setTop (mkF m 1 #[oV .null, oJ key, oS, oR lv] [.null]))
  refine Go.s (fun kz => XT.ifnonnullNo X0.here hx rfl (hb hby own_d6_1) rfl kz) ?_
  show Go p.tables e below P (s₁.setTop (mkF m 4 #[oV .null, oJ key, oS, oR lv] []))
  obtain ⟨T1, H1, X1, e1, E1, A1, D1, U1, st1⟩ := newO X0 hx hZ hown (own_g hw 36 rfl) (own_g hw 37 rfl) (own_g hw 38 rfl) e0 (g := (mkF m 4 #[oV .null, oJ key, oS, oR lv] [])) rfl (hb hby own_d6_4) (by decide) (by decide)
  refine Go.s (fun {t} => st1 t) ?_
  obtain ⟨b1, g1⟩ : ∃ z, z = h0.size := ⟨_, rfl⟩
  rw [← g1] at A1 D1 U1
  rw [← g1]
  have nlvb1 : lv ≠ b1 := Nat.ne_of_lt (Nat.lt_of_lt_of_le E_lv.lt (Nat.le_of_eq g1.symm))
  have f2 := Exa.ext E1 E_lv
  have f3 := Fld.ext E1 F_lv_quantity
  have G_b1 : n0 ≤ b1 := Nat.le_trans Z0 (Nat.le_of_eq g1.symm)
  have Zs1 := Nat.le_trans Z0 E1.1
  have SZ_b1 : h0.size ≤ b1 := Nat.le_trans (Keep.refl h0 []).1 (Nat.le_of_eq g1.symm)
  have K1 := (Keep.refl h0 []).ext E1
  have Kn1 := Kn.of_new U1
  have F1_height : Fld Z H1 b1 oN "height" "I" (.int (0 : Int32)) := D1 (Or.inl (own_g hw 44 rfl)) (ty := .int) (by decide)
  have F1_key : Fld Z H1 b1 oN "key" "J" (.long (0 : Int64)) := D1 (Or.inr (own_g hw 46 rfl)) (ty := .long) (by decide)
  have F1_level : Fld Z H1 b1 oN "level" oLd .null := D1 (Or.inr (own_g hw 48 rfl)) (ty := (.object oL)) (by decide)
  have F1_quantity : Fld Z H1 b1 oN "quantity" "J" (.long (0 : Int64)) := D1 (Or.inl (own_g hw 52 rfl)) (ty := .long) (by decide)
  have F1_left : Fld Z H1 b1 oN "left" oNd .null := D1 (Or.inl (own_g hw 57 rfl)) (ty := (.object oN)) (by decide)
  have F1_right : Fld Z H1 b1 oN "right" oNd .null := D1 (Or.inl (own_g hw 59 rfl)) (ty := (.object oN)) (by decide)
  refine Go.s (fun kz => XS.dup X1.here hx rfl (hb hby own_d6_7) rfl rfl kz) ?_
  refine Go.s (fun kz => XT.lloadN X1.here hx rfl (hb hby own_d6_8) rfl kz) ?_
  refine Go.s (fun kz => XS.aloadN X1.here hx rfl (hb hby own_d6_9) rfl rfl kz) ?_
  show Go p.tables e below P (T1.setTop (mkF m 10 #[oV .null, oJ key, oS, oR lv] [(.ref lv), (.long key), (.ref b1), (.ref b1)]))
  obtain ⟨v4, T4, L4, X4, Q4, st4⟩ := Con.special (own_rmnc l Z a0 hw [] b1 key lv wv H1 n0 Zs1 A1 G_b1 F1_key F1_level F1_left F1_right F1_height F1_quantity f2 G_lv f3 (Ne.symm nlvb1)) rfl X1 hx hZ (W := 1) hown (own_g hw 39 rfl) (own_g hw 40 rfl) (own_g hw 38 rfl) (own_g hw 41 rfl) (by decide) (by decide) (by decide) (by decide) (by decide) e1 (g := (mkF m 10 #[oV .null, oJ key, oS, oR lv] [(.ref lv), (.long key), (.ref b1), (.ref b1)])) rfl (by rw [hml]; rfl) (argsL := [(.long key), (.ref lv)]) (rest := [(.ref b1)]) rfl (lenOf own_pd_5 rfl) rfl (by show 2 * 0 + _ ≤ _; exact Nat.le_of_eq rfl) (hb hby own_d6_10)
  obtain ⟨H4, e4⟩ : ∃ z, T4.heap = z := ⟨_, rfl⟩
  rw [e4] at Q4
  obtain ⟨rfl, Nq4, Kq4, Fp4_0, Fp4_1, Fp4_2, Fp4_3, Fp4_4, Fp4_5⟩ := Q4
  have N4 := Fr.app N0 Nq4
  have Zs4 := Nat.le_trans Zs1 Kq4.1
  have f5 := Exa.keep f2 Kq4
  have f6 := Fld.keep f3 Kq4 (ninS nlvb1 nin0)
  have f7 := Exa.keep A1 Kq4
  have f8 := Kn.keep Kn1 Kq4
  have K4 := K1.trans Kq4 (allS (Or.inr SZ_b1) all0)
  refine Go.s (fun {t} => st4) ?_
  show Go p.tables e below P (T4.setTop (mkF m 13 #[oV .null, oJ key, oS, oR lv] [(.ref b1)]))
  exact Go.retR X4 hx hlk hret rfl rfl (hb hby own_d6_13) (fun U hU hF => hP U _ _ (by rw [hU, e4]; exact ⟨b1, rfl, N4, K4, SZ_b1, f7, Fp4_0, Fp4_1, Fp4_2, Fp4_3, Fp4_4, Fp4_5⟩) ⟨hF.1, hF.2.1, hF.2.2.mono (by decide) (by decide)⟩)
theorem own_efpr (m : MethodId) (a : Addr) (key : Int64) (lv : Addr) : entryFrame m #[(.ref a), (.long key), (.ref lv)] 4 = mkF m 0 #[oR a, oJ key, oS, oR lv] [] := by
  (first | (simp [entryFrame, mkF, argsToLocals, Value.category]; done) | rfl)
theorem own_d6_14 : decode prog_29_method_11_code 14 = .ok (.lload_n 1, 1) := by decide +kernel
theorem own_d6_15 : decode prog_29_method_11_code 15 = .ok (.aload_n 0, 1) := by decide +kernel
theorem own_d6_16 : decode prog_29_method_11_code 16 = .ok (.getfield 17, 3) := by decide +kernel
theorem own_d6_19 : decode prog_29_method_11_code 19 = .ok (.lcmp, 1) := by decide +kernel
theorem own_d6_20 : decode prog_29_method_11_code 20 = .ok (.ifCond .ge 19, 3) := by decide +kernel
theorem own_d6_39 : decode prog_29_method_11_code 39 = .ok (.aload_n 0, 1) := by decide +kernel
theorem own_d6_40 : decode prog_29_method_11_code 40 = .ok (.aload_n 0, 1) := by decide +kernel
theorem own_d6_41 : decode prog_29_method_11_code 41 = .ok (.getfield 26, 3) := by decide +kernel
theorem own_d6_44 : decode prog_29_method_11_code 44 = .ok (.lload_n 1, 1) := by decide +kernel
theorem own_d6_45 : decode prog_29_method_11_code 45 = .ok (.aload_n 3, 1) := by decide +kernel
theorem own_pd_6 : parseMethodDescriptor "(Lcom/example/rotunda/rotunda/LevelTree$Node;JLcom/example/rotunda/rotunda/BookSide$Level;)Lcom/example/rotunda/rotunda/LevelTree$Node;" = some ⟨[(.object oN), .long, (.object oL)], some (.object oN)⟩ := by decide +kernel
theorem own_d6_46 : decode prog_29_method_11_code 46 = .ok (.invokestatic 33, 3) := by decide +kernel
theorem own_d6_49 : decode prog_29_method_11_code 49 = .ok (.putfield 26, 3) := by decide +kernel
theorem own_d6_52 : decode prog_29_method_11_code 52 = .ok (.aload_n 0, 1) := by decide +kernel
theorem own_d6_53 : decode prog_29_method_11_code 53 = .ok (.invokestatic 63, 3) := by decide +kernel
theorem own_d6_56 : decode prog_29_method_11_code 56 = .ok (.areturn, 1) := by decide +kernel
set_option maxRecDepth 65536 in
set_option maxHeartbeats 40000000 in
theorem own_rmpr (l : Launch) (Z : State) (a0 : Array Value) (hw : ∀ d ∈ tables_1, d.before a0 Z = true) (ws : List Jvm.Cond) (a : Nat) (key : Int64) (lv : Nat) (ka : Int64) (la : Nat) (vl : Value) (ta : Int32) (qa : Int64) (wa : Int64) (wv : Int64) (tvl : Int32) (qvl : Int64) (h0 : Heap) (n0 : Nat) (Z0 : n0 ≤ h0.size) (HQ_vl : HQ Z h0 vl tvl qvl) (E_a : Exa Z h0 a oN) (G_a : n0 ≤ a) (F_a_key : Fld Z h0 a oN "key" "J" (.long ka)) (F_a_level : Fld Z h0 a oN "level" oLd (.ref la)) (F_a_left : Fld Z h0 a oN "left" oNd vl) (F_a_right : Fld Z h0 a oN "right" oNd .null) (F_a_height : Fld Z h0 a oN "height" "I" (.int ta)) (F_a_quantity : Fld Z h0 a oN "quantity" "J" (.long qa)) (E_la : Exa Z h0 la oL) (G_la : n0 ≤ la) (F_la_quantity : Fld Z h0 la oL "quantity" "J" (.long wa)) (E_lv : Exa Z h0 lv oL) (G_lv : n0 ≤ lv) (F_lv_quantity : Fld Z h0 lv oL "quantity" "J" (.long wv)) (ne_a_la : a ≠ la) (ne_a_lv : a ≠ lv) (ne_la_lv : la ≠ lv) (nv_vl_a : vl ≠ .ref a) (nv_vl_la : vl ≠ .ref la) (nv_vl_lv : vl ≠ .ref lv) (hk : ¬ key < ka) (hb1 : ¬ (1 : Int32) < (tvl - (1 : Int32))) (hb2 : ¬ (tvl - (1 : Int32)) < (-1 : Int32)) :
    Con l Z (⟨oT, "put", "(Lcom/example/rotunda/rotunda/LevelTree$Node;JLcom/example/rotunda/rotunda/BookSide$Level;)Lcom/example/rotunda/rotunda/LevelTree$Node;"⟩ : MethodName) prog_29_method_11_code 4 (some (.object oN)) ws ({ frames := 3, cells := 1, slots := 6, locals := 44 } : Room) #[(.ref a), (.long key), (.ref lv)] h0 (fun v h L => ∃ d3 : Nat, v = some (.ref a) ∧ Fr n0 L ∧ Keep h0 h [a] ∧ Fld Z h a oN "height" "I" (.int ((own_f11 tvl (1 : Int32)) + (1 : Int32))) ∧ Fld Z h a oN "key" "J" (.long ka) ∧ Fld Z h a oN "left" oNd vl ∧ Fld Z h a oN "level" oLd (.ref la) ∧ Fld Z h a oN "quantity" "J" (.long ((qvl + wa) + wv)) ∧ Fld Z h a oN "right" oNd (.ref d3) ∧ h0.size ≤ d3 ∧ Exa Z h d3 oN ∧ Fld Z h d3 oN "height" "I" (.int (1 : Int32)) ∧ Fld Z h d3 oN "key" "J" (.long key) ∧ Fld Z h d3 oN "left" oNd .null ∧ Fld Z h d3 oN "level" oLd (.ref lv) ∧ Fld Z h d3 oN "quantity" "J" (.long wv) ∧ Fld Z h d3 oN "right" oNd .null) := by
  refine Con.intro (plainFor_of_name own_pn_0) ?_
  intro p e s m below meth c s₁ P hx hby hml hown hnm hret hlk hZ X0 e0 hP
  have N0 := Fr.nil n0
  have hown : s.vm.findClass oT = some m.cls := hown
  refine Go.cast (own_efpr m a key lv) ?_
  show Go p.tables e below P (s₁.setTop (mkF m 0 #[oR a, oJ key, oS, oR lv] []))
  refine Go.s (fun kz => XS.aloadN X0.here hx rfl (hb hby own_d6_0) rfl rfl kz) ?_
  show Go p.tables e below P (s₁.setTop (mkF m 1 #[oR a, oJ key, oS, oR lv] [(.ref a)]))
  refine Go.s (fun kz => XT.ifnonnullYes X0.here hx rfl (pc0 := 1) (pc' := 14) rfl (hb hby own_d6_1) rfl (by decide) (by decide) kz) ?_
  show Go p.tables e below P (s₁.setTop (mkF m 14 #[oR a, oJ key, oS, oR lv] []))
  refine Go.s (fun kz => XT.lloadN X0.here hx rfl (hb hby own_d6_14) rfl kz) ?_
  refine Go.s (fun kz => XS.aloadN X0.here hx rfl (hb hby own_d6_15) rfl rfl kz) ?_
  show Go p.tables e below P (s₁.setTop (mkF m 16 #[oR a, oJ key, oS, oR lv] [(.ref a), (.long key)]))
  obtain ⟨T1, X1, e1, st1⟩ := getF X0 hx hZ hown (host := "") (Or.inl (own_g hw 55 rfl)) Via.refl e0 F_a_key (g := (mkF m 16 #[oR a, oJ key, oS, oR lv] [(.ref a), (.long key)])) rfl rfl (hb hby own_d6_16)
  refine Go.s (fun {t} => st1 t) ?_
  refine Go.s (fun kz => XT.lcmp X1.here hx rfl (hb hby own_d6_19) rfl kz) ?_
  show Go p.tables e below P (T1.setTop (mkF m 20 #[oR a, oJ key, oS, oR lv] [(.int (XT.cmpL key ka))]))
  refine Go.s (fun kz => XS.ifYes X1.here hx rfl (pc0 := 20) (pc' := 39) rfl (hb hby own_d6_20) rfl (XT.ll_ge_t hk) (by decide) (by decide) kz) ?_
  show Go p.tables e below P (T1.setTop (mkF m 39 #[oR a, oJ key, oS, oR lv] []))
  refine Go.s (fun kz => XS.aloadN X1.here hx rfl (hb hby own_d6_39) rfl rfl kz) ?_
  refine Go.s (fun kz => XS.aloadN X1.here hx rfl (hb hby own_d6_40) rfl rfl kz) ?_
  show Go p.tables e below P (T1.setTop (mkF m 41 #[oR a, oJ key, oS, oR lv] [(.ref a), (.ref a)]))
  obtain ⟨T2, X2, e2, st2⟩ := getF X1 hx hZ hown (host := "") (Or.inl (own_g hw 58 rfl)) Via.refl e1 F_a_right (g := (mkF m 41 #[oR a, oJ key, oS, oR lv] [(.ref a), (.ref a)])) rfl rfl (hb hby own_d6_41)
  refine Go.s (fun {t} => st2 t) ?_
  refine Go.s (fun kz => XT.lloadN X2.here hx rfl (hb hby own_d6_44) rfl kz) ?_
  refine Go.s (fun kz => XS.aloadN X2.here hx rfl (hb hby own_d6_45) rfl rfl kz) ?_
  show Go p.tables e below P (T2.setTop (mkF m 46 #[oR a, oJ key, oS, oR lv] [(.ref lv), (.long key), .null, (.ref a)]))
  obtain ⟨v3, T3, L3, X3, Q3, st3⟩ := Con.static (own_rmp0 l Z a0 hw [] key lv wv h0 n0 Z0 E_lv G_lv F_lv_quantity) X2 hx hZ (W := 1) hown (own_g hw 33 rfl) (own_g hw 34 rfl) (own_g hw 16 rfl) (own_g hw 35 rfl) (by decide) (by decide) (by decide) (by decide) (by decide) e2 (g := (mkF m 46 #[oR a, oJ key, oS, oR lv] [(.ref lv), (.long key), .null, (.ref a)])) rfl (by rw [hml]; rfl) (argsL := [.null, (.long key), (.ref lv)]) (rest := [(.ref a)]) rfl (lenOf own_pd_6 rfl) rfl (by show 2 * 0 + _ ≤ _; exact Nat.le_of_eq rfl) (hb hby own_d6_46)
  obtain ⟨H3, e3⟩ : ∃ z, T3.heap = z := ⟨_, rfl⟩
  rw [e3] at Q3
  obtain ⟨d3, rfl, Nq3, Kq3, Fp3_0, Fp3_1, Fp3_2, Fp3_3, Fp3_4, Fp3_5, Fp3_6, Fp3_7⟩ := Q3
  have N3 := Fr.app N0 Nq3
  have nad3 : a ≠ d3 := Nat.ne_of_lt (Nat.lt_of_lt_of_le E_a.lt Fp3_0)
  have nlad3 : la ≠ d3 := Nat.ne_of_lt (Nat.lt_of_lt_of_le E_la.lt Fp3_0)
  have nlvd3 : lv ≠ d3 := Nat.ne_of_lt (Nat.lt_of_lt_of_le E_lv.lt Fp3_0)
  have nv_vl_d3 : vl ≠ .ref d3 := own_vlt HQ_vl Fp3_0
  have G_d3 : n0 ≤ d3 := Nat.le_trans Z0 Fp3_0
  have SZ_d3 : h0.size ≤ d3 := Nat.le_trans (Keep.refl h0 [a]).1 Fp3_0
  have Zs3 := Nat.le_trans Z0 Kq3.1
  have f4 := Exa.keep E_a Kq3
  have f5 := Fld.keep F_a_key Kq3 nin0
  have f6 := Fld.keep F_a_level Kq3 nin0
  have f7 := Fld.keep F_a_left Kq3 nin0
  have f8 := Fld.keep F_a_right Kq3 nin0
  have f9 := Fld.keep F_a_height Kq3 nin0
  have f10 := Fld.keep F_a_quantity Kq3 nin0
  have f11 := Exa.keep E_la Kq3
  have f12 := Fld.keep F_la_quantity Kq3 nin0
  have f13 := Exa.keep E_lv Kq3
  have f14 := Fld.keep F_lv_quantity Kq3 nin0
  have Q15 := HQ.keep HQ_vl Kq3 all0
  have K3 := (Keep.refl h0 [a]).trans Kq3 all0
  refine Go.s (fun {t} => st3) ?_
  show Go p.tables e below P (T3.setTop (mkF m 49 #[oR a, oJ key, oS, oR lv] [(.ref d3), (.ref a)]))
  obtain ⟨T16, H16, X16, e16, W16, st16⟩ := putF X3 hx hZ hown (host := "") (Or.inl (own_g hw 58 rfl)) Via.refl e3 f8 f4 (Or.inl (own_g hw 59 rfl)) (own_g hw 37 rfl) (ty := (.object oN)) (by decide) rfl rfl (g := (mkF m 49 #[oR a, oJ key, oS, oR lv] [(.ref d3), (.ref a)])) rfl rfl (hb hby own_d6_49)
  refine Go.s (fun {t} => st16 t) ?_
  have Fw16 := Fld.same W16 f8
  have f17 := Exa.wr W16 f4
  have f18 := Fld.other W16 f5 (Or.inr (slot_ne (Or.inr (own_g hw 46 rfl)) (Or.inl (own_g hw 59 rfl)) (by decide) (t := .long) (t' := (.object oN)) (by decide) (by decide)))
  have f19 := Fld.other W16 f6 (Or.inr (slot_ne (Or.inr (own_g hw 48 rfl)) (Or.inl (own_g hw 59 rfl)) (by decide) (t := (.object oL)) (t' := (.object oN)) (by decide) (by decide)))
  have f20 := Fld.other W16 f7 (Or.inr (slot_ne (Or.inl (own_g hw 57 rfl)) (Or.inl (own_g hw 59 rfl)) (by decide) (t := (.object oN)) (t' := (.object oN)) (by decide) (by decide)))
  have f22 := Fld.other W16 f9 (Or.inr (slot_ne (Or.inl (own_g hw 44 rfl)) (Or.inl (own_g hw 59 rfl)) (by decide) (t := .int) (t' := (.object oN)) (by decide) (by decide)))
  have f23 := Fld.other W16 f10 (Or.inr (slot_ne (Or.inl (own_g hw 52 rfl)) (Or.inl (own_g hw 59 rfl)) (by decide) (t := .long) (t' := (.object oN)) (by decide) (by decide)))
  have f24 := Exa.wr W16 f11
  have f25 := Fld.other W16 f12 (Or.inl (Ne.symm ne_a_la))
  have f26 := Exa.wr W16 f13
  have f27 := Fld.other W16 f14 (Or.inl (Ne.symm ne_a_lv))
  have f28 := Exa.wr W16 Fp3_1
  have f29 := Fld.other W16 Fp3_2 (Or.inl (Ne.symm nad3))
  have f30 := Fld.other W16 Fp3_3 (Or.inl (Ne.symm nad3))
  have f31 := Fld.other W16 Fp3_4 (Or.inl (Ne.symm nad3))
  have f32 := Fld.other W16 Fp3_5 (Or.inl (Ne.symm nad3))
  have f33 := Fld.other W16 Fp3_6 (Or.inl (Ne.symm nad3))
  have f34 := Fld.other W16 Fp3_7 (Or.inl (Ne.symm nad3))
  have Q35 := HQ.other Q15 W16 nv_vl_a
  have N16 := Fr.snoc X16 N3 G_a
  have Zs16 := Nat.le_trans Zs3 (Keep.of_wr W16).1
  have K16 : Keep h0 H16 [a] := K3.wr W16 (Or.inl (List.mem_of_getElem? (i := 0) rfl))
  refine Go.s (fun kz => XS.aloadN X16.here hx rfl (hb hby own_d6_52) rfl rfl kz) ?_
  show Go p.tables e below P (T16.setTop (mkF m 53 #[oR a, oJ key, oS, oR lv] [(.ref a)]))
  obtain ⟨v36, T36, L36, X36, Q36, st36⟩ := Con.static (own_rmbn l Z a0 hw [] a ka la vl (.ref d3) ta qa wa tvl qvl (1 : Int32) wv H16 n0 Zs16 Q35 (Or.inr ⟨d3, rfl, f29, f33⟩) f17 G_a f18 f19 f20 Fw16 f22 f23 f24 G_la f25 ne_a_la nv_vl_a nv_vl_la (fun q => (Ne.symm nad3) (Value.ref.inj q)) (fun q => (Ne.symm nlad3) (Value.ref.inj q)) hb1 hb2) X16 hx hZ (W := 0) hown (own_g hw 60 rfl) (own_g hw 61 rfl) (own_g hw 16 rfl) (own_g hw 62 rfl) (by decide) (by decide) (by decide) (by decide) (by decide) e16 (g := (mkF m 53 #[oR a, oJ key, oS, oR lv] [(.ref a)])) rfl (by rw [hml]; rfl) (argsL := [(.ref a)]) (rest := []) rfl (lenOf own_pd_4 rfl) rfl (by show 2 * 0 + _ ≤ _; exact Nat.le_of_eq rfl) (hb hby own_d6_53)
  obtain ⟨H36, e36⟩ : ∃ z, T36.heap = z := ⟨_, rfl⟩
  rw [e36] at Q36
  obtain ⟨rfl, Nq36, Kq36, Fp36_0, Fp36_1, Fp36_2, Fp36_3, Fp36_4, Fp36_5⟩ := Q36
  have N36 := Fr.app N16 Nq36
  have Zs36 := Nat.le_trans Zs16 Kq36.1
  have f37 := Exa.keep f17 Kq36
  have f43 := Exa.keep f24 Kq36
  have f44 := Fld.keep f25 Kq36 (ninS (Ne.symm ne_a_la) nin0)
  have f45 := Exa.keep f26 Kq36
  have f46 := Fld.keep f27 Kq36 (ninS (Ne.symm ne_a_lv) nin0)
  have f47 := Exa.keep f28 Kq36
  have f48 := Fld.keep f29 Kq36 (ninS (Ne.symm nad3) nin0)
  have f49 := Fld.keep f30 Kq36 (ninS (Ne.symm nad3) nin0)
  have f50 := Fld.keep f31 Kq36 (ninS (Ne.symm nad3) nin0)
  have f51 := Fld.keep f32 Kq36 (ninS (Ne.symm nad3) nin0)
  have f52 := Fld.keep f33 Kq36 (ninS (Ne.symm nad3) nin0)
  have f53 := Fld.keep f34 Kq36 (ninS (Ne.symm nad3) nin0)
  have Q55 := HQ.keep Q35 Kq36 (allS nv_vl_a all0)
  have K36 := K16.trans Kq36 (allS (Or.inl (List.mem_of_getElem? (i := 0) rfl)) all0)
  refine Go.s (fun {t} => st36) ?_
  show Go p.tables e below P (T36.setTop (mkF m 56 #[oR a, oJ key, oS, oR lv] [(.ref a)]))
  exact Go.retR X36 hx hlk hret rfl rfl (hb hby own_d6_56) (fun U hU hF => hP U _ _ (by rw [hU, e36]; exact ⟨d3, rfl, N36, K36, Fp36_0, Fp36_1, Fp36_2, Fp36_3, Fp36_4, Fp36_5, SZ_d3, f47, f48, f49, f50, f51, f52, f53⟩) ⟨hF.1, hF.2.1, hF.2.2.mono (by decide) (by decide)⟩)
theorem own_efpl (m : MethodId) (a : Addr) (key : Int64) (lv : Addr) : entryFrame m #[(.ref a), (.long key), (.ref lv)] 4 = mkF m 0 #[oR a, oJ key, oS, oR lv] [] := by
  (first | (simp [entryFrame, mkF, argsToLocals, Value.category]; done) | rfl)
theorem own_d6_23 : decode prog_29_method_11_code 23 = .ok (.aload_n 0, 1) := by decide +kernel
theorem own_d6_24 : decode prog_29_method_11_code 24 = .ok (.aload_n 0, 1) := by decide +kernel
theorem own_d6_25 : decode prog_29_method_11_code 25 = .ok (.getfield 23, 3) := by decide +kernel
theorem own_d6_28 : decode prog_29_method_11_code 28 = .ok (.lload_n 1, 1) := by decide +kernel
theorem own_d6_29 : decode prog_29_method_11_code 29 = .ok (.aload_n 3, 1) := by decide +kernel
theorem own_d6_30 : decode prog_29_method_11_code 30 = .ok (.invokestatic 33, 3) := by decide +kernel
theorem own_d6_33 : decode prog_29_method_11_code 33 = .ok (.putfield 23, 3) := by decide +kernel
theorem own_d6_36 : decode prog_29_method_11_code 36 = .ok (.goto 16, 3) := by decide +kernel
set_option maxRecDepth 65536 in
set_option maxHeartbeats 40000000 in
theorem own_rmpl (l : Launch) (Z : State) (a0 : Array Value) (hw : ∀ d ∈ tables_1, d.before a0 Z = true) (ws : List Jvm.Cond) (a : Nat) (key : Int64) (lv : Nat) (ka : Int64) (la : Nat) (vr : Value) (ta : Int32) (qa : Int64) (wa : Int64) (wv : Int64) (tvr : Int32) (qvr : Int64) (h0 : Heap) (n0 : Nat) (Z0 : n0 ≤ h0.size) (HQ_vr : HQ Z h0 vr tvr qvr) (E_a : Exa Z h0 a oN) (G_a : n0 ≤ a) (F_a_key : Fld Z h0 a oN "key" "J" (.long ka)) (F_a_level : Fld Z h0 a oN "level" oLd (.ref la)) (F_a_left : Fld Z h0 a oN "left" oNd .null) (F_a_right : Fld Z h0 a oN "right" oNd vr) (F_a_height : Fld Z h0 a oN "height" "I" (.int ta)) (F_a_quantity : Fld Z h0 a oN "quantity" "J" (.long qa)) (E_la : Exa Z h0 la oL) (G_la : n0 ≤ la) (F_la_quantity : Fld Z h0 la oL "quantity" "J" (.long wa)) (E_lv : Exa Z h0 lv oL) (G_lv : n0 ≤ lv) (F_lv_quantity : Fld Z h0 lv oL "quantity" "J" (.long wv)) (ne_a_la : a ≠ la) (ne_a_lv : a ≠ lv) (ne_la_lv : la ≠ lv) (nv_vr_a : vr ≠ .ref a) (nv_vr_la : vr ≠ .ref la) (nv_vr_lv : vr ≠ .ref lv) (hk : key < ka) (hb1 : ¬ (1 : Int32) < ((1 : Int32) - tvr)) (hb2 : ¬ ((1 : Int32) - tvr) < (-1 : Int32)) :
    Con l Z (⟨oT, "put", "(Lcom/example/rotunda/rotunda/LevelTree$Node;JLcom/example/rotunda/rotunda/BookSide$Level;)Lcom/example/rotunda/rotunda/LevelTree$Node;"⟩ : MethodName) prog_29_method_11_code 4 (some (.object oN)) ws ({ frames := 3, cells := 1, slots := 6, locals := 44 } : Room) #[(.ref a), (.long key), (.ref lv)] h0 (fun v h L => ∃ d3 : Nat, v = some (.ref a) ∧ Fr n0 L ∧ Keep h0 h [a] ∧ Fld Z h a oN "height" "I" (.int ((own_f11 (1 : Int32) tvr) + (1 : Int32))) ∧ Fld Z h a oN "key" "J" (.long ka) ∧ Fld Z h a oN "left" oNd (.ref d3) ∧ Fld Z h a oN "level" oLd (.ref la) ∧ Fld Z h a oN "quantity" "J" (.long ((wv + wa) + qvr)) ∧ Fld Z h a oN "right" oNd vr ∧ h0.size ≤ d3 ∧ Exa Z h d3 oN ∧ Fld Z h d3 oN "height" "I" (.int (1 : Int32)) ∧ Fld Z h d3 oN "key" "J" (.long key) ∧ Fld Z h d3 oN "left" oNd .null ∧ Fld Z h d3 oN "level" oLd (.ref lv) ∧ Fld Z h d3 oN "quantity" "J" (.long wv) ∧ Fld Z h d3 oN "right" oNd .null) := by
  refine Con.intro (plainFor_of_name own_pn_0) ?_
  intro p e s m below meth c s₁ P hx hby hml hown hnm hret hlk hZ X0 e0 hP
  have N0 := Fr.nil n0
  have hown : s.vm.findClass oT = some m.cls := hown
  refine Go.cast (own_efpl m a key lv) ?_
  show Go p.tables e below P (s₁.setTop (mkF m 0 #[oR a, oJ key, oS, oR lv] []))
  refine Go.s (fun kz => XS.aloadN X0.here hx rfl (hb hby own_d6_0) rfl rfl kz) ?_
  show Go p.tables e below P (s₁.setTop (mkF m 1 #[oR a, oJ key, oS, oR lv] [(.ref a)]))
  refine Go.s (fun kz => XT.ifnonnullYes X0.here hx rfl (pc0 := 1) (pc' := 14) rfl (hb hby own_d6_1) rfl (by decide) (by decide) kz) ?_
  show Go p.tables e below P (s₁.setTop (mkF m 14 #[oR a, oJ key, oS, oR lv] []))
  refine Go.s (fun kz => XT.lloadN X0.here hx rfl (hb hby own_d6_14) rfl kz) ?_
  refine Go.s (fun kz => XS.aloadN X0.here hx rfl (hb hby own_d6_15) rfl rfl kz) ?_
  show Go p.tables e below P (s₁.setTop (mkF m 16 #[oR a, oJ key, oS, oR lv] [(.ref a), (.long key)]))
  obtain ⟨T1, X1, e1, st1⟩ := getF X0 hx hZ hown (host := "") (Or.inl (own_g hw 55 rfl)) Via.refl e0 F_a_key (g := (mkF m 16 #[oR a, oJ key, oS, oR lv] [(.ref a), (.long key)])) rfl rfl (hb hby own_d6_16)
  refine Go.s (fun {t} => st1 t) ?_
  refine Go.s (fun kz => XT.lcmp X1.here hx rfl (hb hby own_d6_19) rfl kz) ?_
  show Go p.tables e below P (T1.setTop (mkF m 20 #[oR a, oJ key, oS, oR lv] [(.int (XT.cmpL key ka))]))
  refine Go.s (fun kz => XS.ifNo X1.here hx rfl (hb hby own_d6_20) rfl (XT.ll_ge_f hk) kz) ?_
  show Go p.tables e below P (T1.setTop (mkF m 23 #[oR a, oJ key, oS, oR lv] []))
  refine Go.s (fun kz => XS.aloadN X1.here hx rfl (hb hby own_d6_23) rfl rfl kz) ?_
  refine Go.s (fun kz => XS.aloadN X1.here hx rfl (hb hby own_d6_24) rfl rfl kz) ?_
  show Go p.tables e below P (T1.setTop (mkF m 25 #[oR a, oJ key, oS, oR lv] [(.ref a), (.ref a)]))
  obtain ⟨T2, X2, e2, st2⟩ := getF X1 hx hZ hown (host := "") (Or.inl (own_g hw 56 rfl)) Via.refl e1 F_a_left (g := (mkF m 25 #[oR a, oJ key, oS, oR lv] [(.ref a), (.ref a)])) rfl rfl (hb hby own_d6_25)
  refine Go.s (fun {t} => st2 t) ?_
  refine Go.s (fun kz => XT.lloadN X2.here hx rfl (hb hby own_d6_28) rfl kz) ?_
  refine Go.s (fun kz => XS.aloadN X2.here hx rfl (hb hby own_d6_29) rfl rfl kz) ?_
  show Go p.tables e below P (T2.setTop (mkF m 30 #[oR a, oJ key, oS, oR lv] [(.ref lv), (.long key), .null, (.ref a)]))
  obtain ⟨v3, T3, L3, X3, Q3, st3⟩ := Con.static (own_rmp0 l Z a0 hw [] key lv wv h0 n0 Z0 E_lv G_lv F_lv_quantity) X2 hx hZ (W := 1) hown (own_g hw 33 rfl) (own_g hw 34 rfl) (own_g hw 16 rfl) (own_g hw 35 rfl) (by decide) (by decide) (by decide) (by decide) (by decide) e2 (g := (mkF m 30 #[oR a, oJ key, oS, oR lv] [(.ref lv), (.long key), .null, (.ref a)])) rfl (by rw [hml]; rfl) (argsL := [.null, (.long key), (.ref lv)]) (rest := [(.ref a)]) rfl (lenOf own_pd_6 rfl) rfl (by show 2 * 0 + _ ≤ _; exact Nat.le_of_eq rfl) (hb hby own_d6_30)
  obtain ⟨H3, e3⟩ : ∃ z, T3.heap = z := ⟨_, rfl⟩
  rw [e3] at Q3
  obtain ⟨d3, rfl, Nq3, Kq3, Fp3_0, Fp3_1, Fp3_2, Fp3_3, Fp3_4, Fp3_5, Fp3_6, Fp3_7⟩ := Q3
  have N3 := Fr.app N0 Nq3
  have nad3 : a ≠ d3 := Nat.ne_of_lt (Nat.lt_of_lt_of_le E_a.lt Fp3_0)
  have nlad3 : la ≠ d3 := Nat.ne_of_lt (Nat.lt_of_lt_of_le E_la.lt Fp3_0)
  have nlvd3 : lv ≠ d3 := Nat.ne_of_lt (Nat.lt_of_lt_of_le E_lv.lt Fp3_0)
  have nv_vr_d3 : vr ≠ .ref d3 := own_vlt HQ_vr Fp3_0
  have G_d3 : n0 ≤ d3 := Nat.le_trans Z0 Fp3_0
  have SZ_d3 : h0.size ≤ d3 := Nat.le_trans (Keep.refl h0 [a]).1 Fp3_0
  have Zs3 := Nat.le_trans Z0 Kq3.1
  have f4 := Exa.keep E_a Kq3
  have f5 := Fld.keep F_a_key Kq3 nin0
  have f6 := Fld.keep F_a_level Kq3 nin0
  have f7 := Fld.keep F_a_left Kq3 nin0
  have f8 := Fld.keep F_a_right Kq3 nin0
  have f9 := Fld.keep F_a_height Kq3 nin0
  have f10 := Fld.keep F_a_quantity Kq3 nin0
  have f11 := Exa.keep E_la Kq3
  have f12 := Fld.keep F_la_quantity Kq3 nin0
  have f13 := Exa.keep E_lv Kq3
  have f14 := Fld.keep F_lv_quantity Kq3 nin0
  have Q15 := HQ.keep HQ_vr Kq3 all0
  have K3 := (Keep.refl h0 [a]).trans Kq3 all0
  refine Go.s (fun {t} => st3) ?_
  show Go p.tables e below P (T3.setTop (mkF m 33 #[oR a, oJ key, oS, oR lv] [(.ref d3), (.ref a)]))
  obtain ⟨T16, H16, X16, e16, W16, st16⟩ := putF X3 hx hZ hown (host := "") (Or.inl (own_g hw 56 rfl)) Via.refl e3 f7 f4 (Or.inl (own_g hw 57 rfl)) (own_g hw 37 rfl) (ty := (.object oN)) (by decide) rfl rfl (g := (mkF m 33 #[oR a, oJ key, oS, oR lv] [(.ref d3), (.ref a)])) rfl rfl (hb hby own_d6_33)
  refine Go.s (fun {t} => st16 t) ?_
  have Fw16 := Fld.same W16 f7
  have f17 := Exa.wr W16 f4
  have f18 := Fld.other W16 f5 (Or.inr (slot_ne (Or.inr (own_g hw 46 rfl)) (Or.inl (own_g hw 57 rfl)) (by decide) (t := .long) (t' := (.object oN)) (by decide) (by decide)))
  have f19 := Fld.other W16 f6 (Or.inr (slot_ne (Or.inr (own_g hw 48 rfl)) (Or.inl (own_g hw 57 rfl)) (by decide) (t := (.object oL)) (t' := (.object oN)) (by decide) (by decide)))
  have f21 := Fld.other W16 f8 (Or.inr (slot_ne (Or.inl (own_g hw 59 rfl)) (Or.inl (own_g hw 57 rfl)) (by decide) (t := (.object oN)) (t' := (.object oN)) (by decide) (by decide)))
  have f22 := Fld.other W16 f9 (Or.inr (slot_ne (Or.inl (own_g hw 44 rfl)) (Or.inl (own_g hw 57 rfl)) (by decide) (t := .int) (t' := (.object oN)) (by decide) (by decide)))
  have f23 := Fld.other W16 f10 (Or.inr (slot_ne (Or.inl (own_g hw 52 rfl)) (Or.inl (own_g hw 57 rfl)) (by decide) (t := .long) (t' := (.object oN)) (by decide) (by decide)))
  have f24 := Exa.wr W16 f11
  have f25 := Fld.other W16 f12 (Or.inl (Ne.symm ne_a_la))
  have f26 := Exa.wr W16 f13
  have f27 := Fld.other W16 f14 (Or.inl (Ne.symm ne_a_lv))
  have f28 := Exa.wr W16 Fp3_1
  have f29 := Fld.other W16 Fp3_2 (Or.inl (Ne.symm nad3))
  have f30 := Fld.other W16 Fp3_3 (Or.inl (Ne.symm nad3))
  have f31 := Fld.other W16 Fp3_4 (Or.inl (Ne.symm nad3))
  have f32 := Fld.other W16 Fp3_5 (Or.inl (Ne.symm nad3))
  have f33 := Fld.other W16 Fp3_6 (Or.inl (Ne.symm nad3))
  have f34 := Fld.other W16 Fp3_7 (Or.inl (Ne.symm nad3))
  have Q35 := HQ.other Q15 W16 nv_vr_a
  have N16 := Fr.snoc X16 N3 G_a
  have Zs16 := Nat.le_trans Zs3 (Keep.of_wr W16).1
  have K16 : Keep h0 H16 [a] := K3.wr W16 (Or.inl (List.mem_of_getElem? (i := 0) rfl))
  refine Go.s (fun kz => XS.goto X16.here hx rfl (pc0 := 36) (pc' := 52) rfl (hb hby own_d6_36) (by decide) (by decide) kz) ?_
  show Go p.tables e below P (T16.setTop (mkF m 52 #[oR a, oJ key, oS, oR lv] []))
  refine Go.s (fun kz => XS.aloadN X16.here hx rfl (hb hby own_d6_52) rfl rfl kz) ?_
  show Go p.tables e below P (T16.setTop (mkF m 53 #[oR a, oJ key, oS, oR lv] [(.ref a)]))
  obtain ⟨v36, T36, L36, X36, Q36, st36⟩ := Con.static (own_rmbn l Z a0 hw [] a ka la (.ref d3) vr ta qa wa (1 : Int32) wv tvr qvr H16 n0 Zs16 (Or.inr ⟨d3, rfl, f29, f33⟩) Q35 f17 G_a f18 f19 Fw16 f21 f22 f23 f24 G_la f25 ne_a_la (fun q => (Ne.symm nad3) (Value.ref.inj q)) (fun q => (Ne.symm nlad3) (Value.ref.inj q)) nv_vr_a nv_vr_la hb1 hb2) X16 hx hZ (W := 0) hown (own_g hw 60 rfl) (own_g hw 61 rfl) (own_g hw 16 rfl) (own_g hw 62 rfl) (by decide) (by decide) (by decide) (by decide) (by decide) e16 (g := (mkF m 53 #[oR a, oJ key, oS, oR lv] [(.ref a)])) rfl (by rw [hml]; rfl) (argsL := [(.ref a)]) (rest := []) rfl (lenOf own_pd_4 rfl) rfl (by show 2 * 0 + _ ≤ _; exact Nat.le_of_eq rfl) (hb hby own_d6_53)
  obtain ⟨H36, e36⟩ : ∃ z, T36.heap = z := ⟨_, rfl⟩
  rw [e36] at Q36
  obtain ⟨rfl, Nq36, Kq36, Fp36_0, Fp36_1, Fp36_2, Fp36_3, Fp36_4, Fp36_5⟩ := Q36
  have N36 := Fr.app N16 Nq36
  have Zs36 := Nat.le_trans Zs16 Kq36.1
  have f37 := Exa.keep f17 Kq36
  have f43 := Exa.keep f24 Kq36
  have f44 := Fld.keep f25 Kq36 (ninS (Ne.symm ne_a_la) nin0)
  have f45 := Exa.keep f26 Kq36
  have f46 := Fld.keep f27 Kq36 (ninS (Ne.symm ne_a_lv) nin0)
  have f47 := Exa.keep f28 Kq36
  have f48 := Fld.keep f29 Kq36 (ninS (Ne.symm nad3) nin0)
  have f49 := Fld.keep f30 Kq36 (ninS (Ne.symm nad3) nin0)
  have f50 := Fld.keep f31 Kq36 (ninS (Ne.symm nad3) nin0)
  have f51 := Fld.keep f32 Kq36 (ninS (Ne.symm nad3) nin0)
  have f52 := Fld.keep f33 Kq36 (ninS (Ne.symm nad3) nin0)
  have f53 := Fld.keep f34 Kq36 (ninS (Ne.symm nad3) nin0)
  have Q55 := HQ.keep Q35 Kq36 (allS nv_vr_a all0)
  have K36 := K16.trans Kq36 (allS (Or.inl (List.mem_of_getElem? (i := 0) rfl)) all0)
  refine Go.s (fun {t} => st36) ?_
  show Go p.tables e below P (T36.setTop (mkF m 56 #[oR a, oJ key, oS, oR lv] [(.ref a)]))
  exact Go.retR X36 hx hlk hret rfl rfl (hb hby own_d6_56) (fun U hU hF => hP U _ _ (by rw [hU, e36]; exact ⟨d3, rfl, N36, K36, Fp36_0, Fp36_1, Fp36_2, Fp36_3, Fp36_4, Fp36_5, SZ_d3, f47, f48, f49, f50, f51, f52, f53⟩) ⟨hF.1, hF.2.1, hF.2.2.mono (by decide) (by decide)⟩)
theorem own_efprr (m : MethodId) (a : Addr) (key : Int64) (lv : Addr) : entryFrame m #[(.ref a), (.long key), (.ref lv)] 4 = mkF m 0 #[oR a, oJ key, oS, oR lv] [] := by
  (first | (simp [entryFrame, mkF, argsToLocals, Value.category]; done) | rfl)
set_option maxRecDepth 65536 in
set_option maxHeartbeats 40000000 in
theorem own_rmprr (l : Launch) (Z : State) (a0 : Array Value) (hw : ∀ d ∈ tables_1, d.before a0 Z = true) (ws : List Jvm.Cond) (a : Nat) (key : Int64) (lv : Nat) (ka : Int64) (la : Nat) (vl : Value) (ac : Nat) (ta : Int32) (qa : Int64) (kc : Int64) (lc : Nat) (qc : Int64) (wa : Int64) (wc : Int64) (wv : Int64) (tvl : Int32) (qvl : Int64) (h0 : Heap) (n0 : Nat) (Z0 : n0 ≤ h0.size) (HQ_vl : HQ Z h0 vl tvl qvl) (E_a : Exa Z h0 a oN) (G_a : n0 ≤ a) (F_a_key : Fld Z h0 a oN "key" "J" (.long ka)) (F_a_level : Fld Z h0 a oN "level" oLd (.ref la)) (F_a_left : Fld Z h0 a oN "left" oNd vl) (F_a_right : Fld Z h0 a oN "right" oNd (.ref ac)) (F_a_height : Fld Z h0 a oN "height" "I" (.int ta)) (F_a_quantity : Fld Z h0 a oN "quantity" "J" (.long qa)) (E_ac : Exa Z h0 ac oN) (G_ac : n0 ≤ ac) (F_ac_key : Fld Z h0 ac oN "key" "J" (.long kc)) (F_ac_level : Fld Z h0 ac oN "level" oLd (.ref lc)) (F_ac_left : Fld Z h0 ac oN "left" oNd .null) (F_ac_right : Fld Z h0 ac oN "right" oNd .null) (F_ac_height : Fld Z h0 ac oN "height" "I" (.int (1 : Int32))) (F_ac_quantity : Fld Z h0 ac oN "quantity" "J" (.long qc)) (E_la : Exa Z h0 la oL) (G_la : n0 ≤ la) (F_la_quantity : Fld Z h0 la oL "quantity" "J" (.long wa)) (E_lc : Exa Z h0 lc oL) (G_lc : n0 ≤ lc) (F_lc_quantity : Fld Z h0 lc oL "quantity" "J" (.long wc)) (E_lv : Exa Z h0 lv oL) (G_lv : n0 ≤ lv) (F_lv_quantity : Fld Z h0 lv oL "quantity" "J" (.long wv)) (ne_a_ac : a ≠ ac) (ne_a_la : a ≠ la) (ne_a_lc : a ≠ lc) (ne_a_lv : a ≠ lv) (ne_ac_la : ac ≠ la) (ne_ac_lc : ac ≠ lc) (ne_ac_lv : ac ≠ lv) (ne_la_lc : la ≠ lc) (ne_la_lv : la ≠ lv) (ne_lc_lv : lc ≠ lv) (nv_vl_a : vl ≠ .ref a) (nv_vl_ac : vl ≠ .ref ac) (nv_vl_la : vl ≠ .ref la) (nv_vl_lc : vl ≠ .ref lc) (nv_vl_lv : vl ≠ .ref lv) (hk : ¬ key < ka) (hk2 : ¬ key < kc) (hb1 : ¬ (1 : Int32) < (tvl - (2 : Int32))) (hb2 : ¬ (tvl - (2 : Int32)) < (-1 : Int32)) :
    Con l Z (⟨oT, "put", "(Lcom/example/rotunda/rotunda/LevelTree$Node;JLcom/example/rotunda/rotunda/BookSide$Level;)Lcom/example/rotunda/rotunda/LevelTree$Node;"⟩ : MethodName) prog_29_method_11_code 4 (some (.object oN)) ws ({ frames := 4, cells := 1, slots := 6, locals := 60 } : Room) #[(.ref a), (.long key), (.ref lv)] h0 (fun v h L => ∃ d3 : Nat, v = some (.ref a) ∧ Fr n0 L ∧ Keep h0 h [a, ac] ∧ Fld Z h a oN "height" "I" (.int ((own_f11 tvl (2 : Int32)) + (1 : Int32))) ∧ Fld Z h a oN "key" "J" (.long ka) ∧ Fld Z h a oN "left" oNd vl ∧ Fld Z h a oN "level" oLd (.ref la) ∧ Fld Z h a oN "quantity" "J" (.long ((qvl + wa) + (((0 : Int64) + wc) + wv))) ∧ Fld Z h a oN "right" oNd (.ref ac) ∧ Fld Z h ac oN "height" "I" (.int (2 : Int32)) ∧ Fld Z h ac oN "key" "J" (.long kc) ∧ Fld Z h ac oN "left" oNd .null ∧ Fld Z h ac oN "level" oLd (.ref lc) ∧ Fld Z h ac oN "quantity" "J" (.long (((0 : Int64) + wc) + wv)) ∧ Fld Z h ac oN "right" oNd (.ref d3) ∧ h0.size ≤ d3 ∧ Exa Z h d3 oN ∧ Fld Z h d3 oN "height" "I" (.int (1 : Int32)) ∧ Fld Z h d3 oN "key" "J" (.long key) ∧ Fld Z h d3 oN "left" oNd .null ∧ Fld Z h d3 oN "level" oLd (.ref lv) ∧ Fld Z h d3 oN "quantity" "J" (.long wv) ∧ Fld Z h d3 oN "right" oNd .null) := by
  refine Con.intro (plainFor_of_name own_pn_0) ?_
  intro p e s m below meth c s₁ P hx hby hml hown hnm hret hlk hZ X0 e0 hP
  have N0 := Fr.nil n0
  have hown : s.vm.findClass oT = some m.cls := hown
  refine Go.cast (own_efprr m a key lv) ?_
  show Go p.tables e below P (s₁.setTop (mkF m 0 #[oR a, oJ key, oS, oR lv] []))
  refine Go.s (fun kz => XS.aloadN X0.here hx rfl (hb hby own_d6_0) rfl rfl kz) ?_
  show Go p.tables e below P (s₁.setTop (mkF m 1 #[oR a, oJ key, oS, oR lv] [(.ref a)]))
  refine Go.s (fun kz => XT.ifnonnullYes X0.here hx rfl (pc0 := 1) (pc' := 14) rfl (hb hby own_d6_1) rfl (by decide) (by decide) kz) ?_
  show Go p.tables e below P (s₁.setTop (mkF m 14 #[oR a, oJ key, oS, oR lv] []))
  refine Go.s (fun kz => XT.lloadN X0.here hx rfl (hb hby own_d6_14) rfl kz) ?_
  refine Go.s (fun kz => XS.aloadN X0.here hx rfl (hb hby own_d6_15) rfl rfl kz) ?_
  show Go p.tables e below P (s₁.setTop (mkF m 16 #[oR a, oJ key, oS, oR lv] [(.ref a), (.long key)]))
  obtain ⟨T1, X1, e1, st1⟩ := getF X0 hx hZ hown (host := "") (Or.inl (own_g hw 55 rfl)) Via.refl e0 F_a_key (g := (mkF m 16 #[oR a, oJ key, oS, oR lv] [(.ref a), (.long key)])) rfl rfl (hb hby own_d6_16)
  refine Go.s (fun {t} => st1 t) ?_
  refine Go.s (fun kz => XT.lcmp X1.here hx rfl (hb hby own_d6_19) rfl kz) ?_
  show Go p.tables e below P (T1.setTop (mkF m 20 #[oR a, oJ key, oS, oR lv] [(.int (XT.cmpL key ka))]))
  refine Go.s (fun kz => XS.ifYes X1.here hx rfl (pc0 := 20) (pc' := 39) rfl (hb hby own_d6_20) rfl (XT.ll_ge_t hk) (by decide) (by decide) kz) ?_
  show Go p.tables e below P (T1.setTop (mkF m 39 #[oR a, oJ key, oS, oR lv] []))
  refine Go.s (fun kz => XS.aloadN X1.here hx rfl (hb hby own_d6_39) rfl rfl kz) ?_
  refine Go.s (fun kz => XS.aloadN X1.here hx rfl (hb hby own_d6_40) rfl rfl kz) ?_
  show Go p.tables e below P (T1.setTop (mkF m 41 #[oR a, oJ key, oS, oR lv] [(.ref a), (.ref a)]))
  obtain ⟨T2, X2, e2, st2⟩ := getF X1 hx hZ hown (host := "") (Or.inl (own_g hw 58 rfl)) Via.refl e1 F_a_right (g := (mkF m 41 #[oR a, oJ key, oS, oR lv] [(.ref a), (.ref a)])) rfl rfl (hb hby own_d6_41)
  refine Go.s (fun {t} => st2 t) ?_
  refine Go.s (fun kz => XT.lloadN X2.here hx rfl (hb hby own_d6_44) rfl kz) ?_
  refine Go.s (fun kz => XS.aloadN X2.here hx rfl (hb hby own_d6_45) rfl rfl kz) ?_
  show Go p.tables e below P (T2.setTop (mkF m 46 #[oR a, oJ key, oS, oR lv] [(.ref lv), (.long key), (.ref ac), (.ref a)]))
  obtain ⟨v3, T3, L3, X3, Q3, st3⟩ := Con.static (own_rmpr l Z a0 hw [] ac key lv kc lc .null (1 : Int32) qc wc wv (0 : Int32) (0 : Int64) h0 n0 Z0 HQ.null E_ac G_ac F_ac_key F_ac_level F_ac_left F_ac_right F_ac_height F_ac_quantity E_lc G_lc F_lc_quantity E_lv G_lv F_lv_quantity ne_ac_lc ne_ac_lv ne_lc_lv (fun q => by cases q) (fun q => by cases q) (fun q => by cases q) hk2 (by decide) (by decide)) X2 hx hZ (W := 1) hown (own_g hw 33 rfl) (own_g hw 34 rfl) (own_g hw 16 rfl) (own_g hw 35 rfl) (by decide) (by decide) (by decide) (by decide) (by decide) e2 (g := (mkF m 46 #[oR a, oJ key, oS, oR lv] [(.ref lv), (.long key), (.ref ac), (.ref a)])) rfl (by rw [hml]; rfl) (argsL := [(.ref ac), (.long key), (.ref lv)]) (rest := [(.ref a)]) rfl (lenOf own_pd_6 rfl) rfl (by show 2 * 0 + _ ≤ _; exact Nat.le_of_eq rfl) (hb hby own_d6_46)
  obtain ⟨H3, e3⟩ : ∃ z, T3.heap = z := ⟨_, rfl⟩
  rw [e3] at Q3
  obtain ⟨d3, rfl, Nq3, Kq3, Fp3_0, Fp3_1, Fp3_2, Fp3_3, Fp3_4, Fp3_5, Fp3_6, Fp3_7, Fp3_8, Fp3_9, Fp3_10, Fp3_11, Fp3_12, Fp3_13⟩ := Q3
  have N3 := Fr.app N0 Nq3
  have nad3 : a ≠ d3 := Nat.ne_of_lt (Nat.lt_of_lt_of_le E_a.lt Fp3_6)
  have nacd3 : ac ≠ d3 := Nat.ne_of_lt (Nat.lt_of_lt_of_le E_ac.lt Fp3_6)
  have nlad3 : la ≠ d3 := Nat.ne_of_lt (Nat.lt_of_lt_of_le E_la.lt Fp3_6)
  have nlcd3 : lc ≠ d3 := Nat.ne_of_lt (Nat.lt_of_lt_of_le E_lc.lt Fp3_6)
  have nlvd3 : lv ≠ d3 := Nat.ne_of_lt (Nat.lt_of_lt_of_le E_lv.lt Fp3_6)
  have nv_vl_d3 : vl ≠ .ref d3 := own_vlt HQ_vl Fp3_6
  have G_d3 : n0 ≤ d3 := Nat.le_trans Z0 Fp3_6
  have SZ_d3 : h0.size ≤ d3 := Nat.le_trans (Keep.refl h0 [a, ac]).1 Fp3_6
  have Zs3 := Nat.le_trans Z0 Kq3.1
  have f4 := Exa.keep E_a Kq3
  have f5 := Fld.keep F_a_key Kq3 (ninS ne_a_ac nin0)
  have f6 := Fld.keep F_a_level Kq3 (ninS ne_a_ac nin0)
  have f7 := Fld.keep F_a_left Kq3 (ninS ne_a_ac nin0)
  have f8 := Fld.keep F_a_right Kq3 (ninS ne_a_ac nin0)
  have f9 := Fld.keep F_a_height Kq3 (ninS ne_a_ac nin0)
  have f10 := Fld.keep F_a_quantity Kq3 (ninS ne_a_ac nin0)
  have f11 := Exa.keep E_ac Kq3
  have f18 := Exa.keep E_la Kq3
  have f19 := Fld.keep F_la_quantity Kq3 (ninS (Ne.symm ne_ac_la) nin0)
  have f20 := Exa.keep E_lc Kq3
  have f21 := Fld.keep F_lc_quantity Kq3 (ninS (Ne.symm ne_ac_lc) nin0)
  have f22 := Exa.keep E_lv Kq3
  have f23 := Fld.keep F_lv_quantity Kq3 (ninS (Ne.symm ne_ac_lv) nin0)
  have Q24 := HQ.keep HQ_vl Kq3 (allS nv_vl_ac all0)
  have K3 := (Keep.refl h0 [a, ac]).trans Kq3 (allS (Or.inl (List.mem_of_getElem? (i := 1) rfl)) all0)
  rw [show ((own_f11 (0 : Int32) (1 : Int32)) + (1 : Int32)) = (2 : Int32) from by decide] at Fp3_0
  refine Go.s (fun {t} => st3) ?_
  show Go p.tables e below P (T3.setTop (mkF m 49 #[oR a, oJ key, oS, oR lv] [(.ref ac), (.ref a)]))
  obtain ⟨T25, H25, X25, e25, W25, st25⟩ := putF X3 hx hZ hown (host := "") (Or.inl (own_g hw 58 rfl)) Via.refl e3 f8 f4 (Or.inl (own_g hw 59 rfl)) (own_g hw 37 rfl) (ty := (.object oN)) (by decide) rfl rfl (g := (mkF m 49 #[oR a, oJ key, oS, oR lv] [(.ref ac), (.ref a)])) rfl rfl (hb hby own_d6_49)
  refine Go.s (fun {t} => st25 t) ?_
  have Fw25 := Fld.same W25 f8
  have f26 := Exa.wr W25 f4
  have f27 := Fld.other W25 f5 (Or.inr (slot_ne (Or.inr (own_g hw 46 rfl)) (Or.inl (own_g hw 59 rfl)) (by decide) (t := .long) (t' := (.object oN)) (by decide) (by decide)))
  have f28 := Fld.other W25 f6 (Or.inr (slot_ne (Or.inr (own_g hw 48 rfl)) (Or.inl (own_g hw 59 rfl)) (by decide) (t := (.object oL)) (t' := (.object oN)) (by decide) (by decide)))
  have f29 := Fld.other W25 f7 (Or.inr (slot_ne (Or.inl (own_g hw 57 rfl)) (Or.inl (own_g hw 59 rfl)) (by decide) (t := (.object oN)) (t' := (.object oN)) (by decide) (by decide)))
  have f31 := Fld.other W25 f9 (Or.inr (slot_ne (Or.inl (own_g hw 44 rfl)) (Or.inl (own_g hw 59 rfl)) (by decide) (t := .int) (t' := (.object oN)) (by decide) (by decide)))
  have f32 := Fld.other W25 f10 (Or.inr (slot_ne (Or.inl (own_g hw 52 rfl)) (Or.inl (own_g hw 59 rfl)) (by decide) (t := .long) (t' := (.object oN)) (by decide) (by decide)))
  have f33 := Exa.wr W25 f11
  have f34 := Exa.wr W25 f18
  have f35 := Fld.other W25 f19 (Or.inl (Ne.symm ne_a_la))
  have f36 := Exa.wr W25 f20
  have f37 := Fld.other W25 f21 (Or.inl (Ne.symm ne_a_lc))
  have f38 := Exa.wr W25 f22
  have f39 := Fld.other W25 f23 (Or.inl (Ne.symm ne_a_lv))
  have f40 := Fld.other W25 Fp3_0 (Or.inl (Ne.symm ne_a_ac))
  have f41 := Fld.other W25 Fp3_1 (Or.inl (Ne.symm ne_a_ac))
  have f42 := Fld.other W25 Fp3_2 (Or.inl (Ne.symm ne_a_ac))
  have f43 := Fld.other W25 Fp3_3 (Or.inl (Ne.symm ne_a_ac))
  have f44 := Fld.other W25 Fp3_4 (Or.inl (Ne.symm ne_a_ac))
  have f45 := Fld.other W25 Fp3_5 (Or.inl (Ne.symm ne_a_ac))
  have f46 := Exa.wr W25 Fp3_7
  have f47 := Fld.other W25 Fp3_8 (Or.inl (Ne.symm nad3))
  have f48 := Fld.other W25 Fp3_9 (Or.inl (Ne.symm nad3))
  have f49 := Fld.other W25 Fp3_10 (Or.inl (Ne.symm nad3))
  have f50 := Fld.other W25 Fp3_11 (Or.inl (Ne.symm nad3))
  have f51 := Fld.other W25 Fp3_12 (Or.inl (Ne.symm nad3))
  have f52 := Fld.other W25 Fp3_13 (Or.inl (Ne.symm nad3))
  have Q53 := HQ.other Q24 W25 nv_vl_a
  have N25 := Fr.snoc X25 N3 G_a
  have Zs25 := Nat.le_trans Zs3 (Keep.of_wr W25).1
  have K25 : Keep h0 H25 [a, ac] := K3.wr W25 (Or.inl (List.mem_of_getElem? (i := 0) rfl))
  refine Go.s (fun kz => XS.aloadN X25.here hx rfl (hb hby own_d6_52) rfl rfl kz) ?_
  show Go p.tables e below P (T25.setTop (mkF m 53 #[oR a, oJ key, oS, oR lv] [(.ref a)]))
  obtain ⟨v54, T54, L54, X54, Q54, st54⟩ := Con.static (own_rmbn l Z a0 hw [] a ka la vl (.ref ac) ta qa wa tvl qvl (2 : Int32) (((0 : Int64) + wc) + wv) H25 n0 Zs25 Q53 (Or.inr ⟨ac, rfl, f40, f44⟩) f26 G_a f27 f28 f29 Fw25 f31 f32 f34 G_la f35 ne_a_la nv_vl_a nv_vl_la (fun q => (Ne.symm ne_a_ac) (Value.ref.inj q)) (fun q => ne_ac_la (Value.ref.inj q)) hb1 hb2) X25 hx hZ (W := 0) hown (own_g hw 60 rfl) (own_g hw 61 rfl) (own_g hw 16 rfl) (own_g hw 62 rfl) (by decide) (by decide) (by decide) (by decide) (by decide) e25 (g := (mkF m 53 #[oR a, oJ key, oS, oR lv] [(.ref a)])) rfl (by rw [hml]; rfl) (argsL := [(.ref a)]) (rest := []) rfl (lenOf own_pd_4 rfl) rfl (by show 2 * 0 + _ ≤ _; exact Nat.le_of_eq rfl) (hb hby own_d6_53)
  obtain ⟨H54, e54⟩ : ∃ z, T54.heap = z := ⟨_, rfl⟩
  rw [e54] at Q54
  obtain ⟨rfl, Nq54, Kq54, Fp54_0, Fp54_1, Fp54_2, Fp54_3, Fp54_4, Fp54_5⟩ := Q54
  have N54 := Fr.app N25 Nq54
  have Zs54 := Nat.le_trans Zs25 Kq54.1
  have f55 := Exa.keep f26 Kq54
  have f61 := Exa.keep f33 Kq54
  have f62 := Exa.keep f34 Kq54
  have f63 := Fld.keep f35 Kq54 (ninS (Ne.symm ne_a_la) nin0)
  have f64 := Exa.keep f36 Kq54
  have f65 := Fld.keep f37 Kq54 (ninS (Ne.symm ne_a_lc) nin0)
  have f66 := Exa.keep f38 Kq54
  have f67 := Fld.keep f39 Kq54 (ninS (Ne.symm ne_a_lv) nin0)
  have f68 := Fld.keep f40 Kq54 (ninS (Ne.symm ne_a_ac) nin0)
  have f69 := Fld.keep f41 Kq54 (ninS (Ne.symm ne_a_ac) nin0)
  have f70 := Fld.keep f42 Kq54 (ninS (Ne.symm ne_a_ac) nin0)
  have f71 := Fld.keep f43 Kq54 (ninS (Ne.symm ne_a_ac) nin0)
  have f72 := Fld.keep f44 Kq54 (ninS (Ne.symm ne_a_ac) nin0)
  have f73 := Fld.keep f45 Kq54 (ninS (Ne.symm ne_a_ac) nin0)
  have f74 := Exa.keep f46 Kq54
  have f75 := Fld.keep f47 Kq54 (ninS (Ne.symm nad3) nin0)
  have f76 := Fld.keep f48 Kq54 (ninS (Ne.symm nad3) nin0)
  have f77 := Fld.keep f49 Kq54 (ninS (Ne.symm nad3) nin0)
  have f78 := Fld.keep f50 Kq54 (ninS (Ne.symm nad3) nin0)
  have f79 := Fld.keep f51 Kq54 (ninS (Ne.symm nad3) nin0)
  have f80 := Fld.keep f52 Kq54 (ninS (Ne.symm nad3) nin0)
  have Q82 := HQ.keep Q53 Kq54 (allS nv_vl_a all0)
  have K54 := K25.trans Kq54 (allS (Or.inl (List.mem_of_getElem? (i := 0) rfl)) all0)
  refine Go.s (fun {t} => st54) ?_
  show Go p.tables e below P (T54.setTop (mkF m 56 #[oR a, oJ key, oS, oR lv] [(.ref a)]))
  exact Go.retR X54 hx hlk hret rfl rfl (hb hby own_d6_56) (fun U hU hF => hP U _ _ (by rw [hU, e54]; exact ⟨d3, rfl, N54, K54, Fp54_0, Fp54_1, Fp54_2, Fp54_3, Fp54_4, Fp54_5, f68, f69, f70, f71, f72, f73, SZ_d3, f74, f75, f76, f77, f78, f79, f80⟩) ⟨hF.1, hF.2.1, hF.2.2.mono (by decide) (by decide)⟩)
theorem own_efprl (m : MethodId) (a : Addr) (key : Int64) (lv : Addr) : entryFrame m #[(.ref a), (.long key), (.ref lv)] 4 = mkF m 0 #[oR a, oJ key, oS, oR lv] [] := by
  (first | (simp [entryFrame, mkF, argsToLocals, Value.category]; done) | rfl)
set_option maxRecDepth 65536 in
set_option maxHeartbeats 40000000 in
theorem own_rmprl (l : Launch) (Z : State) (a0 : Array Value) (hw : ∀ d ∈ tables_1, d.before a0 Z = true) (ws : List Jvm.Cond) (a : Nat) (key : Int64) (lv : Nat) (ka : Int64) (la : Nat) (vl : Value) (ac : Nat) (ta : Int32) (qa : Int64) (kc : Int64) (lc : Nat) (qc : Int64) (wa : Int64) (wc : Int64) (wv : Int64) (tvl : Int32) (qvl : Int64) (h0 : Heap) (n0 : Nat) (Z0 : n0 ≤ h0.size) (HQ_vl : HQ Z h0 vl tvl qvl) (E_a : Exa Z h0 a oN) (G_a : n0 ≤ a) (F_a_key : Fld Z h0 a oN "key" "J" (.long ka)) (F_a_level : Fld Z h0 a oN "level" oLd (.ref la)) (F_a_left : Fld Z h0 a oN "left" oNd vl) (F_a_right : Fld Z h0 a oN "right" oNd (.ref ac)) (F_a_height : Fld Z h0 a oN "height" "I" (.int ta)) (F_a_quantity : Fld Z h0 a oN "quantity" "J" (.long qa)) (E_ac : Exa Z h0 ac oN) (G_ac : n0 ≤ ac) (F_ac_key : Fld Z h0 ac oN "key" "J" (.long kc)) (F_ac_level : Fld Z h0 ac oN "level" oLd (.ref lc)) (F_ac_left : Fld Z h0 ac oN "left" oNd .null) (F_ac_right : Fld Z h0 ac oN "right" oNd .null) (F_ac_height : Fld Z h0 ac oN "height" "I" (.int (1 : Int32))) (F_ac_quantity : Fld Z h0 ac oN "quantity" "J" (.long qc)) (E_la : Exa Z h0 la oL) (G_la : n0 ≤ la) (F_la_quantity : Fld Z h0 la oL "quantity" "J" (.long wa)) (E_lc : Exa Z h0 lc oL) (G_lc : n0 ≤ lc) (F_lc_quantity : Fld Z h0 lc oL "quantity" "J" (.long wc)) (E_lv : Exa Z h0 lv oL) (G_lv : n0 ≤ lv) (F_lv_quantity : Fld Z h0 lv oL "quantity" "J" (.long wv)) (ne_a_ac : a ≠ ac) (ne_a_la : a ≠ la) (ne_a_lc : a ≠ lc) (ne_a_lv : a ≠ lv) (ne_ac_la : ac ≠ la) (ne_ac_lc : ac ≠ lc) (ne_ac_lv : ac ≠ lv) (ne_la_lc : la ≠ lc) (ne_la_lv : la ≠ lv) (ne_lc_lv : lc ≠ lv) (nv_vl_a : vl ≠ .ref a) (nv_vl_ac : vl ≠ .ref ac) (nv_vl_la : vl ≠ .ref la) (nv_vl_lc : vl ≠ .ref lc) (nv_vl_lv : vl ≠ .ref lv) (hk : ¬ key < ka) (hk2 : key < kc) (hb1 : ¬ (1 : Int32) < (tvl - (2 : Int32))) (hb2 : ¬ (tvl - (2 : Int32)) < (-1 : Int32)) :
    Con l Z (⟨oT, "put", "(Lcom/example/rotunda/rotunda/LevelTree$Node;JLcom/example/rotunda/rotunda/BookSide$Level;)Lcom/example/rotunda/rotunda/LevelTree$Node;"⟩ : MethodName) prog_29_method_11_code 4 (some (.object oN)) ws ({ frames := 4, cells := 1, slots := 6, locals := 60 } : Room) #[(.ref a), (.long key), (.ref lv)] h0 (fun v h L => ∃ d3 : Nat, v = some (.ref a) ∧ Fr n0 L ∧ Keep h0 h [a, ac] ∧ Fld Z h a oN "height" "I" (.int ((own_f11 tvl (2 : Int32)) + (1 : Int32))) ∧ Fld Z h a oN "key" "J" (.long ka) ∧ Fld Z h a oN "left" oNd vl ∧ Fld Z h a oN "level" oLd (.ref la) ∧ Fld Z h a oN "quantity" "J" (.long ((qvl + wa) + ((wv + wc) + (0 : Int64)))) ∧ Fld Z h a oN "right" oNd (.ref ac) ∧ Fld Z h ac oN "height" "I" (.int (2 : Int32)) ∧ Fld Z h ac oN "key" "J" (.long kc) ∧ Fld Z h ac oN "left" oNd (.ref d3) ∧ Fld Z h ac oN "level" oLd (.ref lc) ∧ Fld Z h ac oN "quantity" "J" (.long ((wv + wc) + (0 : Int64))) ∧ Fld Z h ac oN "right" oNd .null ∧ h0.size ≤ d3 ∧ Exa Z h d3 oN ∧ Fld Z h d3 oN "height" "I" (.int (1 : Int32)) ∧ Fld Z h d3 oN "key" "J" (.long key) ∧ Fld Z h d3 oN "left" oNd .null ∧ Fld Z h d3 oN "level" oLd (.ref lv) ∧ Fld Z h d3 oN "quantity" "J" (.long wv) ∧ Fld Z h d3 oN "right" oNd .null) := by
  refine Con.intro (plainFor_of_name own_pn_0) ?_
  intro p e s m below meth c s₁ P hx hby hml hown hnm hret hlk hZ X0 e0 hP
  have N0 := Fr.nil n0
  have hown : s.vm.findClass oT = some m.cls := hown
  refine Go.cast (own_efprl m a key lv) ?_
  show Go p.tables e below P (s₁.setTop (mkF m 0 #[oR a, oJ key, oS, oR lv] []))
  refine Go.s (fun kz => XS.aloadN X0.here hx rfl (hb hby own_d6_0) rfl rfl kz) ?_
  show Go p.tables e below P (s₁.setTop (mkF m 1 #[oR a, oJ key, oS, oR lv] [(.ref a)]))
  refine Go.s (fun kz => XT.ifnonnullYes X0.here hx rfl (pc0 := 1) (pc' := 14) rfl (hb hby own_d6_1) rfl (by decide) (by decide) kz) ?_
  show Go p.tables e below P (s₁.setTop (mkF m 14 #[oR a, oJ key, oS, oR lv] []))
  refine Go.s (fun kz => XT.lloadN X0.here hx rfl (hb hby own_d6_14) rfl kz) ?_
  refine Go.s (fun kz => XS.aloadN X0.here hx rfl (hb hby own_d6_15) rfl rfl kz) ?_
  show Go p.tables e below P (s₁.setTop (mkF m 16 #[oR a, oJ key, oS, oR lv] [(.ref a), (.long key)]))
  obtain ⟨T1, X1, e1, st1⟩ := getF X0 hx hZ hown (host := "") (Or.inl (own_g hw 55 rfl)) Via.refl e0 F_a_key (g := (mkF m 16 #[oR a, oJ key, oS, oR lv] [(.ref a), (.long key)])) rfl rfl (hb hby own_d6_16)
  refine Go.s (fun {t} => st1 t) ?_
  refine Go.s (fun kz => XT.lcmp X1.here hx rfl (hb hby own_d6_19) rfl kz) ?_
  show Go p.tables e below P (T1.setTop (mkF m 20 #[oR a, oJ key, oS, oR lv] [(.int (XT.cmpL key ka))]))
  refine Go.s (fun kz => XS.ifYes X1.here hx rfl (pc0 := 20) (pc' := 39) rfl (hb hby own_d6_20) rfl (XT.ll_ge_t hk) (by decide) (by decide) kz) ?_
  show Go p.tables e below P (T1.setTop (mkF m 39 #[oR a, oJ key, oS, oR lv] []))
  refine Go.s (fun kz => XS.aloadN X1.here hx rfl (hb hby own_d6_39) rfl rfl kz) ?_
  refine Go.s (fun kz => XS.aloadN X1.here hx rfl (hb hby own_d6_40) rfl rfl kz) ?_
  show Go p.tables e below P (T1.setTop (mkF m 41 #[oR a, oJ key, oS, oR lv] [(.ref a), (.ref a)]))
  obtain ⟨T2, X2, e2, st2⟩ := getF X1 hx hZ hown (host := "") (Or.inl (own_g hw 58 rfl)) Via.refl e1 F_a_right (g := (mkF m 41 #[oR a, oJ key, oS, oR lv] [(.ref a), (.ref a)])) rfl rfl (hb hby own_d6_41)
  refine Go.s (fun {t} => st2 t) ?_
  refine Go.s (fun kz => XT.lloadN X2.here hx rfl (hb hby own_d6_44) rfl kz) ?_
  refine Go.s (fun kz => XS.aloadN X2.here hx rfl (hb hby own_d6_45) rfl rfl kz) ?_
  show Go p.tables e below P (T2.setTop (mkF m 46 #[oR a, oJ key, oS, oR lv] [(.ref lv), (.long key), (.ref ac), (.ref a)]))
  obtain ⟨v3, T3, L3, X3, Q3, st3⟩ := Con.static (own_rmpl l Z a0 hw [] ac key lv kc lc .null (1 : Int32) qc wc wv (0 : Int32) (0 : Int64) h0 n0 Z0 HQ.null E_ac G_ac F_ac_key F_ac_level F_ac_left F_ac_right F_ac_height F_ac_quantity E_lc G_lc F_lc_quantity E_lv G_lv F_lv_quantity ne_ac_lc ne_ac_lv ne_lc_lv (fun q => by cases q) (fun q => by cases q) (fun q => by cases q) hk2 (by decide) (by decide)) X2 hx hZ (W := 1) hown (own_g hw 33 rfl) (own_g hw 34 rfl) (own_g hw 16 rfl) (own_g hw 35 rfl) (by decide) (by decide) (by decide) (by decide) (by decide) e2 (g := (mkF m 46 #[oR a, oJ key, oS, oR lv] [(.ref lv), (.long key), (.ref ac), (.ref a)])) rfl (by rw [hml]; rfl) (argsL := [(.ref ac), (.long key), (.ref lv)]) (rest := [(.ref a)]) rfl (lenOf own_pd_6 rfl) rfl (by show 2 * 0 + _ ≤ _; exact Nat.le_of_eq rfl) (hb hby own_d6_46)
  obtain ⟨H3, e3⟩ : ∃ z, T3.heap = z := ⟨_, rfl⟩
  rw [e3] at Q3
  obtain ⟨d3, rfl, Nq3, Kq3, Fp3_0, Fp3_1, Fp3_2, Fp3_3, Fp3_4, Fp3_5, Fp3_6, Fp3_7, Fp3_8, Fp3_9, Fp3_10, Fp3_11, Fp3_12, Fp3_13⟩ := Q3
  have N3 := Fr.app N0 Nq3
  have nad3 : a ≠ d3 := Nat.ne_of_lt (Nat.lt_of_lt_of_le E_a.lt Fp3_6)
  have nacd3 : ac ≠ d3 := Nat.ne_of_lt (Nat.lt_of_lt_of_le E_ac.lt Fp3_6)
  have nlad3 : la ≠ d3 := Nat.ne_of_lt (Nat.lt_of_lt_of_le E_la.lt Fp3_6)
  have nlcd3 : lc ≠ d3 := Nat.ne_of_lt (Nat.lt_of_lt_of_le E_lc.lt Fp3_6)
  have nlvd3 : lv ≠ d3 := Nat.ne_of_lt (Nat.lt_of_lt_of_le E_lv.lt Fp3_6)
  have nv_vl_d3 : vl ≠ .ref d3 := own_vlt HQ_vl Fp3_6
  have G_d3 : n0 ≤ d3 := Nat.le_trans Z0 Fp3_6
  have SZ_d3 : h0.size ≤ d3 := Nat.le_trans (Keep.refl h0 [a, ac]).1 Fp3_6
  have Zs3 := Nat.le_trans Z0 Kq3.1
  have f4 := Exa.keep E_a Kq3
  have f5 := Fld.keep F_a_key Kq3 (ninS ne_a_ac nin0)
  have f6 := Fld.keep F_a_level Kq3 (ninS ne_a_ac nin0)
  have f7 := Fld.keep F_a_left Kq3 (ninS ne_a_ac nin0)
  have f8 := Fld.keep F_a_right Kq3 (ninS ne_a_ac nin0)
  have f9 := Fld.keep F_a_height Kq3 (ninS ne_a_ac nin0)
  have f10 := Fld.keep F_a_quantity Kq3 (ninS ne_a_ac nin0)
  have f11 := Exa.keep E_ac Kq3
  have f18 := Exa.keep E_la Kq3
  have f19 := Fld.keep F_la_quantity Kq3 (ninS (Ne.symm ne_ac_la) nin0)
  have f20 := Exa.keep E_lc Kq3
  have f21 := Fld.keep F_lc_quantity Kq3 (ninS (Ne.symm ne_ac_lc) nin0)
  have f22 := Exa.keep E_lv Kq3
  have f23 := Fld.keep F_lv_quantity Kq3 (ninS (Ne.symm ne_ac_lv) nin0)
  have Q24 := HQ.keep HQ_vl Kq3 (allS nv_vl_ac all0)
  have K3 := (Keep.refl h0 [a, ac]).trans Kq3 (allS (Or.inl (List.mem_of_getElem? (i := 1) rfl)) all0)
  rw [show ((own_f11 (1 : Int32) (0 : Int32)) + (1 : Int32)) = (2 : Int32) from by decide] at Fp3_0
  refine Go.s (fun {t} => st3) ?_
  show Go p.tables e below P (T3.setTop (mkF m 49 #[oR a, oJ key, oS, oR lv] [(.ref ac), (.ref a)]))
  obtain ⟨T25, H25, X25, e25, W25, st25⟩ := putF X3 hx hZ hown (host := "") (Or.inl (own_g hw 58 rfl)) Via.refl e3 f8 f4 (Or.inl (own_g hw 59 rfl)) (own_g hw 37 rfl) (ty := (.object oN)) (by decide) rfl rfl (g := (mkF m 49 #[oR a, oJ key, oS, oR lv] [(.ref ac), (.ref a)])) rfl rfl (hb hby own_d6_49)
  refine Go.s (fun {t} => st25 t) ?_
  have Fw25 := Fld.same W25 f8
  have f26 := Exa.wr W25 f4
  have f27 := Fld.other W25 f5 (Or.inr (slot_ne (Or.inr (own_g hw 46 rfl)) (Or.inl (own_g hw 59 rfl)) (by decide) (t := .long) (t' := (.object oN)) (by decide) (by decide)))
  have f28 := Fld.other W25 f6 (Or.inr (slot_ne (Or.inr (own_g hw 48 rfl)) (Or.inl (own_g hw 59 rfl)) (by decide) (t := (.object oL)) (t' := (.object oN)) (by decide) (by decide)))
  have f29 := Fld.other W25 f7 (Or.inr (slot_ne (Or.inl (own_g hw 57 rfl)) (Or.inl (own_g hw 59 rfl)) (by decide) (t := (.object oN)) (t' := (.object oN)) (by decide) (by decide)))
  have f31 := Fld.other W25 f9 (Or.inr (slot_ne (Or.inl (own_g hw 44 rfl)) (Or.inl (own_g hw 59 rfl)) (by decide) (t := .int) (t' := (.object oN)) (by decide) (by decide)))
  have f32 := Fld.other W25 f10 (Or.inr (slot_ne (Or.inl (own_g hw 52 rfl)) (Or.inl (own_g hw 59 rfl)) (by decide) (t := .long) (t' := (.object oN)) (by decide) (by decide)))
  have f33 := Exa.wr W25 f11
  have f34 := Exa.wr W25 f18
  have f35 := Fld.other W25 f19 (Or.inl (Ne.symm ne_a_la))
  have f36 := Exa.wr W25 f20
  have f37 := Fld.other W25 f21 (Or.inl (Ne.symm ne_a_lc))
  have f38 := Exa.wr W25 f22
  have f39 := Fld.other W25 f23 (Or.inl (Ne.symm ne_a_lv))
  have f40 := Fld.other W25 Fp3_0 (Or.inl (Ne.symm ne_a_ac))
  have f41 := Fld.other W25 Fp3_1 (Or.inl (Ne.symm ne_a_ac))
  have f42 := Fld.other W25 Fp3_2 (Or.inl (Ne.symm ne_a_ac))
  have f43 := Fld.other W25 Fp3_3 (Or.inl (Ne.symm ne_a_ac))
  have f44 := Fld.other W25 Fp3_4 (Or.inl (Ne.symm ne_a_ac))
  have f45 := Fld.other W25 Fp3_5 (Or.inl (Ne.symm ne_a_ac))
  have f46 := Exa.wr W25 Fp3_7
  have f47 := Fld.other W25 Fp3_8 (Or.inl (Ne.symm nad3))
  have f48 := Fld.other W25 Fp3_9 (Or.inl (Ne.symm nad3))
  have f49 := Fld.other W25 Fp3_10 (Or.inl (Ne.symm nad3))
  have f50 := Fld.other W25 Fp3_11 (Or.inl (Ne.symm nad3))
  have f51 := Fld.other W25 Fp3_12 (Or.inl (Ne.symm nad3))
  have f52 := Fld.other W25 Fp3_13 (Or.inl (Ne.symm nad3))
  have Q53 := HQ.other Q24 W25 nv_vl_a
  have N25 := Fr.snoc X25 N3 G_a
  have Zs25 := Nat.le_trans Zs3 (Keep.of_wr W25).1
  have K25 : Keep h0 H25 [a, ac] := K3.wr W25 (Or.inl (List.mem_of_getElem? (i := 0) rfl))
  refine Go.s (fun kz => XS.aloadN X25.here hx rfl (hb hby own_d6_52) rfl rfl kz) ?_
  show Go p.tables e below P (T25.setTop (mkF m 53 #[oR a, oJ key, oS, oR lv] [(.ref a)]))
  obtain ⟨v54, T54, L54, X54, Q54, st54⟩ := Con.static (own_rmbn l Z a0 hw [] a ka la vl (.ref ac) ta qa wa tvl qvl (2 : Int32) ((wv + wc) + (0 : Int64)) H25 n0 Zs25 Q53 (Or.inr ⟨ac, rfl, f40, f44⟩) f26 G_a f27 f28 f29 Fw25 f31 f32 f34 G_la f35 ne_a_la nv_vl_a nv_vl_la (fun q => (Ne.symm ne_a_ac) (Value.ref.inj q)) (fun q => ne_ac_la (Value.ref.inj q)) hb1 hb2) X25 hx hZ (W := 0) hown (own_g hw 60 rfl) (own_g hw 61 rfl) (own_g hw 16 rfl) (own_g hw 62 rfl) (by decide) (by decide) (by decide) (by decide) (by decide) e25 (g := (mkF m 53 #[oR a, oJ key, oS, oR lv] [(.ref a)])) rfl (by rw [hml]; rfl) (argsL := [(.ref a)]) (rest := []) rfl (lenOf own_pd_4 rfl) rfl (by show 2 * 0 + _ ≤ _; exact Nat.le_of_eq rfl) (hb hby own_d6_53)
  obtain ⟨H54, e54⟩ : ∃ z, T54.heap = z := ⟨_, rfl⟩
  rw [e54] at Q54
  obtain ⟨rfl, Nq54, Kq54, Fp54_0, Fp54_1, Fp54_2, Fp54_3, Fp54_4, Fp54_5⟩ := Q54
  have N54 := Fr.app N25 Nq54
  have Zs54 := Nat.le_trans Zs25 Kq54.1
  have f55 := Exa.keep f26 Kq54
  have f61 := Exa.keep f33 Kq54
  have f62 := Exa.keep f34 Kq54
  have f63 := Fld.keep f35 Kq54 (ninS (Ne.symm ne_a_la) nin0)
  have f64 := Exa.keep f36 Kq54
  have f65 := Fld.keep f37 Kq54 (ninS (Ne.symm ne_a_lc) nin0)
  have f66 := Exa.keep f38 Kq54
  have f67 := Fld.keep f39 Kq54 (ninS (Ne.symm ne_a_lv) nin0)
  have f68 := Fld.keep f40 Kq54 (ninS (Ne.symm ne_a_ac) nin0)
  have f69 := Fld.keep f41 Kq54 (ninS (Ne.symm ne_a_ac) nin0)
  have f70 := Fld.keep f42 Kq54 (ninS (Ne.symm ne_a_ac) nin0)
  have f71 := Fld.keep f43 Kq54 (ninS (Ne.symm ne_a_ac) nin0)
  have f72 := Fld.keep f44 Kq54 (ninS (Ne.symm ne_a_ac) nin0)
  have f73 := Fld.keep f45 Kq54 (ninS (Ne.symm ne_a_ac) nin0)
  have f74 := Exa.keep f46 Kq54
  have f75 := Fld.keep f47 Kq54 (ninS (Ne.symm nad3) nin0)
  have f76 := Fld.keep f48 Kq54 (ninS (Ne.symm nad3) nin0)
  have f77 := Fld.keep f49 Kq54 (ninS (Ne.symm nad3) nin0)
  have f78 := Fld.keep f50 Kq54 (ninS (Ne.symm nad3) nin0)
  have f79 := Fld.keep f51 Kq54 (ninS (Ne.symm nad3) nin0)
  have f80 := Fld.keep f52 Kq54 (ninS (Ne.symm nad3) nin0)
  have Q82 := HQ.keep Q53 Kq54 (allS nv_vl_a all0)
  have K54 := K25.trans Kq54 (allS (Or.inl (List.mem_of_getElem? (i := 0) rfl)) all0)
  refine Go.s (fun {t} => st54) ?_
  show Go p.tables e below P (T54.setTop (mkF m 56 #[oR a, oJ key, oS, oR lv] [(.ref a)]))
  exact Go.retR X54 hx hlk hret rfl rfl (hb hby own_d6_56) (fun U hU hF => hP U _ _ (by rw [hU, e54]; exact ⟨d3, rfl, N54, K54, Fp54_0, Fp54_1, Fp54_2, Fp54_3, Fp54_4, Fp54_5, f68, f69, f70, f71, f72, f73, SZ_d3, f74, f75, f76, f77, f78, f79, f80⟩) ⟨hF.1, hF.2.1, hF.2.2.mono (by decide) (by decide)⟩)
theorem own_efpll (m : MethodId) (a : Addr) (key : Int64) (lv : Addr) : entryFrame m #[(.ref a), (.long key), (.ref lv)] 4 = mkF m 0 #[oR a, oJ key, oS, oR lv] [] := by
  (first | (simp [entryFrame, mkF, argsToLocals, Value.category]; done) | rfl)
set_option maxRecDepth 65536 in
set_option maxHeartbeats 40000000 in
theorem own_rmpll (l : Launch) (Z : State) (a0 : Array Value) (hw : ∀ d ∈ tables_1, d.before a0 Z = true) (ws : List Jvm.Cond) (a : Nat) (key : Int64) (lv : Nat) (ka : Int64) (la : Nat) (ac : Nat) (vr : Value) (ta : Int32) (qa : Int64) (kc : Int64) (lc : Nat) (qc : Int64) (wa : Int64) (wc : Int64) (wv : Int64) (tvr : Int32) (qvr : Int64) (h0 : Heap) (n0 : Nat) (Z0 : n0 ≤ h0.size) (HQ_vr : HQ Z h0 vr tvr qvr) (E_a : Exa Z h0 a oN) (G_a : n0 ≤ a) (F_a_key : Fld Z h0 a oN "key" "J" (.long ka)) (F_a_level : Fld Z h0 a oN "level" oLd (.ref la)) (F_a_left : Fld Z h0 a oN "left" oNd (.ref ac)) (F_a_right : Fld Z h0 a oN "right" oNd vr) (F_a_height : Fld Z h0 a oN "height" "I" (.int ta)) (F_a_quantity : Fld Z h0 a oN "quantity" "J" (.long qa)) (E_ac : Exa Z h0 ac oN) (G_ac : n0 ≤ ac) (F_ac_key : Fld Z h0 ac oN "key" "J" (.long kc)) (F_ac_level : Fld Z h0 ac oN "level" oLd (.ref lc)) (F_ac_left : Fld Z h0 ac oN "left" oNd .null) (F_ac_right : Fld Z h0 ac oN "right" oNd .null) (F_ac_height : Fld Z h0 ac oN "height" "I" (.int (1 : Int32))) (F_ac_quantity : Fld Z h0 ac oN "quantity" "J" (.long qc)) (E_la : Exa Z h0 la oL) (G_la : n0 ≤ la) (F_la_quantity : Fld Z h0 la oL "quantity" "J" (.long wa)) (E_lc : Exa Z h0 lc oL) (G_lc : n0 ≤ lc) (F_lc_quantity : Fld Z h0 lc oL "quantity" "J" (.long wc)) (E_lv : Exa Z h0 lv oL) (G_lv : n0 ≤ lv) (F_lv_quantity : Fld Z h0 lv oL "quantity" "J" (.long wv)) (ne_a_ac : a ≠ ac) (ne_a_la : a ≠ la) (ne_a_lc : a ≠ lc) (ne_a_lv : a ≠ lv) (ne_ac_la : ac ≠ la) (ne_ac_lc : ac ≠ lc) (ne_ac_lv : ac ≠ lv) (ne_la_lc : la ≠ lc) (ne_la_lv : la ≠ lv) (ne_lc_lv : lc ≠ lv) (nv_vr_a : vr ≠ .ref a) (nv_vr_ac : vr ≠ .ref ac) (nv_vr_la : vr ≠ .ref la) (nv_vr_lc : vr ≠ .ref lc) (nv_vr_lv : vr ≠ .ref lv) (hk : key < ka) (hk2 : key < kc) (hb1 : ¬ (1 : Int32) < ((2 : Int32) - tvr)) (hb2 : ¬ ((2 : Int32) - tvr) < (-1 : Int32)) :
    Con l Z (⟨oT, "put", "(Lcom/example/rotunda/rotunda/LevelTree$Node;JLcom/example/rotunda/rotunda/BookSide$Level;)Lcom/example/rotunda/rotunda/LevelTree$Node;"⟩ : MethodName) prog_29_method_11_code 4 (some (.object oN)) ws ({ frames := 4, cells := 1, slots := 6, locals := 60 } : Room) #[(.ref a), (.long key), (.ref lv)] h0 (fun v h L => ∃ d3 : Nat, v = some (.ref a) ∧ Fr n0 L ∧ Keep h0 h [a, ac] ∧ Fld Z h a oN "height" "I" (.int ((own_f11 (2 : Int32) tvr) + (1 : Int32))) ∧ Fld Z h a oN "key" "J" (.long ka) ∧ Fld Z h a oN "left" oNd (.ref ac) ∧ Fld Z h a oN "level" oLd (.ref la) ∧ Fld Z h a oN "quantity" "J" (.long ((((wv + wc) + (0 : Int64)) + wa) + qvr)) ∧ Fld Z h a oN "right" oNd vr ∧ Fld Z h ac oN "height" "I" (.int (2 : Int32)) ∧ Fld Z h ac oN "key" "J" (.long kc) ∧ Fld Z h ac oN "left" oNd (.ref d3) ∧ Fld Z h ac oN "level" oLd (.ref lc) ∧ Fld Z h ac oN "quantity" "J" (.long ((wv + wc) + (0 : Int64))) ∧ Fld Z h ac oN "right" oNd .null ∧ h0.size ≤ d3 ∧ Exa Z h d3 oN ∧ Fld Z h d3 oN "height" "I" (.int (1 : Int32)) ∧ Fld Z h d3 oN "key" "J" (.long key) ∧ Fld Z h d3 oN "left" oNd .null ∧ Fld Z h d3 oN "level" oLd (.ref lv) ∧ Fld Z h d3 oN "quantity" "J" (.long wv) ∧ Fld Z h d3 oN "right" oNd .null) := by
  refine Con.intro (plainFor_of_name own_pn_0) ?_
  intro p e s m below meth c s₁ P hx hby hml hown hnm hret hlk hZ X0 e0 hP
  have N0 := Fr.nil n0
  have hown : s.vm.findClass oT = some m.cls := hown
  refine Go.cast (own_efpll m a key lv) ?_
  show Go p.tables e below P (s₁.setTop (mkF m 0 #[oR a, oJ key, oS, oR lv] []))
  refine Go.s (fun kz => XS.aloadN X0.here hx rfl (hb hby own_d6_0) rfl rfl kz) ?_
  show Go p.tables e below P (s₁.setTop (mkF m 1 #[oR a, oJ key, oS, oR lv] [(.ref a)]))
  refine Go.s (fun kz => XT.ifnonnullYes X0.here hx rfl (pc0 := 1) (pc' := 14) rfl (hb hby own_d6_1) rfl (by decide) (by decide) kz) ?_
  show Go p.tables e below P (s₁.setTop (mkF m 14 #[oR a, oJ key, oS, oR lv] []))
  refine Go.s (fun kz => XT.lloadN X0.here hx rfl (hb hby own_d6_14) rfl kz) ?_
  refine Go.s (fun kz => XS.aloadN X0.here hx rfl (hb hby own_d6_15) rfl rfl kz) ?_
  show Go p.tables e below P (s₁.setTop (mkF m 16 #[oR a, oJ key, oS, oR lv] [(.ref a), (.long key)]))
  obtain ⟨T1, X1, e1, st1⟩ := getF X0 hx hZ hown (host := "") (Or.inl (own_g hw 55 rfl)) Via.refl e0 F_a_key (g := (mkF m 16 #[oR a, oJ key, oS, oR lv] [(.ref a), (.long key)])) rfl rfl (hb hby own_d6_16)
  refine Go.s (fun {t} => st1 t) ?_
  refine Go.s (fun kz => XT.lcmp X1.here hx rfl (hb hby own_d6_19) rfl kz) ?_
  show Go p.tables e below P (T1.setTop (mkF m 20 #[oR a, oJ key, oS, oR lv] [(.int (XT.cmpL key ka))]))
  refine Go.s (fun kz => XS.ifNo X1.here hx rfl (hb hby own_d6_20) rfl (XT.ll_ge_f hk) kz) ?_
  show Go p.tables e below P (T1.setTop (mkF m 23 #[oR a, oJ key, oS, oR lv] []))
  refine Go.s (fun kz => XS.aloadN X1.here hx rfl (hb hby own_d6_23) rfl rfl kz) ?_
  refine Go.s (fun kz => XS.aloadN X1.here hx rfl (hb hby own_d6_24) rfl rfl kz) ?_
  show Go p.tables e below P (T1.setTop (mkF m 25 #[oR a, oJ key, oS, oR lv] [(.ref a), (.ref a)]))
  obtain ⟨T2, X2, e2, st2⟩ := getF X1 hx hZ hown (host := "") (Or.inl (own_g hw 56 rfl)) Via.refl e1 F_a_left (g := (mkF m 25 #[oR a, oJ key, oS, oR lv] [(.ref a), (.ref a)])) rfl rfl (hb hby own_d6_25)
  refine Go.s (fun {t} => st2 t) ?_
  refine Go.s (fun kz => XT.lloadN X2.here hx rfl (hb hby own_d6_28) rfl kz) ?_
  refine Go.s (fun kz => XS.aloadN X2.here hx rfl (hb hby own_d6_29) rfl rfl kz) ?_
  show Go p.tables e below P (T2.setTop (mkF m 30 #[oR a, oJ key, oS, oR lv] [(.ref lv), (.long key), (.ref ac), (.ref a)]))
  obtain ⟨v3, T3, L3, X3, Q3, st3⟩ := Con.static (own_rmpl l Z a0 hw [] ac key lv kc lc .null (1 : Int32) qc wc wv (0 : Int32) (0 : Int64) h0 n0 Z0 HQ.null E_ac G_ac F_ac_key F_ac_level F_ac_left F_ac_right F_ac_height F_ac_quantity E_lc G_lc F_lc_quantity E_lv G_lv F_lv_quantity ne_ac_lc ne_ac_lv ne_lc_lv (fun q => by cases q) (fun q => by cases q) (fun q => by cases q) hk2 (by decide) (by decide)) X2 hx hZ (W := 1) hown (own_g hw 33 rfl) (own_g hw 34 rfl) (own_g hw 16 rfl) (own_g hw 35 rfl) (by decide) (by decide) (by decide) (by decide) (by decide) e2 (g := (mkF m 30 #[oR a, oJ key, oS, oR lv] [(.ref lv), (.long key), (.ref ac), (.ref a)])) rfl (by rw [hml]; rfl) (argsL := [(.ref ac), (.long key), (.ref lv)]) (rest := [(.ref a)]) rfl (lenOf own_pd_6 rfl) rfl (by show 2 * 0 + _ ≤ _; exact Nat.le_of_eq rfl) (hb hby own_d6_30)
  obtain ⟨H3, e3⟩ : ∃ z, T3.heap = z := ⟨_, rfl⟩
  rw [e3] at Q3
  obtain ⟨d3, rfl, Nq3, Kq3, Fp3_0, Fp3_1, Fp3_2, Fp3_3, Fp3_4, Fp3_5, Fp3_6, Fp3_7, Fp3_8, Fp3_9, Fp3_10, Fp3_11, Fp3_12, Fp3_13⟩ := Q3
  have N3 := Fr.app N0 Nq3
  have nad3 : a ≠ d3 := Nat.ne_of_lt (Nat.lt_of_lt_of_le E_a.lt Fp3_6)
  have nacd3 : ac ≠ d3 := Nat.ne_of_lt (Nat.lt_of_lt_of_le E_ac.lt Fp3_6)
  have nlad3 : la ≠ d3 := Nat.ne_of_lt (Nat.lt_of_lt_of_le E_la.lt Fp3_6)
  have nlcd3 : lc ≠ d3 := Nat.ne_of_lt (Nat.lt_of_lt_of_le E_lc.lt Fp3_6)
  have nlvd3 : lv ≠ d3 := Nat.ne_of_lt (Nat.lt_of_lt_of_le E_lv.lt Fp3_6)
  have nv_vr_d3 : vr ≠ .ref d3 := own_vlt HQ_vr Fp3_6
  have G_d3 : n0 ≤ d3 := Nat.le_trans Z0 Fp3_6
  have SZ_d3 : h0.size ≤ d3 := Nat.le_trans (Keep.refl h0 [a, ac]).1 Fp3_6
  have Zs3 := Nat.le_trans Z0 Kq3.1
  have f4 := Exa.keep E_a Kq3
  have f5 := Fld.keep F_a_key Kq3 (ninS ne_a_ac nin0)
  have f6 := Fld.keep F_a_level Kq3 (ninS ne_a_ac nin0)
  have f7 := Fld.keep F_a_left Kq3 (ninS ne_a_ac nin0)
  have f8 := Fld.keep F_a_right Kq3 (ninS ne_a_ac nin0)
  have f9 := Fld.keep F_a_height Kq3 (ninS ne_a_ac nin0)
  have f10 := Fld.keep F_a_quantity Kq3 (ninS ne_a_ac nin0)
  have f11 := Exa.keep E_ac Kq3
  have f18 := Exa.keep E_la Kq3
  have f19 := Fld.keep F_la_quantity Kq3 (ninS (Ne.symm ne_ac_la) nin0)
  have f20 := Exa.keep E_lc Kq3
  have f21 := Fld.keep F_lc_quantity Kq3 (ninS (Ne.symm ne_ac_lc) nin0)
  have f22 := Exa.keep E_lv Kq3
  have f23 := Fld.keep F_lv_quantity Kq3 (ninS (Ne.symm ne_ac_lv) nin0)
  have Q24 := HQ.keep HQ_vr Kq3 (allS nv_vr_ac all0)
  have K3 := (Keep.refl h0 [a, ac]).trans Kq3 (allS (Or.inl (List.mem_of_getElem? (i := 1) rfl)) all0)
  rw [show ((own_f11 (1 : Int32) (0 : Int32)) + (1 : Int32)) = (2 : Int32) from by decide] at Fp3_0
  refine Go.s (fun {t} => st3) ?_
  show Go p.tables e below P (T3.setTop (mkF m 33 #[oR a, oJ key, oS, oR lv] [(.ref ac), (.ref a)]))
  obtain ⟨T25, H25, X25, e25, W25, st25⟩ := putF X3 hx hZ hown (host := "") (Or.inl (own_g hw 56 rfl)) Via.refl e3 f7 f4 (Or.inl (own_g hw 57 rfl)) (own_g hw 37 rfl) (ty := (.object oN)) (by decide) rfl rfl (g := (mkF m 33 #[oR a, oJ key, oS, oR lv] [(.ref ac), (.ref a)])) rfl rfl (hb hby own_d6_33)
  refine Go.s (fun {t} => st25 t) ?_
  have Fw25 := Fld.same W25 f7
  have f26 := Exa.wr W25 f4
  have f27 := Fld.other W25 f5 (Or.inr (slot_ne (Or.inr (own_g hw 46 rfl)) (Or.inl (own_g hw 57 rfl)) (by decide) (t := .long) (t' := (.object oN)) (by decide) (by decide)))
  have f28 := Fld.other W25 f6 (Or.inr (slot_ne (Or.inr (own_g hw 48 rfl)) (Or.inl (own_g hw 57 rfl)) (by decide) (t := (.object oL)) (t' := (.object oN)) (by decide) (by decide)))
  have f30 := Fld.other W25 f8 (Or.inr (slot_ne (Or.inl (own_g hw 59 rfl)) (Or.inl (own_g hw 57 rfl)) (by decide) (t := (.object oN)) (t' := (.object oN)) (by decide) (by decide)))
  have f31 := Fld.other W25 f9 (Or.inr (slot_ne (Or.inl (own_g hw 44 rfl)) (Or.inl (own_g hw 57 rfl)) (by decide) (t := .int) (t' := (.object oN)) (by decide) (by decide)))
  have f32 := Fld.other W25 f10 (Or.inr (slot_ne (Or.inl (own_g hw 52 rfl)) (Or.inl (own_g hw 57 rfl)) (by decide) (t := .long) (t' := (.object oN)) (by decide) (by decide)))
  have f33 := Exa.wr W25 f11
  have f34 := Exa.wr W25 f18
  have f35 := Fld.other W25 f19 (Or.inl (Ne.symm ne_a_la))
  have f36 := Exa.wr W25 f20
  have f37 := Fld.other W25 f21 (Or.inl (Ne.symm ne_a_lc))
  have f38 := Exa.wr W25 f22
  have f39 := Fld.other W25 f23 (Or.inl (Ne.symm ne_a_lv))
  have f40 := Fld.other W25 Fp3_0 (Or.inl (Ne.symm ne_a_ac))
  have f41 := Fld.other W25 Fp3_1 (Or.inl (Ne.symm ne_a_ac))
  have f42 := Fld.other W25 Fp3_2 (Or.inl (Ne.symm ne_a_ac))
  have f43 := Fld.other W25 Fp3_3 (Or.inl (Ne.symm ne_a_ac))
  have f44 := Fld.other W25 Fp3_4 (Or.inl (Ne.symm ne_a_ac))
  have f45 := Fld.other W25 Fp3_5 (Or.inl (Ne.symm ne_a_ac))
  have f46 := Exa.wr W25 Fp3_7
  have f47 := Fld.other W25 Fp3_8 (Or.inl (Ne.symm nad3))
  have f48 := Fld.other W25 Fp3_9 (Or.inl (Ne.symm nad3))
  have f49 := Fld.other W25 Fp3_10 (Or.inl (Ne.symm nad3))
  have f50 := Fld.other W25 Fp3_11 (Or.inl (Ne.symm nad3))
  have f51 := Fld.other W25 Fp3_12 (Or.inl (Ne.symm nad3))
  have f52 := Fld.other W25 Fp3_13 (Or.inl (Ne.symm nad3))
  have Q53 := HQ.other Q24 W25 nv_vr_a
  have N25 := Fr.snoc X25 N3 G_a
  have Zs25 := Nat.le_trans Zs3 (Keep.of_wr W25).1
  have K25 : Keep h0 H25 [a, ac] := K3.wr W25 (Or.inl (List.mem_of_getElem? (i := 0) rfl))
  refine Go.s (fun kz => XS.goto X25.here hx rfl (pc0 := 36) (pc' := 52) rfl (hb hby own_d6_36) (by decide) (by decide) kz) ?_
  show Go p.tables e below P (T25.setTop (mkF m 52 #[oR a, oJ key, oS, oR lv] []))
  refine Go.s (fun kz => XS.aloadN X25.here hx rfl (hb hby own_d6_52) rfl rfl kz) ?_
  show Go p.tables e below P (T25.setTop (mkF m 53 #[oR a, oJ key, oS, oR lv] [(.ref a)]))
  obtain ⟨v54, T54, L54, X54, Q54, st54⟩ := Con.static (own_rmbn l Z a0 hw [] a ka la (.ref ac) vr ta qa wa (2 : Int32) ((wv + wc) + (0 : Int64)) tvr qvr H25 n0 Zs25 (Or.inr ⟨ac, rfl, f40, f44⟩) Q53 f26 G_a f27 f28 Fw25 f30 f31 f32 f34 G_la f35 ne_a_la (fun q => (Ne.symm ne_a_ac) (Value.ref.inj q)) (fun q => ne_ac_la (Value.ref.inj q)) nv_vr_a nv_vr_la hb1 hb2) X25 hx hZ (W := 0) hown (own_g hw 60 rfl) (own_g hw 61 rfl) (own_g hw 16 rfl) (own_g hw 62 rfl) (by decide) (by decide) (by decide) (by decide) (by decide) e25 (g := (mkF m 53 #[oR a, oJ key, oS, oR lv] [(.ref a)])) rfl (by rw [hml]; rfl) (argsL := [(.ref a)]) (rest := []) rfl (lenOf own_pd_4 rfl) rfl (by show 2 * 0 + _ ≤ _; exact Nat.le_of_eq rfl) (hb hby own_d6_53)
  obtain ⟨H54, e54⟩ : ∃ z, T54.heap = z := ⟨_, rfl⟩
  rw [e54] at Q54
  obtain ⟨rfl, Nq54, Kq54, Fp54_0, Fp54_1, Fp54_2, Fp54_3, Fp54_4, Fp54_5⟩ := Q54
  have N54 := Fr.app N25 Nq54
  have Zs54 := Nat.le_trans Zs25 Kq54.1
  have f55 := Exa.keep f26 Kq54
  have f61 := Exa.keep f33 Kq54
  have f62 := Exa.keep f34 Kq54
  have f63 := Fld.keep f35 Kq54 (ninS (Ne.symm ne_a_la) nin0)
  have f64 := Exa.keep f36 Kq54
  have f65 := Fld.keep f37 Kq54 (ninS (Ne.symm ne_a_lc) nin0)
  have f66 := Exa.keep f38 Kq54
  have f67 := Fld.keep f39 Kq54 (ninS (Ne.symm ne_a_lv) nin0)
  have f68 := Fld.keep f40 Kq54 (ninS (Ne.symm ne_a_ac) nin0)
  have f69 := Fld.keep f41 Kq54 (ninS (Ne.symm ne_a_ac) nin0)
  have f70 := Fld.keep f42 Kq54 (ninS (Ne.symm ne_a_ac) nin0)
  have f71 := Fld.keep f43 Kq54 (ninS (Ne.symm ne_a_ac) nin0)
  have f72 := Fld.keep f44 Kq54 (ninS (Ne.symm ne_a_ac) nin0)
  have f73 := Fld.keep f45 Kq54 (ninS (Ne.symm ne_a_ac) nin0)
  have f74 := Exa.keep f46 Kq54
  have f75 := Fld.keep f47 Kq54 (ninS (Ne.symm nad3) nin0)
  have f76 := Fld.keep f48 Kq54 (ninS (Ne.symm nad3) nin0)
  have f77 := Fld.keep f49 Kq54 (ninS (Ne.symm nad3) nin0)
  have f78 := Fld.keep f50 Kq54 (ninS (Ne.symm nad3) nin0)
  have f79 := Fld.keep f51 Kq54 (ninS (Ne.symm nad3) nin0)
  have f80 := Fld.keep f52 Kq54 (ninS (Ne.symm nad3) nin0)
  have Q82 := HQ.keep Q53 Kq54 (allS nv_vr_a all0)
  have K54 := K25.trans Kq54 (allS (Or.inl (List.mem_of_getElem? (i := 0) rfl)) all0)
  refine Go.s (fun {t} => st54) ?_
  show Go p.tables e below P (T54.setTop (mkF m 56 #[oR a, oJ key, oS, oR lv] [(.ref a)]))
  exact Go.retR X54 hx hlk hret rfl rfl (hb hby own_d6_56) (fun U hU hF => hP U _ _ (by rw [hU, e54]; exact ⟨d3, rfl, N54, K54, Fp54_0, Fp54_1, Fp54_2, Fp54_3, Fp54_4, Fp54_5, f68, f69, f70, f71, f72, f73, SZ_d3, f74, f75, f76, f77, f78, f79, f80⟩) ⟨hF.1, hF.2.1, hF.2.2.mono (by decide) (by decide)⟩)
theorem own_efplr (m : MethodId) (a : Addr) (key : Int64) (lv : Addr) : entryFrame m #[(.ref a), (.long key), (.ref lv)] 4 = mkF m 0 #[oR a, oJ key, oS, oR lv] [] := by
  (first | (simp [entryFrame, mkF, argsToLocals, Value.category]; done) | rfl)
set_option maxRecDepth 65536 in
set_option maxHeartbeats 40000000 in
theorem own_rmplr (l : Launch) (Z : State) (a0 : Array Value) (hw : ∀ d ∈ tables_1, d.before a0 Z = true) (ws : List Jvm.Cond) (a : Nat) (key : Int64) (lv : Nat) (ka : Int64) (la : Nat) (ac : Nat) (vr : Value) (ta : Int32) (qa : Int64) (kc : Int64) (lc : Nat) (qc : Int64) (wa : Int64) (wc : Int64) (wv : Int64) (tvr : Int32) (qvr : Int64) (h0 : Heap) (n0 : Nat) (Z0 : n0 ≤ h0.size) (HQ_vr : HQ Z h0 vr tvr qvr) (E_a : Exa Z h0 a oN) (G_a : n0 ≤ a) (F_a_key : Fld Z h0 a oN "key" "J" (.long ka)) (F_a_level : Fld Z h0 a oN "level" oLd (.ref la)) (F_a_left : Fld Z h0 a oN "left" oNd (.ref ac)) (F_a_right : Fld Z h0 a oN "right" oNd vr) (F_a_height : Fld Z h0 a oN "height" "I" (.int ta)) (F_a_quantity : Fld Z h0 a oN "quantity" "J" (.long qa)) (E_ac : Exa Z h0 ac oN) (G_ac : n0 ≤ ac) (F_ac_key : Fld Z h0 ac oN "key" "J" (.long kc)) (F_ac_level : Fld Z h0 ac oN "level" oLd (.ref lc)) (F_ac_left : Fld Z h0 ac oN "left" oNd .null) (F_ac_right : Fld Z h0 ac oN "right" oNd .null) (F_ac_height : Fld Z h0 ac oN "height" "I" (.int (1 : Int32))) (F_ac_quantity : Fld Z h0 ac oN "quantity" "J" (.long qc)) (E_la : Exa Z h0 la oL) (G_la : n0 ≤ la) (F_la_quantity : Fld Z h0 la oL "quantity" "J" (.long wa)) (E_lc : Exa Z h0 lc oL) (G_lc : n0 ≤ lc) (F_lc_quantity : Fld Z h0 lc oL "quantity" "J" (.long wc)) (E_lv : Exa Z h0 lv oL) (G_lv : n0 ≤ lv) (F_lv_quantity : Fld Z h0 lv oL "quantity" "J" (.long wv)) (ne_a_ac : a ≠ ac) (ne_a_la : a ≠ la) (ne_a_lc : a ≠ lc) (ne_a_lv : a ≠ lv) (ne_ac_la : ac ≠ la) (ne_ac_lc : ac ≠ lc) (ne_ac_lv : ac ≠ lv) (ne_la_lc : la ≠ lc) (ne_la_lv : la ≠ lv) (ne_lc_lv : lc ≠ lv) (nv_vr_a : vr ≠ .ref a) (nv_vr_ac : vr ≠ .ref ac) (nv_vr_la : vr ≠ .ref la) (nv_vr_lc : vr ≠ .ref lc) (nv_vr_lv : vr ≠ .ref lv) (hk : key < ka) (hk2 : ¬ key < kc) (hb1 : ¬ (1 : Int32) < ((2 : Int32) - tvr)) (hb2 : ¬ ((2 : Int32) - tvr) < (-1 : Int32)) :
    Con l Z (⟨oT, "put", "(Lcom/example/rotunda/rotunda/LevelTree$Node;JLcom/example/rotunda/rotunda/BookSide$Level;)Lcom/example/rotunda/rotunda/LevelTree$Node;"⟩ : MethodName) prog_29_method_11_code 4 (some (.object oN)) ws ({ frames := 4, cells := 1, slots := 6, locals := 60 } : Room) #[(.ref a), (.long key), (.ref lv)] h0 (fun v h L => ∃ d3 : Nat, v = some (.ref a) ∧ Fr n0 L ∧ Keep h0 h [a, ac] ∧ Fld Z h a oN "height" "I" (.int ((own_f11 (2 : Int32) tvr) + (1 : Int32))) ∧ Fld Z h a oN "key" "J" (.long ka) ∧ Fld Z h a oN "left" oNd (.ref ac) ∧ Fld Z h a oN "level" oLd (.ref la) ∧ Fld Z h a oN "quantity" "J" (.long (((((0 : Int64) + wc) + wv) + wa) + qvr)) ∧ Fld Z h a oN "right" oNd vr ∧ Fld Z h ac oN "height" "I" (.int (2 : Int32)) ∧ Fld Z h ac oN "key" "J" (.long kc) ∧ Fld Z h ac oN "left" oNd .null ∧ Fld Z h ac oN "level" oLd (.ref lc) ∧ Fld Z h ac oN "quantity" "J" (.long (((0 : Int64) + wc) + wv)) ∧ Fld Z h ac oN "right" oNd (.ref d3) ∧ h0.size ≤ d3 ∧ Exa Z h d3 oN ∧ Fld Z h d3 oN "height" "I" (.int (1 : Int32)) ∧ Fld Z h d3 oN "key" "J" (.long key) ∧ Fld Z h d3 oN "left" oNd .null ∧ Fld Z h d3 oN "level" oLd (.ref lv) ∧ Fld Z h d3 oN "quantity" "J" (.long wv) ∧ Fld Z h d3 oN "right" oNd .null) := by
  refine Con.intro (plainFor_of_name own_pn_0) ?_
  intro p e s m below meth c s₁ P hx hby hml hown hnm hret hlk hZ X0 e0 hP
  have N0 := Fr.nil n0
  have hown : s.vm.findClass oT = some m.cls := hown
  refine Go.cast (own_efplr m a key lv) ?_
  show Go p.tables e below P (s₁.setTop (mkF m 0 #[oR a, oJ key, oS, oR lv] []))
  refine Go.s (fun kz => XS.aloadN X0.here hx rfl (hb hby own_d6_0) rfl rfl kz) ?_
  show Go p.tables e below P (s₁.setTop (mkF m 1 #[oR a, oJ key, oS, oR lv] [(.ref a)]))
  refine Go.s (fun kz => XT.ifnonnullYes X0.here hx rfl (pc0 := 1) (pc' := 14) rfl (hb hby own_d6_1) rfl (by decide) (by decide) kz) ?_
  show Go p.tables e below P (s₁.setTop (mkF m 14 #[oR a, oJ key, oS, oR lv] []))
  refine Go.s (fun kz => XT.lloadN X0.here hx rfl (hb hby own_d6_14) rfl kz) ?_
  refine Go.s (fun kz => XS.aloadN X0.here hx rfl (hb hby own_d6_15) rfl rfl kz) ?_
  show Go p.tables e below P (s₁.setTop (mkF m 16 #[oR a, oJ key, oS, oR lv] [(.ref a), (.long key)]))
  obtain ⟨T1, X1, e1, st1⟩ := getF X0 hx hZ hown (host := "") (Or.inl (own_g hw 55 rfl)) Via.refl e0 F_a_key (g := (mkF m 16 #[oR a, oJ key, oS, oR lv] [(.ref a), (.long key)])) rfl rfl (hb hby own_d6_16)
  refine Go.s (fun {t} => st1 t) ?_
  refine Go.s (fun kz => XT.lcmp X1.here hx rfl (hb hby own_d6_19) rfl kz) ?_
  show Go p.tables e below P (T1.setTop (mkF m 20 #[oR a, oJ key, oS, oR lv] [(.int (XT.cmpL key ka))]))
  refine Go.s (fun kz => XS.ifNo X1.here hx rfl (hb hby own_d6_20) rfl (XT.ll_ge_f hk) kz) ?_
  show Go p.tables e below P (T1.setTop (mkF m 23 #[oR a, oJ key, oS, oR lv] []))
  refine Go.s (fun kz => XS.aloadN X1.here hx rfl (hb hby own_d6_23) rfl rfl kz) ?_
  refine Go.s (fun kz => XS.aloadN X1.here hx rfl (hb hby own_d6_24) rfl rfl kz) ?_
  show Go p.tables e below P (T1.setTop (mkF m 25 #[oR a, oJ key, oS, oR lv] [(.ref a), (.ref a)]))
  obtain ⟨T2, X2, e2, st2⟩ := getF X1 hx hZ hown (host := "") (Or.inl (own_g hw 56 rfl)) Via.refl e1 F_a_left (g := (mkF m 25 #[oR a, oJ key, oS, oR lv] [(.ref a), (.ref a)])) rfl rfl (hb hby own_d6_25)
  refine Go.s (fun {t} => st2 t) ?_
  refine Go.s (fun kz => XT.lloadN X2.here hx rfl (hb hby own_d6_28) rfl kz) ?_
  refine Go.s (fun kz => XS.aloadN X2.here hx rfl (hb hby own_d6_29) rfl rfl kz) ?_
  show Go p.tables e below P (T2.setTop (mkF m 30 #[oR a, oJ key, oS, oR lv] [(.ref lv), (.long key), (.ref ac), (.ref a)]))
  obtain ⟨v3, T3, L3, X3, Q3, st3⟩ := Con.static (own_rmpr l Z a0 hw [] ac key lv kc lc .null (1 : Int32) qc wc wv (0 : Int32) (0 : Int64) h0 n0 Z0 HQ.null E_ac G_ac F_ac_key F_ac_level F_ac_left F_ac_right F_ac_height F_ac_quantity E_lc G_lc F_lc_quantity E_lv G_lv F_lv_quantity ne_ac_lc ne_ac_lv ne_lc_lv (fun q => by cases q) (fun q => by cases q) (fun q => by cases q) hk2 (by decide) (by decide)) X2 hx hZ (W := 1) hown (own_g hw 33 rfl) (own_g hw 34 rfl) (own_g hw 16 rfl) (own_g hw 35 rfl) (by decide) (by decide) (by decide) (by decide) (by decide) e2 (g := (mkF m 30 #[oR a, oJ key, oS, oR lv] [(.ref lv), (.long key), (.ref ac), (.ref a)])) rfl (by rw [hml]; rfl) (argsL := [(.ref ac), (.long key), (.ref lv)]) (rest := [(.ref a)]) rfl (lenOf own_pd_6 rfl) rfl (by show 2 * 0 + _ ≤ _; exact Nat.le_of_eq rfl) (hb hby own_d6_30)
  obtain ⟨H3, e3⟩ : ∃ z, T3.heap = z := ⟨_, rfl⟩
  rw [e3] at Q3
  obtain ⟨d3, rfl, Nq3, Kq3, Fp3_0, Fp3_1, Fp3_2, Fp3_3, Fp3_4, Fp3_5, Fp3_6, Fp3_7, Fp3_8, Fp3_9, Fp3_10, Fp3_11, Fp3_12, Fp3_13⟩ := Q3
  have N3 := Fr.app N0 Nq3
  have nad3 : a ≠ d3 := Nat.ne_of_lt (Nat.lt_of_lt_of_le E_a.lt Fp3_6)
  have nacd3 : ac ≠ d3 := Nat.ne_of_lt (Nat.lt_of_lt_of_le E_ac.lt Fp3_6)
  have nlad3 : la ≠ d3 := Nat.ne_of_lt (Nat.lt_of_lt_of_le E_la.lt Fp3_6)
  have nlcd3 : lc ≠ d3 := Nat.ne_of_lt (Nat.lt_of_lt_of_le E_lc.lt Fp3_6)
  have nlvd3 : lv ≠ d3 := Nat.ne_of_lt (Nat.lt_of_lt_of_le E_lv.lt Fp3_6)
  have nv_vr_d3 : vr ≠ .ref d3 := own_vlt HQ_vr Fp3_6
  have G_d3 : n0 ≤ d3 := Nat.le_trans Z0 Fp3_6
  have SZ_d3 : h0.size ≤ d3 := Nat.le_trans (Keep.refl h0 [a, ac]).1 Fp3_6
  have Zs3 := Nat.le_trans Z0 Kq3.1
  have f4 := Exa.keep E_a Kq3
  have f5 := Fld.keep F_a_key Kq3 (ninS ne_a_ac nin0)
  have f6 := Fld.keep F_a_level Kq3 (ninS ne_a_ac nin0)
  have f7 := Fld.keep F_a_left Kq3 (ninS ne_a_ac nin0)
  have f8 := Fld.keep F_a_right Kq3 (ninS ne_a_ac nin0)
  have f9 := Fld.keep F_a_height Kq3 (ninS ne_a_ac nin0)
  have f10 := Fld.keep F_a_quantity Kq3 (ninS ne_a_ac nin0)
  have f11 := Exa.keep E_ac Kq3
  have f18 := Exa.keep E_la Kq3
  have f19 := Fld.keep F_la_quantity Kq3 (ninS (Ne.symm ne_ac_la) nin0)
  have f20 := Exa.keep E_lc Kq3
  have f21 := Fld.keep F_lc_quantity Kq3 (ninS (Ne.symm ne_ac_lc) nin0)
  have f22 := Exa.keep E_lv Kq3
  have f23 := Fld.keep F_lv_quantity Kq3 (ninS (Ne.symm ne_ac_lv) nin0)
  have Q24 := HQ.keep HQ_vr Kq3 (allS nv_vr_ac all0)
  have K3 := (Keep.refl h0 [a, ac]).trans Kq3 (allS (Or.inl (List.mem_of_getElem? (i := 1) rfl)) all0)
  rw [show ((own_f11 (0 : Int32) (1 : Int32)) + (1 : Int32)) = (2 : Int32) from by decide] at Fp3_0
  refine Go.s (fun {t} => st3) ?_
  show Go p.tables e below P (T3.setTop (mkF m 33 #[oR a, oJ key, oS, oR lv] [(.ref ac), (.ref a)]))
  obtain ⟨T25, H25, X25, e25, W25, st25⟩ := putF X3 hx hZ hown (host := "") (Or.inl (own_g hw 56 rfl)) Via.refl e3 f7 f4 (Or.inl (own_g hw 57 rfl)) (own_g hw 37 rfl) (ty := (.object oN)) (by decide) rfl rfl (g := (mkF m 33 #[oR a, oJ key, oS, oR lv] [(.ref ac), (.ref a)])) rfl rfl (hb hby own_d6_33)
  refine Go.s (fun {t} => st25 t) ?_
  have Fw25 := Fld.same W25 f7
  have f26 := Exa.wr W25 f4
  have f27 := Fld.other W25 f5 (Or.inr (slot_ne (Or.inr (own_g hw 46 rfl)) (Or.inl (own_g hw 57 rfl)) (by decide) (t := .long) (t' := (.object oN)) (by decide) (by decide)))
  have f28 := Fld.other W25 f6 (Or.inr (slot_ne (Or.inr (own_g hw 48 rfl)) (Or.inl (own_g hw 57 rfl)) (by decide) (t := (.object oL)) (t' := (.object oN)) (by decide) (by decide)))
  have f30 := Fld.other W25 f8 (Or.inr (slot_ne (Or.inl (own_g hw 59 rfl)) (Or.inl (own_g hw 57 rfl)) (by decide) (t := (.object oN)) (t' := (.object oN)) (by decide) (by decide)))
  have f31 := Fld.other W25 f9 (Or.inr (slot_ne (Or.inl (own_g hw 44 rfl)) (Or.inl (own_g hw 57 rfl)) (by decide) (t := .int) (t' := (.object oN)) (by decide) (by decide)))
  have f32 := Fld.other W25 f10 (Or.inr (slot_ne (Or.inl (own_g hw 52 rfl)) (Or.inl (own_g hw 57 rfl)) (by decide) (t := .long) (t' := (.object oN)) (by decide) (by decide)))
  have f33 := Exa.wr W25 f11
  have f34 := Exa.wr W25 f18
  have f35 := Fld.other W25 f19 (Or.inl (Ne.symm ne_a_la))
  have f36 := Exa.wr W25 f20
  have f37 := Fld.other W25 f21 (Or.inl (Ne.symm ne_a_lc))
  have f38 := Exa.wr W25 f22
  have f39 := Fld.other W25 f23 (Or.inl (Ne.symm ne_a_lv))
  have f40 := Fld.other W25 Fp3_0 (Or.inl (Ne.symm ne_a_ac))
  have f41 := Fld.other W25 Fp3_1 (Or.inl (Ne.symm ne_a_ac))
  have f42 := Fld.other W25 Fp3_2 (Or.inl (Ne.symm ne_a_ac))
  have f43 := Fld.other W25 Fp3_3 (Or.inl (Ne.symm ne_a_ac))
  have f44 := Fld.other W25 Fp3_4 (Or.inl (Ne.symm ne_a_ac))
  have f45 := Fld.other W25 Fp3_5 (Or.inl (Ne.symm ne_a_ac))
  have f46 := Exa.wr W25 Fp3_7
  have f47 := Fld.other W25 Fp3_8 (Or.inl (Ne.symm nad3))
  have f48 := Fld.other W25 Fp3_9 (Or.inl (Ne.symm nad3))
  have f49 := Fld.other W25 Fp3_10 (Or.inl (Ne.symm nad3))
  have f50 := Fld.other W25 Fp3_11 (Or.inl (Ne.symm nad3))
  have f51 := Fld.other W25 Fp3_12 (Or.inl (Ne.symm nad3))
  have f52 := Fld.other W25 Fp3_13 (Or.inl (Ne.symm nad3))
  have Q53 := HQ.other Q24 W25 nv_vr_a
  have N25 := Fr.snoc X25 N3 G_a
  have Zs25 := Nat.le_trans Zs3 (Keep.of_wr W25).1
  have K25 : Keep h0 H25 [a, ac] := K3.wr W25 (Or.inl (List.mem_of_getElem? (i := 0) rfl))
  refine Go.s (fun kz => XS.goto X25.here hx rfl (pc0 := 36) (pc' := 52) rfl (hb hby own_d6_36) (by decide) (by decide) kz) ?_
  show Go p.tables e below P (T25.setTop (mkF m 52 #[oR a, oJ key, oS, oR lv] []))
  refine Go.s (fun kz => XS.aloadN X25.here hx rfl (hb hby own_d6_52) rfl rfl kz) ?_
  show Go p.tables e below P (T25.setTop (mkF m 53 #[oR a, oJ key, oS, oR lv] [(.ref a)]))
  obtain ⟨v54, T54, L54, X54, Q54, st54⟩ := Con.static (own_rmbn l Z a0 hw [] a ka la (.ref ac) vr ta qa wa (2 : Int32) (((0 : Int64) + wc) + wv) tvr qvr H25 n0 Zs25 (Or.inr ⟨ac, rfl, f40, f44⟩) Q53 f26 G_a f27 f28 Fw25 f30 f31 f32 f34 G_la f35 ne_a_la (fun q => (Ne.symm ne_a_ac) (Value.ref.inj q)) (fun q => ne_ac_la (Value.ref.inj q)) nv_vr_a nv_vr_la hb1 hb2) X25 hx hZ (W := 0) hown (own_g hw 60 rfl) (own_g hw 61 rfl) (own_g hw 16 rfl) (own_g hw 62 rfl) (by decide) (by decide) (by decide) (by decide) (by decide) e25 (g := (mkF m 53 #[oR a, oJ key, oS, oR lv] [(.ref a)])) rfl (by rw [hml]; rfl) (argsL := [(.ref a)]) (rest := []) rfl (lenOf own_pd_4 rfl) rfl (by show 2 * 0 + _ ≤ _; exact Nat.le_of_eq rfl) (hb hby own_d6_53)
  obtain ⟨H54, e54⟩ : ∃ z, T54.heap = z := ⟨_, rfl⟩
  rw [e54] at Q54
  obtain ⟨rfl, Nq54, Kq54, Fp54_0, Fp54_1, Fp54_2, Fp54_3, Fp54_4, Fp54_5⟩ := Q54
  have N54 := Fr.app N25 Nq54
  have Zs54 := Nat.le_trans Zs25 Kq54.1
  have f55 := Exa.keep f26 Kq54
  have f61 := Exa.keep f33 Kq54
  have f62 := Exa.keep f34 Kq54
  have f63 := Fld.keep f35 Kq54 (ninS (Ne.symm ne_a_la) nin0)
  have f64 := Exa.keep f36 Kq54
  have f65 := Fld.keep f37 Kq54 (ninS (Ne.symm ne_a_lc) nin0)
  have f66 := Exa.keep f38 Kq54
  have f67 := Fld.keep f39 Kq54 (ninS (Ne.symm ne_a_lv) nin0)
  have f68 := Fld.keep f40 Kq54 (ninS (Ne.symm ne_a_ac) nin0)
  have f69 := Fld.keep f41 Kq54 (ninS (Ne.symm ne_a_ac) nin0)
  have f70 := Fld.keep f42 Kq54 (ninS (Ne.symm ne_a_ac) nin0)
  have f71 := Fld.keep f43 Kq54 (ninS (Ne.symm ne_a_ac) nin0)
  have f72 := Fld.keep f44 Kq54 (ninS (Ne.symm ne_a_ac) nin0)
  have f73 := Fld.keep f45 Kq54 (ninS (Ne.symm ne_a_ac) nin0)
  have f74 := Exa.keep f46 Kq54
  have f75 := Fld.keep f47 Kq54 (ninS (Ne.symm nad3) nin0)
  have f76 := Fld.keep f48 Kq54 (ninS (Ne.symm nad3) nin0)
  have f77 := Fld.keep f49 Kq54 (ninS (Ne.symm nad3) nin0)
  have f78 := Fld.keep f50 Kq54 (ninS (Ne.symm nad3) nin0)
  have f79 := Fld.keep f51 Kq54 (ninS (Ne.symm nad3) nin0)
  have f80 := Fld.keep f52 Kq54 (ninS (Ne.symm nad3) nin0)
  have Q82 := HQ.keep Q53 Kq54 (allS nv_vr_a all0)
  have K54 := K25.trans Kq54 (allS (Or.inl (List.mem_of_getElem? (i := 0) rfl)) all0)
  refine Go.s (fun {t} => st54) ?_
  show Go p.tables e below P (T54.setTop (mkF m 56 #[oR a, oJ key, oS, oR lv] [(.ref a)]))
  exact Go.retR X54 hx hlk hret rfl rfl (hb hby own_d6_56) (fun U hU hF => hP U _ _ (by rw [hU, e54]; exact ⟨d3, rfl, N54, K54, Fp54_0, Fp54_1, Fp54_2, Fp54_3, Fp54_4, Fp54_5, f68, f69, f70, f71, f72, f73, SZ_d3, f74, f75, f76, f77, f78, f79, f80⟩) ⟨hF.1, hF.2.1, hF.2.2.mono (by decide) (by decide)⟩)
theorem own_efpro (m : MethodId) (a : Addr) (key : Int64) (lv : Addr) : entryFrame m #[(.ref a), (.long key), (.ref lv)] 4 = mkF m 0 #[oR a, oJ key, oS, oR lv] [] := by
  (first | (simp [entryFrame, mkF, argsToLocals, Value.category]; done) | rfl)
set_option maxRecDepth 65536 in
set_option maxHeartbeats 40000000 in
theorem own_rmpro (l : Launch) (Z : State) (a0 : Array Value) (hw : ∀ d ∈ tables_1, d.before a0 Z = true) (ws : List Jvm.Cond) (a : Nat) (key : Int64) (lv : Nat) (ka : Int64) (la : Nat) (ac : Nat) (ta : Int32) (qa : Int64) (kc : Int64) (lc : Nat) (qc : Int64) (wa : Int64) (wc : Int64) (wv : Int64) (h0 : Heap) (n0 : Nat) (Z0 : n0 ≤ h0.size) (E_a : Exa Z h0 a oN) (G_a : n0 ≤ a) (F_a_key : Fld Z h0 a oN "key" "J" (.long ka)) (F_a_level : Fld Z h0 a oN "level" oLd (.ref la)) (F_a_left : Fld Z h0 a oN "left" oNd .null) (F_a_right : Fld Z h0 a oN "right" oNd (.ref ac)) (F_a_height : Fld Z h0 a oN "height" "I" (.int ta)) (F_a_quantity : Fld Z h0 a oN "quantity" "J" (.long qa)) (E_ac : Exa Z h0 ac oN) (G_ac : n0 ≤ ac) (F_ac_key : Fld Z h0 ac oN "key" "J" (.long kc)) (F_ac_level : Fld Z h0 ac oN "level" oLd (.ref lc)) (F_ac_left : Fld Z h0 ac oN "left" oNd .null) (F_ac_right : Fld Z h0 ac oN "right" oNd .null) (F_ac_height : Fld Z h0 ac oN "height" "I" (.int (1 : Int32))) (F_ac_quantity : Fld Z h0 ac oN "quantity" "J" (.long qc)) (E_la : Exa Z h0 la oL) (G_la : n0 ≤ la) (F_la_quantity : Fld Z h0 la oL "quantity" "J" (.long wa)) (E_lc : Exa Z h0 lc oL) (G_lc : n0 ≤ lc) (F_lc_quantity : Fld Z h0 lc oL "quantity" "J" (.long wc)) (E_lv : Exa Z h0 lv oL) (G_lv : n0 ≤ lv) (F_lv_quantity : Fld Z h0 lv oL "quantity" "J" (.long wv)) (ne_a_ac : a ≠ ac) (ne_a_la : a ≠ la) (ne_a_lc : a ≠ lc) (ne_a_lv : a ≠ lv) (ne_ac_la : ac ≠ la) (ne_ac_lc : ac ≠ lc) (ne_ac_lv : ac ≠ lv) (ne_la_lc : la ≠ lc) (ne_la_lv : la ≠ lv) (ne_lc_lv : lc ≠ lv) (hk : ¬ key < ka) (hk2 : ¬ key < kc) :
    Con l Z (⟨oT, "put", "(Lcom/example/rotunda/rotunda/LevelTree$Node;JLcom/example/rotunda/rotunda/BookSide$Level;)Lcom/example/rotunda/rotunda/LevelTree$Node;"⟩ : MethodName) prog_29_method_11_code 4 (some (.object oN)) ws ({ frames := 4, cells := 1, slots := 6, locals := 60 } : Room) #[(.ref a), (.long key), (.ref lv)] h0 (fun v h L => ∃ d3 : Nat, v = some (.ref ac) ∧ Fr n0 L ∧ Keep h0 h [a, ac] ∧ Fld Z h a oN "height" "I" (.int (1 : Int32)) ∧ Fld Z h a oN "key" "J" (.long ka) ∧ Fld Z h a oN "left" oNd .null ∧ Fld Z h a oN "level" oLd (.ref la) ∧ Fld Z h a oN "quantity" "J" (.long (((0 : Int64) + wa) + (0 : Int64))) ∧ Fld Z h a oN "right" oNd .null ∧ Fld Z h ac oN "height" "I" (.int ((own_f11 ((own_f11 (0 : Int32) (0 : Int32)) + (1 : Int32)) (1 : Int32)) + (1 : Int32))) ∧ Fld Z h ac oN "key" "J" (.long kc) ∧ Fld Z h ac oN "left" oNd (.ref a) ∧ Fld Z h ac oN "level" oLd (.ref lc) ∧ Fld Z h ac oN "quantity" "J" (.long (((((0 : Int64) + wa) + (0 : Int64)) + wc) + wv)) ∧ Fld Z h ac oN "right" oNd (.ref d3) ∧ h0.size ≤ d3 ∧ Exa Z h d3 oN ∧ Fld Z h d3 oN "height" "I" (.int (1 : Int32)) ∧ Fld Z h d3 oN "key" "J" (.long key) ∧ Fld Z h d3 oN "left" oNd .null ∧ Fld Z h d3 oN "level" oLd (.ref lv) ∧ Fld Z h d3 oN "quantity" "J" (.long wv) ∧ Fld Z h d3 oN "right" oNd .null) := by
  refine Con.intro (plainFor_of_name own_pn_0) ?_
  intro p e s m below meth c s₁ P hx hby hml hown hnm hret hlk hZ X0 e0 hP
  have N0 := Fr.nil n0
  have hown : s.vm.findClass oT = some m.cls := hown
  refine Go.cast (own_efpro m a key lv) ?_
  show Go p.tables e below P (s₁.setTop (mkF m 0 #[oR a, oJ key, oS, oR lv] []))
  refine Go.s (fun kz => XS.aloadN X0.here hx rfl (hb hby own_d6_0) rfl rfl kz) ?_
  show Go p.tables e below P (s₁.setTop (mkF m 1 #[oR a, oJ key, oS, oR lv] [(.ref a)]))
  refine Go.s (fun kz => XT.ifnonnullYes X0.here hx rfl (pc0 := 1) (pc' := 14) rfl (hb hby own_d6_1) rfl (by decide) (by decide) kz) ?_
  show Go p.tables e below P (s₁.setTop (mkF m 14 #[oR a, oJ key, oS, oR lv] []))
  refine Go.s (fun kz => XT.lloadN X0.here hx rfl (hb hby own_d6_14) rfl kz) ?_
  refine Go.s (fun kz => XS.aloadN X0.here hx rfl (hb hby own_d6_15) rfl rfl kz) ?_
  show Go p.tables e below P (s₁.setTop (mkF m 16 #[oR a, oJ key, oS, oR lv] [(.ref a), (.long key)]))
  obtain ⟨T1, X1, e1, st1⟩ := getF X0 hx hZ hown (host := "") (Or.inl (own_g hw 55 rfl)) Via.refl e0 F_a_key (g := (mkF m 16 #[oR a, oJ key, oS, oR lv] [(.ref a), (.long key)])) rfl rfl (hb hby own_d6_16)
  refine Go.s (fun {t} => st1 t) ?_
  refine Go.s (fun kz => XT.lcmp X1.here hx rfl (hb hby own_d6_19) rfl kz) ?_
  show Go p.tables e below P (T1.setTop (mkF m 20 #[oR a, oJ key, oS, oR lv] [(.int (XT.cmpL key ka))]))
  refine Go.s (fun kz => XS.ifYes X1.here hx rfl (pc0 := 20) (pc' := 39) rfl (hb hby own_d6_20) rfl (XT.ll_ge_t hk) (by decide) (by decide) kz) ?_
  show Go p.tables e below P (T1.setTop (mkF m 39 #[oR a, oJ key, oS, oR lv] []))
  refine Go.s (fun kz => XS.aloadN X1.here hx rfl (hb hby own_d6_39) rfl rfl kz) ?_
  refine Go.s (fun kz => XS.aloadN X1.here hx rfl (hb hby own_d6_40) rfl rfl kz) ?_
  show Go p.tables e below P (T1.setTop (mkF m 41 #[oR a, oJ key, oS, oR lv] [(.ref a), (.ref a)]))
  obtain ⟨T2, X2, e2, st2⟩ := getF X1 hx hZ hown (host := "") (Or.inl (own_g hw 58 rfl)) Via.refl e1 F_a_right (g := (mkF m 41 #[oR a, oJ key, oS, oR lv] [(.ref a), (.ref a)])) rfl rfl (hb hby own_d6_41)
  refine Go.s (fun {t} => st2 t) ?_
  refine Go.s (fun kz => XT.lloadN X2.here hx rfl (hb hby own_d6_44) rfl kz) ?_
  refine Go.s (fun kz => XS.aloadN X2.here hx rfl (hb hby own_d6_45) rfl rfl kz) ?_
  show Go p.tables e below P (T2.setTop (mkF m 46 #[oR a, oJ key, oS, oR lv] [(.ref lv), (.long key), (.ref ac), (.ref a)]))
  obtain ⟨v3, T3, L3, X3, Q3, st3⟩ := Con.static (own_rmpr l Z a0 hw [] ac key lv kc lc .null (1 : Int32) qc wc wv (0 : Int32) (0 : Int64) h0 n0 Z0 HQ.null E_ac G_ac F_ac_key F_ac_level F_ac_left F_ac_right F_ac_height F_ac_quantity E_lc G_lc F_lc_quantity E_lv G_lv F_lv_quantity ne_ac_lc ne_ac_lv ne_lc_lv (fun q => by cases q) (fun q => by cases q) (fun q => by cases q) hk2 (by decide) (by decide)) X2 hx hZ (W := 1) hown (own_g hw 33 rfl) (own_g hw 34 rfl) (own_g hw 16 rfl) (own_g hw 35 rfl) (by decide) (by decide) (by decide) (by decide) (by decide) e2 (g := (mkF m 46 #[oR a, oJ key, oS, oR lv] [(.ref lv), (.long key), (.ref ac), (.ref a)])) rfl (by rw [hml]; rfl) (argsL := [(.ref ac), (.long key), (.ref lv)]) (rest := [(.ref a)]) rfl (lenOf own_pd_6 rfl) rfl (by show 2 * 0 + _ ≤ _; exact Nat.le_of_eq rfl) (hb hby own_d6_46)
  obtain ⟨H3, e3⟩ : ∃ z, T3.heap = z := ⟨_, rfl⟩
  rw [e3] at Q3
  obtain ⟨d3, rfl, Nq3, Kq3, Fp3_0, Fp3_1, Fp3_2, Fp3_3, Fp3_4, Fp3_5, Fp3_6, Fp3_7, Fp3_8, Fp3_9, Fp3_10, Fp3_11, Fp3_12, Fp3_13⟩ := Q3
  have N3 := Fr.app N0 Nq3
  have nad3 : a ≠ d3 := Nat.ne_of_lt (Nat.lt_of_lt_of_le E_a.lt Fp3_6)
  have nacd3 : ac ≠ d3 := Nat.ne_of_lt (Nat.lt_of_lt_of_le E_ac.lt Fp3_6)
  have nlad3 : la ≠ d3 := Nat.ne_of_lt (Nat.lt_of_lt_of_le E_la.lt Fp3_6)
  have nlcd3 : lc ≠ d3 := Nat.ne_of_lt (Nat.lt_of_lt_of_le E_lc.lt Fp3_6)
  have nlvd3 : lv ≠ d3 := Nat.ne_of_lt (Nat.lt_of_lt_of_le E_lv.lt Fp3_6)
  have G_d3 : n0 ≤ d3 := Nat.le_trans Z0 Fp3_6
  have SZ_d3 : h0.size ≤ d3 := Nat.le_trans (Keep.refl h0 [a, ac]).1 Fp3_6
  have Zs3 := Nat.le_trans Z0 Kq3.1
  have f4 := Exa.keep E_a Kq3
  have f5 := Fld.keep F_a_key Kq3 (ninS ne_a_ac nin0)
  have f6 := Fld.keep F_a_level Kq3 (ninS ne_a_ac nin0)
  have f7 := Fld.keep F_a_left Kq3 (ninS ne_a_ac nin0)
  have f8 := Fld.keep F_a_right Kq3 (ninS ne_a_ac nin0)
  have f9 := Fld.keep F_a_height Kq3 (ninS ne_a_ac nin0)
  have f10 := Fld.keep F_a_quantity Kq3 (ninS ne_a_ac nin0)
  have f11 := Exa.keep E_ac Kq3
  have f18 := Exa.keep E_la Kq3
  have f19 := Fld.keep F_la_quantity Kq3 (ninS (Ne.symm ne_ac_la) nin0)
  have f20 := Exa.keep E_lc Kq3
  have f21 := Fld.keep F_lc_quantity Kq3 (ninS (Ne.symm ne_ac_lc) nin0)
  have f22 := Exa.keep E_lv Kq3
  have f23 := Fld.keep F_lv_quantity Kq3 (ninS (Ne.symm ne_ac_lv) nin0)
  have K3 := (Keep.refl h0 [a, ac]).trans Kq3 (allS (Or.inl (List.mem_of_getElem? (i := 1) rfl)) all0)
  rw [show ((own_f11 (0 : Int32) (1 : Int32)) + (1 : Int32)) = (2 : Int32) from by decide] at Fp3_0
  refine Go.s (fun {t} => st3) ?_
  show Go p.tables e below P (T3.setTop (mkF m 49 #[oR a, oJ key, oS, oR lv] [(.ref ac), (.ref a)]))
  obtain ⟨T24, H24, X24, e24, W24, st24⟩ := putF X3 hx hZ hown (host := "") (Or.inl (own_g hw 58 rfl)) Via.refl e3 f8 f4 (Or.inl (own_g hw 59 rfl)) (own_g hw 37 rfl) (ty := (.object oN)) (by decide) rfl rfl (g := (mkF m 49 #[oR a, oJ key, oS, oR lv] [(.ref ac), (.ref a)])) rfl rfl (hb hby own_d6_49)
  refine Go.s (fun {t} => st24 t) ?_
  have Fw24 := Fld.same W24 f8
  have f25 := Exa.wr W24 f4
  have f26 := Fld.other W24 f5 (Or.inr (slot_ne (Or.inr (own_g hw 46 rfl)) (Or.inl (own_g hw 59 rfl)) (by decide) (t := .long) (t' := (.object oN)) (by decide) (by decide)))
  have f27 := Fld.other W24 f6 (Or.inr (slot_ne (Or.inr (own_g hw 48 rfl)) (Or.inl (own_g hw 59 rfl)) (by decide) (t := (.object oL)) (t' := (.object oN)) (by decide) (by decide)))
  have f28 := Fld.other W24 f7 (Or.inr (slot_ne (Or.inl (own_g hw 57 rfl)) (Or.inl (own_g hw 59 rfl)) (by decide) (t := (.object oN)) (t' := (.object oN)) (by decide) (by decide)))
  have f30 := Fld.other W24 f9 (Or.inr (slot_ne (Or.inl (own_g hw 44 rfl)) (Or.inl (own_g hw 59 rfl)) (by decide) (t := .int) (t' := (.object oN)) (by decide) (by decide)))
  have f31 := Fld.other W24 f10 (Or.inr (slot_ne (Or.inl (own_g hw 52 rfl)) (Or.inl (own_g hw 59 rfl)) (by decide) (t := .long) (t' := (.object oN)) (by decide) (by decide)))
  have f32 := Exa.wr W24 f11
  have f33 := Exa.wr W24 f18
  have f34 := Fld.other W24 f19 (Or.inl (Ne.symm ne_a_la))
  have f35 := Exa.wr W24 f20
  have f36 := Fld.other W24 f21 (Or.inl (Ne.symm ne_a_lc))
  have f37 := Exa.wr W24 f22
  have f38 := Fld.other W24 f23 (Or.inl (Ne.symm ne_a_lv))
  have f39 := Fld.other W24 Fp3_0 (Or.inl (Ne.symm ne_a_ac))
  have f40 := Fld.other W24 Fp3_1 (Or.inl (Ne.symm ne_a_ac))
  have f41 := Fld.other W24 Fp3_2 (Or.inl (Ne.symm ne_a_ac))
  have f42 := Fld.other W24 Fp3_3 (Or.inl (Ne.symm ne_a_ac))
  have f43 := Fld.other W24 Fp3_4 (Or.inl (Ne.symm ne_a_ac))
  have f44 := Fld.other W24 Fp3_5 (Or.inl (Ne.symm ne_a_ac))
  have f45 := Exa.wr W24 Fp3_7
  have f46 := Fld.other W24 Fp3_8 (Or.inl (Ne.symm nad3))
  have f47 := Fld.other W24 Fp3_9 (Or.inl (Ne.symm nad3))
  have f48 := Fld.other W24 Fp3_10 (Or.inl (Ne.symm nad3))
  have f49 := Fld.other W24 Fp3_11 (Or.inl (Ne.symm nad3))
  have f50 := Fld.other W24 Fp3_12 (Or.inl (Ne.symm nad3))
  have f51 := Fld.other W24 Fp3_13 (Or.inl (Ne.symm nad3))
  have N24 := Fr.snoc X24 N3 G_a
  have Zs24 := Nat.le_trans Zs3 (Keep.of_wr W24).1
  have K24 : Keep h0 H24 [a, ac] := K3.wr W24 (Or.inl (List.mem_of_getElem? (i := 0) rfl))
  refine Go.s (fun kz => XS.aloadN X24.here hx rfl (hb hby own_d6_52) rfl rfl kz) ?_
  show Go p.tables e below P (T24.setTop (mkF m 53 #[oR a, oJ key, oS, oR lv] [(.ref a)]))
  obtain ⟨v52, T52, L52, X52, Q52, st52⟩ := Con.static (own_rmbrr l Z a0 hw [] a ka la .null ac ta qa kc lc .null (.ref d3) (2 : Int32) (((0 : Int64) + wc) + wv) wa wc (0 : Int32) (0 : Int64) (0 : Int32) (0 : Int64) (1 : Int32) wv H24 n0 Zs24 HQ.null HQ.null (Or.inr ⟨d3, rfl, f46, f50⟩) f25 G_a f26 f27 f28 Fw24 f30 f31 f32 G_ac f40 f42 f41 f44 f39 f43 f33 G_la f34 f35 G_lc f36 ne_a_ac ne_a_la ne_a_lc ne_ac_la ne_ac_lc ne_la_lc (fun q => by cases q) (fun q => by cases q) (fun q => by cases q) (fun q => by cases q) (fun q => by cases q) (fun q => by cases q) (fun q => by cases q) (fun q => by cases q) (fun q => (Ne.symm nad3) (Value.ref.inj q)) (fun q => (Ne.symm nacd3) (Value.ref.inj q)) (fun q => (Ne.symm nlad3) (Value.ref.inj q)) (fun q => (Ne.symm nlcd3) (Value.ref.inj q)) (by decide) (by decide) (by decide)) X24 hx hZ (W := 0) hown (own_g hw 60 rfl) (own_g hw 61 rfl) (own_g hw 16 rfl) (own_g hw 62 rfl) (by decide) (by decide) (by decide) (by decide) (by decide) e24 (g := (mkF m 53 #[oR a, oJ key, oS, oR lv] [(.ref a)])) rfl (by rw [hml]; rfl) (argsL := [(.ref a)]) (rest := []) rfl (lenOf own_pd_4 rfl) rfl (by show 2 * 0 + _ ≤ _; exact Nat.le_of_eq rfl) (hb hby own_d6_53)
  obtain ⟨H52, e52⟩ : ∃ z, T52.heap = z := ⟨_, rfl⟩
  rw [e52] at Q52
  obtain ⟨rfl, Nq52, Kq52, Fp52_0, Fp52_1, Fp52_2, Fp52_3, Fp52_4, Fp52_5, Fp52_6, Fp52_7, Fp52_8, Fp52_9, Fp52_10, Fp52_11⟩ := Q52
  have N52 := Fr.app N24 Nq52
  have Zs52 := Nat.le_trans Zs24 Kq52.1
  have f53 := Exa.keep f25 Kq52
  have f59 := Exa.keep f32 Kq52
  have f60 := Exa.keep f33 Kq52
  have f61 := Fld.keep f34 Kq52 (ninS (Ne.symm ne_a_la) (ninS (Ne.symm ne_ac_la) nin0))
  have f62 := Exa.keep f35 Kq52
  have f63 := Fld.keep f36 Kq52 (ninS (Ne.symm ne_a_lc) (ninS (Ne.symm ne_ac_lc) nin0))
  have f64 := Exa.keep f37 Kq52
  have f65 := Fld.keep f38 Kq52 (ninS (Ne.symm ne_a_lv) (ninS (Ne.symm ne_ac_lv) nin0))
  have f72 := Exa.keep f45 Kq52
  have f73 := Fld.keep f46 Kq52 (ninS (Ne.symm nad3) (ninS (Ne.symm nacd3) nin0))
  have f74 := Fld.keep f47 Kq52 (ninS (Ne.symm nad3) (ninS (Ne.symm nacd3) nin0))
  have f75 := Fld.keep f48 Kq52 (ninS (Ne.symm nad3) (ninS (Ne.symm nacd3) nin0))
  have f76 := Fld.keep f49 Kq52 (ninS (Ne.symm nad3) (ninS (Ne.symm nacd3) nin0))
  have f77 := Fld.keep f50 Kq52 (ninS (Ne.symm nad3) (ninS (Ne.symm nacd3) nin0))
  have f78 := Fld.keep f51 Kq52 (ninS (Ne.symm nad3) (ninS (Ne.symm nacd3) nin0))
  have K52 := K24.trans Kq52 (allS (Or.inl (List.mem_of_getElem? (i := 0) rfl)) (allS (Or.inl (List.mem_of_getElem? (i := 1) rfl)) all0))
  rw [show ((own_f11 (0 : Int32) (0 : Int32)) + (1 : Int32)) = (1 : Int32) from by decide] at Fp52_0
  refine Go.s (fun {t} => st52) ?_
  show Go p.tables e below P (T52.setTop (mkF m 56 #[oR a, oJ key, oS, oR lv] [(.ref ac)]))
  exact Go.retR X52 hx hlk hret rfl rfl (hb hby own_d6_56) (fun U hU hF => hP U _ _ (by rw [hU, e52]; exact ⟨d3, rfl, N52, K52, Fp52_0, Fp52_1, Fp52_2, Fp52_3, Fp52_4, Fp52_5, Fp52_6, Fp52_7, Fp52_8, Fp52_9, Fp52_10, Fp52_11, SZ_d3, f72, f73, f74, f75, f76, f77, f78⟩) ⟨hF.1, hF.2.1, hF.2.2.mono (by decide) (by decide)⟩)
theorem own_efprz (m : MethodId) (a : Addr) (key : Int64) (lv : Addr) : entryFrame m #[(.ref a), (.long key), (.ref lv)] 4 = mkF m 0 #[oR a, oJ key, oS, oR lv] [] := by
  (first | (simp [entryFrame, mkF, argsToLocals, Value.category]; done) | rfl)
set_option maxRecDepth 65536 in
set_option maxHeartbeats 40000000 in
theorem own_rmprz (l : Launch) (Z : State) (a0 : Array Value) (hw : ∀ d ∈ tables_1, d.before a0 Z = true) (ws : List Jvm.Cond) (a : Nat) (key : Int64) (lv : Nat) (ka : Int64) (la : Nat) (ac : Nat) (ta : Int32) (qa : Int64) (kc : Int64) (lc : Nat) (qc : Int64) (wa : Int64) (wc : Int64) (wv : Int64) (h0 : Heap) (n0 : Nat) (Z0 : n0 ≤ h0.size) (E_a : Exa Z h0 a oN) (G_a : n0 ≤ a) (F_a_key : Fld Z h0 a oN "key" "J" (.long ka)) (F_a_level : Fld Z h0 a oN "level" oLd (.ref la)) (F_a_left : Fld Z h0 a oN "left" oNd .null) (F_a_right : Fld Z h0 a oN "right" oNd (.ref ac)) (F_a_height : Fld Z h0 a oN "height" "I" (.int ta)) (F_a_quantity : Fld Z h0 a oN "quantity" "J" (.long qa)) (E_ac : Exa Z h0 ac oN) (G_ac : n0 ≤ ac) (F_ac_key : Fld Z h0 ac oN "key" "J" (.long kc)) (F_ac_level : Fld Z h0 ac oN "level" oLd (.ref lc)) (F_ac_left : Fld Z h0 ac oN "left" oNd .null) (F_ac_right : Fld Z h0 ac oN "right" oNd .null) (F_ac_height : Fld Z h0 ac oN "height" "I" (.int (1 : Int32))) (F_ac_quantity : Fld Z h0 ac oN "quantity" "J" (.long qc)) (E_la : Exa Z h0 la oL) (G_la : n0 ≤ la) (F_la_quantity : Fld Z h0 la oL "quantity" "J" (.long wa)) (E_lc : Exa Z h0 lc oL) (G_lc : n0 ≤ lc) (F_lc_quantity : Fld Z h0 lc oL "quantity" "J" (.long wc)) (E_lv : Exa Z h0 lv oL) (G_lv : n0 ≤ lv) (F_lv_quantity : Fld Z h0 lv oL "quantity" "J" (.long wv)) (ne_a_ac : a ≠ ac) (ne_a_la : a ≠ la) (ne_a_lc : a ≠ lc) (ne_a_lv : a ≠ lv) (ne_ac_la : ac ≠ la) (ne_ac_lc : ac ≠ lc) (ne_ac_lv : ac ≠ lv) (ne_la_lc : la ≠ lc) (ne_la_lv : la ≠ lv) (ne_lc_lv : lc ≠ lv) (hk : ¬ key < ka) (hk2 : key < kc) :
    Con l Z (⟨oT, "put", "(Lcom/example/rotunda/rotunda/LevelTree$Node;JLcom/example/rotunda/rotunda/BookSide$Level;)Lcom/example/rotunda/rotunda/LevelTree$Node;"⟩ : MethodName) prog_29_method_11_code 4 (some (.object oN)) ws ({ frames := 4, cells := 1, slots := 6, locals := 60 } : Room) #[(.ref a), (.long key), (.ref lv)] h0 (fun v h L => ∃ d3 : Nat, v = some (.ref d3) ∧ Fr n0 L ∧ Keep h0 h [a, ac] ∧ Fld Z h a oN "height" "I" (.int (1 : Int32)) ∧ Fld Z h a oN "key" "J" (.long ka) ∧ Fld Z h a oN "left" oNd .null ∧ Fld Z h a oN "level" oLd (.ref la) ∧ Fld Z h a oN "quantity" "J" (.long (((0 : Int64) + wa) + (0 : Int64))) ∧ Fld Z h a oN "right" oNd .null ∧ Fld Z h ac oN "height" "I" (.int (1 : Int32)) ∧ Fld Z h ac oN "key" "J" (.long kc) ∧ Fld Z h ac oN "left" oNd .null ∧ Fld Z h ac oN "level" oLd (.ref lc) ∧ Fld Z h ac oN "quantity" "J" (.long (((0 : Int64) + wc) + (0 : Int64))) ∧ Fld Z h ac oN "right" oNd .null ∧ h0.size ≤ d3 ∧ Exa Z h d3 oN ∧ Fld Z h d3 oN "height" "I" (.int ((own_f11 ((own_f11 (0 : Int32) (0 : Int32)) + (1 : Int32)) ((own_f11 (0 : Int32) (0 : Int32)) + (1 : Int32))) + (1 : Int32))) ∧ Fld Z h d3 oN "key" "J" (.long key) ∧ Fld Z h d3 oN "left" oNd (.ref a) ∧ Fld Z h d3 oN "level" oLd (.ref lv) ∧ Fld Z h d3 oN "quantity" "J" (.long (((((0 : Int64) + wa) + (0 : Int64)) + wv) + (((0 : Int64) + wc) + (0 : Int64)))) ∧ Fld Z h d3 oN "right" oNd (.ref ac)) := by
  refine Con.intro (plainFor_of_name own_pn_0) ?_
  intro p e s m below meth c s₁ P hx hby hml hown hnm hret hlk hZ X0 e0 hP
  have N0 := Fr.nil n0
  have hown : s.vm.findClass oT = some m.cls := hown
  refine Go.cast (own_efprz m a key lv) ?_
  show Go p.tables e below P (s₁.setTop (mkF m 0 #[oR a, oJ key, oS, oR lv] []))
  refine Go.s (fun kz => XS.aloadN X0.here hx rfl (hb hby own_d6_0) rfl rfl kz) ?_
  show Go p.tables e below P (s₁.setTop (mkF m 1 #[oR a, oJ key, oS, oR lv] [(.ref a)]))
  refine Go.s (fun kz => XT.ifnonnullYes X0.here hx rfl (pc0 := 1) (pc' := 14) rfl (hb hby own_d6_1) rfl (by decide) (by decide) kz) ?_
  show Go p.tables e below P (s₁.setTop (mkF m 14 #[oR a, oJ key, oS, oR lv] []))
  refine Go.s (fun kz => XT.lloadN X0.here hx rfl (hb hby own_d6_14) rfl kz) ?_
  refine Go.s (fun kz => XS.aloadN X0.here hx rfl (hb hby own_d6_15) rfl rfl kz) ?_
  show Go p.tables e below P (s₁.setTop (mkF m 16 #[oR a, oJ key, oS, oR lv] [(.ref a), (.long key)]))
  obtain ⟨T1, X1, e1, st1⟩ := getF X0 hx hZ hown (host := "") (Or.inl (own_g hw 55 rfl)) Via.refl e0 F_a_key (g := (mkF m 16 #[oR a, oJ key, oS, oR lv] [(.ref a), (.long key)])) rfl rfl (hb hby own_d6_16)
  refine Go.s (fun {t} => st1 t) ?_
  refine Go.s (fun kz => XT.lcmp X1.here hx rfl (hb hby own_d6_19) rfl kz) ?_
  show Go p.tables e below P (T1.setTop (mkF m 20 #[oR a, oJ key, oS, oR lv] [(.int (XT.cmpL key ka))]))
  refine Go.s (fun kz => XS.ifYes X1.here hx rfl (pc0 := 20) (pc' := 39) rfl (hb hby own_d6_20) rfl (XT.ll_ge_t hk) (by decide) (by decide) kz) ?_
  show Go p.tables e below P (T1.setTop (mkF m 39 #[oR a, oJ key, oS, oR lv] []))
  refine Go.s (fun kz => XS.aloadN X1.here hx rfl (hb hby own_d6_39) rfl rfl kz) ?_
  refine Go.s (fun kz => XS.aloadN X1.here hx rfl (hb hby own_d6_40) rfl rfl kz) ?_
  show Go p.tables e below P (T1.setTop (mkF m 41 #[oR a, oJ key, oS, oR lv] [(.ref a), (.ref a)]))
  obtain ⟨T2, X2, e2, st2⟩ := getF X1 hx hZ hown (host := "") (Or.inl (own_g hw 58 rfl)) Via.refl e1 F_a_right (g := (mkF m 41 #[oR a, oJ key, oS, oR lv] [(.ref a), (.ref a)])) rfl rfl (hb hby own_d6_41)
  refine Go.s (fun {t} => st2 t) ?_
  refine Go.s (fun kz => XT.lloadN X2.here hx rfl (hb hby own_d6_44) rfl kz) ?_
  refine Go.s (fun kz => XS.aloadN X2.here hx rfl (hb hby own_d6_45) rfl rfl kz) ?_
  show Go p.tables e below P (T2.setTop (mkF m 46 #[oR a, oJ key, oS, oR lv] [(.ref lv), (.long key), (.ref ac), (.ref a)]))
  obtain ⟨v3, T3, L3, X3, Q3, st3⟩ := Con.static (own_rmpl l Z a0 hw [] ac key lv kc lc .null (1 : Int32) qc wc wv (0 : Int32) (0 : Int64) h0 n0 Z0 HQ.null E_ac G_ac F_ac_key F_ac_level F_ac_left F_ac_right F_ac_height F_ac_quantity E_lc G_lc F_lc_quantity E_lv G_lv F_lv_quantity ne_ac_lc ne_ac_lv ne_lc_lv (fun q => by cases q) (fun q => by cases q) (fun q => by cases q) hk2 (by decide) (by decide)) X2 hx hZ (W := 1) hown (own_g hw 33 rfl) (own_g hw 34 rfl) (own_g hw 16 rfl) (own_g hw 35 rfl) (by decide) (by decide) (by decide) (by decide) (by decide) e2 (g := (mkF m 46 #[oR a, oJ key, oS, oR lv] [(.ref lv), (.long key), (.ref ac), (.ref a)])) rfl (by rw [hml]; rfl) (argsL := [(.ref ac), (.long key), (.ref lv)]) (rest := [(.ref a)]) rfl (lenOf own_pd_6 rfl) rfl (by show 2 * 0 + _ ≤ _; exact Nat.le_of_eq rfl) (hb hby own_d6_46)
  obtain ⟨H3, e3⟩ : ∃ z, T3.heap = z := ⟨_, rfl⟩
  rw [e3] at Q3
  obtain ⟨d3, rfl, Nq3, Kq3, Fp3_0, Fp3_1, Fp3_2, Fp3_3, Fp3_4, Fp3_5, Fp3_6, Fp3_7, Fp3_8, Fp3_9, Fp3_10, Fp3_11, Fp3_12, Fp3_13⟩ := Q3
  have N3 := Fr.app N0 Nq3
  have nad3 : a ≠ d3 := Nat.ne_of_lt (Nat.lt_of_lt_of_le E_a.lt Fp3_6)
  have nacd3 : ac ≠ d3 := Nat.ne_of_lt (Nat.lt_of_lt_of_le E_ac.lt Fp3_6)
  have nlad3 : la ≠ d3 := Nat.ne_of_lt (Nat.lt_of_lt_of_le E_la.lt Fp3_6)
  have nlcd3 : lc ≠ d3 := Nat.ne_of_lt (Nat.lt_of_lt_of_le E_lc.lt Fp3_6)
  have nlvd3 : lv ≠ d3 := Nat.ne_of_lt (Nat.lt_of_lt_of_le E_lv.lt Fp3_6)
  have G_d3 : n0 ≤ d3 := Nat.le_trans Z0 Fp3_6
  have SZ_d3 : h0.size ≤ d3 := Nat.le_trans (Keep.refl h0 [a, ac]).1 Fp3_6
  have Zs3 := Nat.le_trans Z0 Kq3.1
  have f4 := Exa.keep E_a Kq3
  have f5 := Fld.keep F_a_key Kq3 (ninS ne_a_ac nin0)
  have f6 := Fld.keep F_a_level Kq3 (ninS ne_a_ac nin0)
  have f7 := Fld.keep F_a_left Kq3 (ninS ne_a_ac nin0)
  have f8 := Fld.keep F_a_right Kq3 (ninS ne_a_ac nin0)
  have f9 := Fld.keep F_a_height Kq3 (ninS ne_a_ac nin0)
  have f10 := Fld.keep F_a_quantity Kq3 (ninS ne_a_ac nin0)
  have f11 := Exa.keep E_ac Kq3
  have f18 := Exa.keep E_la Kq3
  have f19 := Fld.keep F_la_quantity Kq3 (ninS (Ne.symm ne_ac_la) nin0)
  have f20 := Exa.keep E_lc Kq3
  have f21 := Fld.keep F_lc_quantity Kq3 (ninS (Ne.symm ne_ac_lc) nin0)
  have f22 := Exa.keep E_lv Kq3
  have f23 := Fld.keep F_lv_quantity Kq3 (ninS (Ne.symm ne_ac_lv) nin0)
  have K3 := (Keep.refl h0 [a, ac]).trans Kq3 (allS (Or.inl (List.mem_of_getElem? (i := 1) rfl)) all0)
  rw [show ((own_f11 (1 : Int32) (0 : Int32)) + (1 : Int32)) = (2 : Int32) from by decide] at Fp3_0
  refine Go.s (fun {t} => st3) ?_
  show Go p.tables e below P (T3.setTop (mkF m 49 #[oR a, oJ key, oS, oR lv] [(.ref ac), (.ref a)]))
  obtain ⟨T24, H24, X24, e24, W24, st24⟩ := putF X3 hx hZ hown (host := "") (Or.inl (own_g hw 58 rfl)) Via.refl e3 f8 f4 (Or.inl (own_g hw 59 rfl)) (own_g hw 37 rfl) (ty := (.object oN)) (by decide) rfl rfl (g := (mkF m 49 #[oR a, oJ key, oS, oR lv] [(.ref ac), (.ref a)])) rfl rfl (hb hby own_d6_49)
  refine Go.s (fun {t} => st24 t) ?_
  have Fw24 := Fld.same W24 f8
  have f25 := Exa.wr W24 f4
  have f26 := Fld.other W24 f5 (Or.inr (slot_ne (Or.inr (own_g hw 46 rfl)) (Or.inl (own_g hw 59 rfl)) (by decide) (t := .long) (t' := (.object oN)) (by decide) (by decide)))
  have f27 := Fld.other W24 f6 (Or.inr (slot_ne (Or.inr (own_g hw 48 rfl)) (Or.inl (own_g hw 59 rfl)) (by decide) (t := (.object oL)) (t' := (.object oN)) (by decide) (by decide)))
  have f28 := Fld.other W24 f7 (Or.inr (slot_ne (Or.inl (own_g hw 57 rfl)) (Or.inl (own_g hw 59 rfl)) (by decide) (t := (.object oN)) (t' := (.object oN)) (by decide) (by decide)))
  have f30 := Fld.other W24 f9 (Or.inr (slot_ne (Or.inl (own_g hw 44 rfl)) (Or.inl (own_g hw 59 rfl)) (by decide) (t := .int) (t' := (.object oN)) (by decide) (by decide)))
  have f31 := Fld.other W24 f10 (Or.inr (slot_ne (Or.inl (own_g hw 52 rfl)) (Or.inl (own_g hw 59 rfl)) (by decide) (t := .long) (t' := (.object oN)) (by decide) (by decide)))
  have f32 := Exa.wr W24 f11
  have f33 := Exa.wr W24 f18
  have f34 := Fld.other W24 f19 (Or.inl (Ne.symm ne_a_la))
  have f35 := Exa.wr W24 f20
  have f36 := Fld.other W24 f21 (Or.inl (Ne.symm ne_a_lc))
  have f37 := Exa.wr W24 f22
  have f38 := Fld.other W24 f23 (Or.inl (Ne.symm ne_a_lv))
  have f39 := Fld.other W24 Fp3_0 (Or.inl (Ne.symm ne_a_ac))
  have f40 := Fld.other W24 Fp3_1 (Or.inl (Ne.symm ne_a_ac))
  have f41 := Fld.other W24 Fp3_2 (Or.inl (Ne.symm ne_a_ac))
  have f42 := Fld.other W24 Fp3_3 (Or.inl (Ne.symm ne_a_ac))
  have f43 := Fld.other W24 Fp3_4 (Or.inl (Ne.symm ne_a_ac))
  have f44 := Fld.other W24 Fp3_5 (Or.inl (Ne.symm ne_a_ac))
  have f45 := Exa.wr W24 Fp3_7
  have f46 := Fld.other W24 Fp3_8 (Or.inl (Ne.symm nad3))
  have f47 := Fld.other W24 Fp3_9 (Or.inl (Ne.symm nad3))
  have f48 := Fld.other W24 Fp3_10 (Or.inl (Ne.symm nad3))
  have f49 := Fld.other W24 Fp3_11 (Or.inl (Ne.symm nad3))
  have f50 := Fld.other W24 Fp3_12 (Or.inl (Ne.symm nad3))
  have f51 := Fld.other W24 Fp3_13 (Or.inl (Ne.symm nad3))
  have N24 := Fr.snoc X24 N3 G_a
  have Zs24 := Nat.le_trans Zs3 (Keep.of_wr W24).1
  have K24 : Keep h0 H24 [a, ac] := K3.wr W24 (Or.inl (List.mem_of_getElem? (i := 0) rfl))
  refine Go.s (fun kz => XS.aloadN X24.here hx rfl (hb hby own_d6_52) rfl rfl kz) ?_
  show Go p.tables e below P (T24.setTop (mkF m 53 #[oR a, oJ key, oS, oR lv] [(.ref a)]))
  obtain ⟨v52, T52, L52, X52, Q52, st52⟩ := Con.static (own_rmbrl l Z a0 hw [] a ka la .null ac ta qa kc lc d3 .null (2 : Int32) ((wv + wc) + (0 : Int64)) key lv .null .null (1 : Int32) wv wa wc wv (0 : Int32) (0 : Int64) (0 : Int32) (0 : Int64) (0 : Int32) (0 : Int64) (0 : Int32) (0 : Int64) H24 n0 Zs24 HQ.null HQ.null HQ.null HQ.null f25 G_a f26 f27 f28 Fw24 f30 f31 f32 G_ac f40 f42 f41 f44 f39 f43 f45 G_d3 f47 f49 f48 f51 f46 f50 f33 G_la f34 f35 G_lc f36 f37 G_lv f38 ne_a_ac nad3 ne_a_la ne_a_lc ne_a_lv nacd3 ne_ac_la ne_ac_lc ne_ac_lv (Ne.symm nlad3) (Ne.symm nlcd3) (Ne.symm nlvd3) ne_la_lc ne_la_lv ne_lc_lv (fun q => by cases q) (fun q => by cases q) (fun q => by cases q) (fun q => by cases q) (fun q => by cases q) (fun q => by cases q) (fun q => by cases q) (fun q => by cases q) (fun q => by cases q) (fun q => by cases q) (fun q => by cases q) (fun q => by cases q) (fun q => by cases q) (fun q => by cases q) (fun q => by cases q) (fun q => by cases q) (fun q => by cases q) (fun q => by cases q) (fun q => by cases q) (fun q => by cases q) (fun q => by cases q) (fun q => by cases q) (fun q => by cases q) (fun q => by cases q) (by decide) (by decide) (by decide)) X24 hx hZ (W := 0) hown (own_g hw 60 rfl) (own_g hw 61 rfl) (own_g hw 16 rfl) (own_g hw 62 rfl) (by decide) (by decide) (by decide) (by decide) (by decide) e24 (g := (mkF m 53 #[oR a, oJ key, oS, oR lv] [(.ref a)])) rfl (by rw [hml]; rfl) (argsL := [(.ref a)]) (rest := []) rfl (lenOf own_pd_4 rfl) rfl (by show 2 * 0 + _ ≤ _; exact Nat.le_of_eq rfl) (hb hby own_d6_53)
  obtain ⟨H52, e52⟩ : ∃ z, T52.heap = z := ⟨_, rfl⟩
  rw [e52] at Q52
  obtain ⟨rfl, Nq52, Kq52, Fp52_0, Fp52_1, Fp52_2, Fp52_3, Fp52_4, Fp52_5, Fp52_6, Fp52_7, Fp52_8, Fp52_9, Fp52_10, Fp52_11, Fp52_12, Fp52_13, Fp52_14, Fp52_15, Fp52_16, Fp52_17⟩ := Q52
  have N52 := Fr.app N24 Nq52
  have Zs52 := Nat.le_trans Zs24 Kq52.1
  have f53 := Exa.keep f25 Kq52
  have f59 := Exa.keep f32 Kq52
  have f60 := Exa.keep f33 Kq52
  have f61 := Fld.keep f34 Kq52 (ninS (Ne.symm ne_a_la) (ninS (Ne.symm ne_ac_la) (ninS nlad3 nin0)))
  have f62 := Exa.keep f35 Kq52
  have f63 := Fld.keep f36 Kq52 (ninS (Ne.symm ne_a_lc) (ninS (Ne.symm ne_ac_lc) (ninS nlcd3 nin0)))
  have f64 := Exa.keep f37 Kq52
  have f65 := Fld.keep f38 Kq52 (ninS (Ne.symm ne_a_lv) (ninS (Ne.symm ne_ac_lv) (ninS nlvd3 nin0)))
  have f72 := Exa.keep f45 Kq52
  have K52 := K24.trans Kq52 (allS (Or.inl (List.mem_of_getElem? (i := 0) rfl)) (allS (Or.inl (List.mem_of_getElem? (i := 1) rfl)) (allS (Or.inr SZ_d3) all0)))
  rw [show ((own_f11 (0 : Int32) (0 : Int32)) + (1 : Int32)) = (1 : Int32) from by decide] at Fp52_0
  rw [show ((own_f11 (0 : Int32) (0 : Int32)) + (1 : Int32)) = (1 : Int32) from by decide] at Fp52_6
  refine Go.s (fun {t} => st52) ?_
  show Go p.tables e below P (T52.setTop (mkF m 56 #[oR a, oJ key, oS, oR lv] [(.ref d3)]))
  exact Go.retR X52 hx hlk hret rfl rfl (hb hby own_d6_56) (fun U hU hF => hP U _ _ (by rw [hU, e52]; exact ⟨d3, rfl, N52, K52, Fp52_0, Fp52_1, Fp52_2, Fp52_3, Fp52_4, Fp52_5, Fp52_6, Fp52_7, Fp52_8, Fp52_9, Fp52_10, Fp52_11, SZ_d3, f72, Fp52_12, Fp52_13, Fp52_14, Fp52_15, Fp52_16, Fp52_17⟩) ⟨hF.1, hF.2.1, hF.2.2.mono (by decide) (by decide)⟩)
theorem own_efplo (m : MethodId) (a : Addr) (key : Int64) (lv : Addr) : entryFrame m #[(.ref a), (.long key), (.ref lv)] 4 = mkF m 0 #[oR a, oJ key, oS, oR lv] [] := by
  (first | (simp [entryFrame, mkF, argsToLocals, Value.category]; done) | rfl)
set_option maxRecDepth 65536 in
set_option maxHeartbeats 40000000 in
theorem own_rmplo (l : Launch) (Z : State) (a0 : Array Value) (hw : ∀ d ∈ tables_1, d.before a0 Z = true) (ws : List Jvm.Cond) (a : Nat) (key : Int64) (lv : Nat) (ka : Int64) (la : Nat) (ac : Nat) (ta : Int32) (qa : Int64) (kc : Int64) (lc : Nat) (qc : Int64) (wa : Int64) (wc : Int64) (wv : Int64) (h0 : Heap) (n0 : Nat) (Z0 : n0 ≤ h0.size) (E_a : Exa Z h0 a oN) (G_a : n0 ≤ a) (F_a_key : Fld Z h0 a oN "key" "J" (.long ka)) (F_a_level : Fld Z h0 a oN "level" oLd (.ref la)) (F_a_left : Fld Z h0 a oN "left" oNd (.ref ac)) (F_a_right : Fld Z h0 a oN "right" oNd .null) (F_a_height : Fld Z h0 a oN "height" "I" (.int ta)) (F_a_quantity : Fld Z h0 a oN "quantity" "J" (.long qa)) (E_ac : Exa Z h0 ac oN) (G_ac : n0 ≤ ac) (F_ac_key : Fld Z h0 ac oN "key" "J" (.long kc)) (F_ac_level : Fld Z h0 ac oN "level" oLd (.ref lc)) (F_ac_left : Fld Z h0 ac oN "left" oNd .null) (F_ac_right : Fld Z h0 ac oN "right" oNd .null) (F_ac_height : Fld Z h0 ac oN "height" "I" (.int (1 : Int32))) (F_ac_quantity : Fld Z h0 ac oN "quantity" "J" (.long qc)) (E_la : Exa Z h0 la oL) (G_la : n0 ≤ la) (F_la_quantity : Fld Z h0 la oL "quantity" "J" (.long wa)) (E_lc : Exa Z h0 lc oL) (G_lc : n0 ≤ lc) (F_lc_quantity : Fld Z h0 lc oL "quantity" "J" (.long wc)) (E_lv : Exa Z h0 lv oL) (G_lv : n0 ≤ lv) (F_lv_quantity : Fld Z h0 lv oL "quantity" "J" (.long wv)) (ne_a_ac : a ≠ ac) (ne_a_la : a ≠ la) (ne_a_lc : a ≠ lc) (ne_a_lv : a ≠ lv) (ne_ac_la : ac ≠ la) (ne_ac_lc : ac ≠ lc) (ne_ac_lv : ac ≠ lv) (ne_la_lc : la ≠ lc) (ne_la_lv : la ≠ lv) (ne_lc_lv : lc ≠ lv) (hk : key < ka) (hk2 : key < kc) :
    Con l Z (⟨oT, "put", "(Lcom/example/rotunda/rotunda/LevelTree$Node;JLcom/example/rotunda/rotunda/BookSide$Level;)Lcom/example/rotunda/rotunda/LevelTree$Node;"⟩ : MethodName) prog_29_method_11_code 4 (some (.object oN)) ws ({ frames := 4, cells := 1, slots := 6, locals := 60 } : Room) #[(.ref a), (.long key), (.ref lv)] h0 (fun v h L => ∃ d3 : Nat, v = some (.ref ac) ∧ Fr n0 L ∧ Keep h0 h [a, ac] ∧ Fld Z h a oN "height" "I" (.int (1 : Int32)) ∧ Fld Z h a oN "key" "J" (.long ka) ∧ Fld Z h a oN "left" oNd .null ∧ Fld Z h a oN "level" oLd (.ref la) ∧ Fld Z h a oN "quantity" "J" (.long (((0 : Int64) + wa) + (0 : Int64))) ∧ Fld Z h a oN "right" oNd .null ∧ Fld Z h ac oN "height" "I" (.int ((own_f11 (1 : Int32) ((own_f11 (0 : Int32) (0 : Int32)) + (1 : Int32))) + (1 : Int32))) ∧ Fld Z h ac oN "key" "J" (.long kc) ∧ Fld Z h ac oN "left" oNd (.ref d3) ∧ Fld Z h ac oN "level" oLd (.ref lc) ∧ Fld Z h ac oN "quantity" "J" (.long ((wv + wc) + (((0 : Int64) + wa) + (0 : Int64)))) ∧ Fld Z h ac oN "right" oNd (.ref a) ∧ h0.size ≤ d3 ∧ Exa Z h d3 oN ∧ Fld Z h d3 oN "height" "I" (.int (1 : Int32)) ∧ Fld Z h d3 oN "key" "J" (.long key) ∧ Fld Z h d3 oN "left" oNd .null ∧ Fld Z h d3 oN "level" oLd (.ref lv) ∧ Fld Z h d3 oN "quantity" "J" (.long wv) ∧ Fld Z h d3 oN "right" oNd .null) := by
  refine Con.intro (plainFor_of_name own_pn_0) ?_
  intro p e s m below meth c s₁ P hx hby hml hown hnm hret hlk hZ X0 e0 hP
  have N0 := Fr.nil n0
  have hown : s.vm.findClass oT = some m.cls := hown
  refine Go.cast (own_efplo m a key lv) ?_
  show Go p.tables e below P (s₁.setTop (mkF m 0 #[oR a, oJ key, oS, oR lv] []))
  refine Go.s (fun kz => XS.aloadN X0.here hx rfl (hb hby own_d6_0) rfl rfl kz) ?_
  show Go p.tables e below P (s₁.setTop (mkF m 1 #[oR a, oJ key, oS, oR lv] [(.ref a)]))
  refine Go.s (fun kz => XT.ifnonnullYes X0.here hx rfl (pc0 := 1) (pc' := 14) rfl (hb hby own_d6_1) rfl (by decide) (by decide) kz) ?_
  show Go p.tables e below P (s₁.setTop (mkF m 14 #[oR a, oJ key, oS, oR lv] []))
  refine Go.s (fun kz => XT.lloadN X0.here hx rfl (hb hby own_d6_14) rfl kz) ?_
  refine Go.s (fun kz => XS.aloadN X0.here hx rfl (hb hby own_d6_15) rfl rfl kz) ?_
  show Go p.tables e below P (s₁.setTop (mkF m 16 #[oR a, oJ key, oS, oR lv] [(.ref a), (.long key)]))
  obtain ⟨T1, X1, e1, st1⟩ := getF X0 hx hZ hown (host := "") (Or.inl (own_g hw 55 rfl)) Via.refl e0 F_a_key (g := (mkF m 16 #[oR a, oJ key, oS, oR lv] [(.ref a), (.long key)])) rfl rfl (hb hby own_d6_16)
  refine Go.s (fun {t} => st1 t) ?_
  refine Go.s (fun kz => XT.lcmp X1.here hx rfl (hb hby own_d6_19) rfl kz) ?_
  show Go p.tables e below P (T1.setTop (mkF m 20 #[oR a, oJ key, oS, oR lv] [(.int (XT.cmpL key ka))]))
  refine Go.s (fun kz => XS.ifNo X1.here hx rfl (hb hby own_d6_20) rfl (XT.ll_ge_f hk) kz) ?_
  show Go p.tables e below P (T1.setTop (mkF m 23 #[oR a, oJ key, oS, oR lv] []))
  refine Go.s (fun kz => XS.aloadN X1.here hx rfl (hb hby own_d6_23) rfl rfl kz) ?_
  refine Go.s (fun kz => XS.aloadN X1.here hx rfl (hb hby own_d6_24) rfl rfl kz) ?_
  show Go p.tables e below P (T1.setTop (mkF m 25 #[oR a, oJ key, oS, oR lv] [(.ref a), (.ref a)]))
  obtain ⟨T2, X2, e2, st2⟩ := getF X1 hx hZ hown (host := "") (Or.inl (own_g hw 56 rfl)) Via.refl e1 F_a_left (g := (mkF m 25 #[oR a, oJ key, oS, oR lv] [(.ref a), (.ref a)])) rfl rfl (hb hby own_d6_25)
  refine Go.s (fun {t} => st2 t) ?_
  refine Go.s (fun kz => XT.lloadN X2.here hx rfl (hb hby own_d6_28) rfl kz) ?_
  refine Go.s (fun kz => XS.aloadN X2.here hx rfl (hb hby own_d6_29) rfl rfl kz) ?_
  show Go p.tables e below P (T2.setTop (mkF m 30 #[oR a, oJ key, oS, oR lv] [(.ref lv), (.long key), (.ref ac), (.ref a)]))
  obtain ⟨v3, T3, L3, X3, Q3, st3⟩ := Con.static (own_rmpl l Z a0 hw [] ac key lv kc lc .null (1 : Int32) qc wc wv (0 : Int32) (0 : Int64) h0 n0 Z0 HQ.null E_ac G_ac F_ac_key F_ac_level F_ac_left F_ac_right F_ac_height F_ac_quantity E_lc G_lc F_lc_quantity E_lv G_lv F_lv_quantity ne_ac_lc ne_ac_lv ne_lc_lv (fun q => by cases q) (fun q => by cases q) (fun q => by cases q) hk2 (by decide) (by decide)) X2 hx hZ (W := 1) hown (own_g hw 33 rfl) (own_g hw 34 rfl) (own_g hw 16 rfl) (own_g hw 35 rfl) (by decide) (by decide) (by decide) (by decide) (by decide) e2 (g := (mkF m 30 #[oR a, oJ key, oS, oR lv] [(.ref lv), (.long key), (.ref ac), (.ref a)])) rfl (by rw [hml]; rfl) (argsL := [(.ref ac), (.long key), (.ref lv)]) (rest := [(.ref a)]) rfl (lenOf own_pd_6 rfl) rfl (by show 2 * 0 + _ ≤ _; exact Nat.le_of_eq rfl) (hb hby own_d6_30)
  obtain ⟨H3, e3⟩ : ∃ z, T3.heap = z := ⟨_, rfl⟩
  rw [e3] at Q3
  obtain ⟨d3, rfl, Nq3, Kq3, Fp3_0, Fp3_1, Fp3_2, Fp3_3, Fp3_4, Fp3_5, Fp3_6, Fp3_7, Fp3_8, Fp3_9, Fp3_10, Fp3_11, Fp3_12, Fp3_13⟩ := Q3
  have N3 := Fr.app N0 Nq3
  have nad3 : a ≠ d3 := Nat.ne_of_lt (Nat.lt_of_lt_of_le E_a.lt Fp3_6)
  have nacd3 : ac ≠ d3 := Nat.ne_of_lt (Nat.lt_of_lt_of_le E_ac.lt Fp3_6)
  have nlad3 : la ≠ d3 := Nat.ne_of_lt (Nat.lt_of_lt_of_le E_la.lt Fp3_6)
  have nlcd3 : lc ≠ d3 := Nat.ne_of_lt (Nat.lt_of_lt_of_le E_lc.lt Fp3_6)
  have nlvd3 : lv ≠ d3 := Nat.ne_of_lt (Nat.lt_of_lt_of_le E_lv.lt Fp3_6)
  have G_d3 : n0 ≤ d3 := Nat.le_trans Z0 Fp3_6
  have SZ_d3 : h0.size ≤ d3 := Nat.le_trans (Keep.refl h0 [a, ac]).1 Fp3_6
  have Zs3 := Nat.le_trans Z0 Kq3.1
  have f4 := Exa.keep E_a Kq3
  have f5 := Fld.keep F_a_key Kq3 (ninS ne_a_ac nin0)
  have f6 := Fld.keep F_a_level Kq3 (ninS ne_a_ac nin0)
  have f7 := Fld.keep F_a_left Kq3 (ninS ne_a_ac nin0)
  have f8 := Fld.keep F_a_right Kq3 (ninS ne_a_ac nin0)
  have f9 := Fld.keep F_a_height Kq3 (ninS ne_a_ac nin0)
  have f10 := Fld.keep F_a_quantity Kq3 (ninS ne_a_ac nin0)
  have f11 := Exa.keep E_ac Kq3
  have f18 := Exa.keep E_la Kq3
  have f19 := Fld.keep F_la_quantity Kq3 (ninS (Ne.symm ne_ac_la) nin0)
  have f20 := Exa.keep E_lc Kq3
  have f21 := Fld.keep F_lc_quantity Kq3 (ninS (Ne.symm ne_ac_lc) nin0)
  have f22 := Exa.keep E_lv Kq3
  have f23 := Fld.keep F_lv_quantity Kq3 (ninS (Ne.symm ne_ac_lv) nin0)
  have K3 := (Keep.refl h0 [a, ac]).trans Kq3 (allS (Or.inl (List.mem_of_getElem? (i := 1) rfl)) all0)
  rw [show ((own_f11 (1 : Int32) (0 : Int32)) + (1 : Int32)) = (2 : Int32) from by decide] at Fp3_0
  refine Go.s (fun {t} => st3) ?_
  show Go p.tables e below P (T3.setTop (mkF m 33 #[oR a, oJ key, oS, oR lv] [(.ref ac), (.ref a)]))
  obtain ⟨T24, H24, X24, e24, W24, st24⟩ := putF X3 hx hZ hown (host := "") (Or.inl (own_g hw 56 rfl)) Via.refl e3 f7 f4 (Or.inl (own_g hw 57 rfl)) (own_g hw 37 rfl) (ty := (.object oN)) (by decide) rfl rfl (g := (mkF m 33 #[oR a, oJ key, oS, oR lv] [(.ref ac), (.ref a)])) rfl rfl (hb hby own_d6_33)
  refine Go.s (fun {t} => st24 t) ?_
  have Fw24 := Fld.same W24 f7
  have f25 := Exa.wr W24 f4
  have f26 := Fld.other W24 f5 (Or.inr (slot_ne (Or.inr (own_g hw 46 rfl)) (Or.inl (own_g hw 57 rfl)) (by decide) (t := .long) (t' := (.object oN)) (by decide) (by decide)))
  have f27 := Fld.other W24 f6 (Or.inr (slot_ne (Or.inr (own_g hw 48 rfl)) (Or.inl (own_g hw 57 rfl)) (by decide) (t := (.object oL)) (t' := (.object oN)) (by decide) (by decide)))
  have f29 := Fld.other W24 f8 (Or.inr (slot_ne (Or.inl (own_g hw 59 rfl)) (Or.inl (own_g hw 57 rfl)) (by decide) (t := (.object oN)) (t' := (.object oN)) (by decide) (by decide)))
  have f30 := Fld.other W24 f9 (Or.inr (slot_ne (Or.inl (own_g hw 44 rfl)) (Or.inl (own_g hw 57 rfl)) (by decide) (t := .int) (t' := (.object oN)) (by decide) (by decide)))
  have f31 := Fld.other W24 f10 (Or.inr (slot_ne (Or.inl (own_g hw 52 rfl)) (Or.inl (own_g hw 57 rfl)) (by decide) (t := .long) (t' := (.object oN)) (by decide) (by decide)))
  have f32 := Exa.wr W24 f11
  have f33 := Exa.wr W24 f18
  have f34 := Fld.other W24 f19 (Or.inl (Ne.symm ne_a_la))
  have f35 := Exa.wr W24 f20
  have f36 := Fld.other W24 f21 (Or.inl (Ne.symm ne_a_lc))
  have f37 := Exa.wr W24 f22
  have f38 := Fld.other W24 f23 (Or.inl (Ne.symm ne_a_lv))
  have f39 := Fld.other W24 Fp3_0 (Or.inl (Ne.symm ne_a_ac))
  have f40 := Fld.other W24 Fp3_1 (Or.inl (Ne.symm ne_a_ac))
  have f41 := Fld.other W24 Fp3_2 (Or.inl (Ne.symm ne_a_ac))
  have f42 := Fld.other W24 Fp3_3 (Or.inl (Ne.symm ne_a_ac))
  have f43 := Fld.other W24 Fp3_4 (Or.inl (Ne.symm ne_a_ac))
  have f44 := Fld.other W24 Fp3_5 (Or.inl (Ne.symm ne_a_ac))
  have f45 := Exa.wr W24 Fp3_7
  have f46 := Fld.other W24 Fp3_8 (Or.inl (Ne.symm nad3))
  have f47 := Fld.other W24 Fp3_9 (Or.inl (Ne.symm nad3))
  have f48 := Fld.other W24 Fp3_10 (Or.inl (Ne.symm nad3))
  have f49 := Fld.other W24 Fp3_11 (Or.inl (Ne.symm nad3))
  have f50 := Fld.other W24 Fp3_12 (Or.inl (Ne.symm nad3))
  have f51 := Fld.other W24 Fp3_13 (Or.inl (Ne.symm nad3))
  have N24 := Fr.snoc X24 N3 G_a
  have Zs24 := Nat.le_trans Zs3 (Keep.of_wr W24).1
  have K24 : Keep h0 H24 [a, ac] := K3.wr W24 (Or.inl (List.mem_of_getElem? (i := 0) rfl))
  refine Go.s (fun kz => XS.goto X24.here hx rfl (pc0 := 36) (pc' := 52) rfl (hb hby own_d6_36) (by decide) (by decide) kz) ?_
  show Go p.tables e below P (T24.setTop (mkF m 52 #[oR a, oJ key, oS, oR lv] []))
  refine Go.s (fun kz => XS.aloadN X24.here hx rfl (hb hby own_d6_52) rfl rfl kz) ?_
  show Go p.tables e below P (T24.setTop (mkF m 53 #[oR a, oJ key, oS, oR lv] [(.ref a)]))
  obtain ⟨v52, T52, L52, X52, Q52, st52⟩ := Con.static (own_rmbll l Z a0 hw [] a ka la ac .null ta qa kc lc (.ref d3) .null (2 : Int32) ((wv + wc) + (0 : Int64)) wa wc (0 : Int32) (0 : Int64) (1 : Int32) wv (0 : Int32) (0 : Int64) H24 n0 Zs24 HQ.null (Or.inr ⟨d3, rfl, f46, f50⟩) HQ.null f25 G_a f26 f27 Fw24 f29 f30 f31 f32 G_ac f40 f42 f41 f44 f39 f43 f33 G_la f34 f35 G_lc f36 ne_a_ac ne_a_la ne_a_lc ne_ac_la ne_ac_lc ne_la_lc (fun q => by cases q) (fun q => by cases q) (fun q => by cases q) (fun q => by cases q) (fun q => (Ne.symm nad3) (Value.ref.inj q)) (fun q => (Ne.symm nacd3) (Value.ref.inj q)) (fun q => (Ne.symm nlad3) (Value.ref.inj q)) (fun q => (Ne.symm nlcd3) (Value.ref.inj q)) (fun q => by cases q) (fun q => by cases q) (fun q => by cases q) (fun q => by cases q) (by decide) (by decide)) X24 hx hZ (W := 0) hown (own_g hw 60 rfl) (own_g hw 61 rfl) (own_g hw 16 rfl) (own_g hw 62 rfl) (by decide) (by decide) (by decide) (by decide) (by decide) e24 (g := (mkF m 53 #[oR a, oJ key, oS, oR lv] [(.ref a)])) rfl (by rw [hml]; rfl) (argsL := [(.ref a)]) (rest := []) rfl (lenOf own_pd_4 rfl) rfl (by show 2 * 0 + _ ≤ _; exact Nat.le_of_eq rfl) (hb hby own_d6_53)
  obtain ⟨H52, e52⟩ : ∃ z, T52.heap = z := ⟨_, rfl⟩
  rw [e52] at Q52
  obtain ⟨rfl, Nq52, Kq52, Fp52_0, Fp52_1, Fp52_2, Fp52_3, Fp52_4, Fp52_5, Fp52_6, Fp52_7, Fp52_8, Fp52_9, Fp52_10, Fp52_11⟩ := Q52
  have N52 := Fr.app N24 Nq52
  have Zs52 := Nat.le_trans Zs24 Kq52.1
  have f53 := Exa.keep f25 Kq52
  have f59 := Exa.keep f32 Kq52
  have f60 := Exa.keep f33 Kq52
  have f61 := Fld.keep f34 Kq52 (ninS (Ne.symm ne_a_la) (ninS (Ne.symm ne_ac_la) nin0))
  have f62 := Exa.keep f35 Kq52
  have f63 := Fld.keep f36 Kq52 (ninS (Ne.symm ne_a_lc) (ninS (Ne.symm ne_ac_lc) nin0))
  have f64 := Exa.keep f37 Kq52
  have f65 := Fld.keep f38 Kq52 (ninS (Ne.symm ne_a_lv) (ninS (Ne.symm ne_ac_lv) nin0))
  have f72 := Exa.keep f45 Kq52
  have f73 := Fld.keep f46 Kq52 (ninS (Ne.symm nad3) (ninS (Ne.symm nacd3) nin0))
  have f74 := Fld.keep f47 Kq52 (ninS (Ne.symm nad3) (ninS (Ne.symm nacd3) nin0))
  have f75 := Fld.keep f48 Kq52 (ninS (Ne.symm nad3) (ninS (Ne.symm nacd3) nin0))
  have f76 := Fld.keep f49 Kq52 (ninS (Ne.symm nad3) (ninS (Ne.symm nacd3) nin0))
  have f77 := Fld.keep f50 Kq52 (ninS (Ne.symm nad3) (ninS (Ne.symm nacd3) nin0))
  have f78 := Fld.keep f51 Kq52 (ninS (Ne.symm nad3) (ninS (Ne.symm nacd3) nin0))
  have K52 := K24.trans Kq52 (allS (Or.inl (List.mem_of_getElem? (i := 0) rfl)) (allS (Or.inl (List.mem_of_getElem? (i := 1) rfl)) all0))
  rw [show ((own_f11 (0 : Int32) (0 : Int32)) + (1 : Int32)) = (1 : Int32) from by decide] at Fp52_0
  refine Go.s (fun {t} => st52) ?_
  show Go p.tables e below P (T52.setTop (mkF m 56 #[oR a, oJ key, oS, oR lv] [(.ref ac)]))
  exact Go.retR X52 hx hlk hret rfl rfl (hb hby own_d6_56) (fun U hU hF => hP U _ _ (by rw [hU, e52]; exact ⟨d3, rfl, N52, K52, Fp52_0, Fp52_1, Fp52_2, Fp52_3, Fp52_4, Fp52_5, Fp52_6, Fp52_7, Fp52_8, Fp52_9, Fp52_10, Fp52_11, SZ_d3, f72, f73, f74, f75, f76, f77, f78⟩) ⟨hF.1, hF.2.1, hF.2.2.mono (by decide) (by decide)⟩)
theorem own_efplz (m : MethodId) (a : Addr) (key : Int64) (lv : Addr) : entryFrame m #[(.ref a), (.long key), (.ref lv)] 4 = mkF m 0 #[oR a, oJ key, oS, oR lv] [] := by
  (first | (simp [entryFrame, mkF, argsToLocals, Value.category]; done) | rfl)
set_option maxRecDepth 65536 in
set_option maxHeartbeats 40000000 in
theorem own_rmplz (l : Launch) (Z : State) (a0 : Array Value) (hw : ∀ d ∈ tables_1, d.before a0 Z = true) (ws : List Jvm.Cond) (a : Nat) (key : Int64) (lv : Nat) (ka : Int64) (la : Nat) (ac : Nat) (ta : Int32) (qa : Int64) (kc : Int64) (lc : Nat) (qc : Int64) (wa : Int64) (wc : Int64) (wv : Int64) (h0 : Heap) (n0 : Nat) (Z0 : n0 ≤ h0.size) (E_a : Exa Z h0 a oN) (G_a : n0 ≤ a) (F_a_key : Fld Z h0 a oN "key" "J" (.long ka)) (F_a_level : Fld Z h0 a oN "level" oLd (.ref la)) (F_a_left : Fld Z h0 a oN "left" oNd (.ref ac)) (F_a_right : Fld Z h0 a oN "right" oNd .null) (F_a_height : Fld Z h0 a oN "height" "I" (.int ta)) (F_a_quantity : Fld Z h0 a oN "quantity" "J" (.long qa)) (E_ac : Exa Z h0 ac oN) (G_ac : n0 ≤ ac) (F_ac_key : Fld Z h0 ac oN "key" "J" (.long kc)) (F_ac_level : Fld Z h0 ac oN "level" oLd (.ref lc)) (F_ac_left : Fld Z h0 ac oN "left" oNd .null) (F_ac_right : Fld Z h0 ac oN "right" oNd .null) (F_ac_height : Fld Z h0 ac oN "height" "I" (.int (1 : Int32))) (F_ac_quantity : Fld Z h0 ac oN "quantity" "J" (.long qc)) (E_la : Exa Z h0 la oL) (G_la : n0 ≤ la) (F_la_quantity : Fld Z h0 la oL "quantity" "J" (.long wa)) (E_lc : Exa Z h0 lc oL) (G_lc : n0 ≤ lc) (F_lc_quantity : Fld Z h0 lc oL "quantity" "J" (.long wc)) (E_lv : Exa Z h0 lv oL) (G_lv : n0 ≤ lv) (F_lv_quantity : Fld Z h0 lv oL "quantity" "J" (.long wv)) (ne_a_ac : a ≠ ac) (ne_a_la : a ≠ la) (ne_a_lc : a ≠ lc) (ne_a_lv : a ≠ lv) (ne_ac_la : ac ≠ la) (ne_ac_lc : ac ≠ lc) (ne_ac_lv : ac ≠ lv) (ne_la_lc : la ≠ lc) (ne_la_lv : la ≠ lv) (ne_lc_lv : lc ≠ lv) (hk : key < ka) (hk2 : ¬ key < kc) :
    Con l Z (⟨oT, "put", "(Lcom/example/rotunda/rotunda/LevelTree$Node;JLcom/example/rotunda/rotunda/BookSide$Level;)Lcom/example/rotunda/rotunda/LevelTree$Node;"⟩ : MethodName) prog_29_method_11_code 4 (some (.object oN)) ws ({ frames := 4, cells := 1, slots := 6, locals := 60 } : Room) #[(.ref a), (.long key), (.ref lv)] h0 (fun v h L => ∃ d3 : Nat, v = some (.ref d3) ∧ Fr n0 L ∧ Keep h0 h [a, ac] ∧ Fld Z h a oN "height" "I" (.int (1 : Int32)) ∧ Fld Z h a oN "key" "J" (.long ka) ∧ Fld Z h a oN "left" oNd .null ∧ Fld Z h a oN "level" oLd (.ref la) ∧ Fld Z h a oN "quantity" "J" (.long (((0 : Int64) + wa) + (0 : Int64))) ∧ Fld Z h a oN "right" oNd .null ∧ Fld Z h ac oN "height" "I" (.int (1 : Int32)) ∧ Fld Z h ac oN "key" "J" (.long kc) ∧ Fld Z h ac oN "left" oNd .null ∧ Fld Z h ac oN "level" oLd (.ref lc) ∧ Fld Z h ac oN "quantity" "J" (.long (((0 : Int64) + wc) + (0 : Int64))) ∧ Fld Z h ac oN "right" oNd .null ∧ h0.size ≤ d3 ∧ Exa Z h d3 oN ∧ Fld Z h d3 oN "height" "I" (.int ((own_f11 ((own_f11 (0 : Int32) (0 : Int32)) + (1 : Int32)) ((own_f11 (0 : Int32) (0 : Int32)) + (1 : Int32))) + (1 : Int32))) ∧ Fld Z h d3 oN "key" "J" (.long key) ∧ Fld Z h d3 oN "left" oNd (.ref ac) ∧ Fld Z h d3 oN "level" oLd (.ref lv) ∧ Fld Z h d3 oN "quantity" "J" (.long (((((0 : Int64) + wc) + (0 : Int64)) + wv) + (((0 : Int64) + wa) + (0 : Int64)))) ∧ Fld Z h d3 oN "right" oNd (.ref a)) := by
  refine Con.intro (plainFor_of_name own_pn_0) ?_
  intro p e s m below meth c s₁ P hx hby hml hown hnm hret hlk hZ X0 e0 hP
  have N0 := Fr.nil n0
  have hown : s.vm.findClass oT = some m.cls := hown
  refine Go.cast (own_efplz m a key lv) ?_
  show Go p.tables e below P (s₁.setTop (mkF m 0 #[oR a, oJ key, oS, oR lv] []))
  refine Go.s (fun kz => XS.aloadN X0.here hx rfl (hb hby own_d6_0) rfl rfl kz) ?_
  show Go p.tables e below P (s₁.setTop (mkF m 1 #[oR a, oJ key, oS, oR lv] [(.ref a)]))
  refine Go.s (fun kz => XT.ifnonnullYes X0.here hx rfl (pc0 := 1) (pc' := 14) rfl (hb hby own_d6_1) rfl (by decide) (by decide) kz) ?_
  show Go p.tables e below P (s₁.setTop (mkF m 14 #[oR a, oJ key, oS, oR lv] []))
  refine Go.s (fun kz => XT.lloadN X0.here hx rfl (hb hby own_d6_14) rfl kz) ?_
  refine Go.s (fun kz => XS.aloadN X0.here hx rfl (hb hby own_d6_15) rfl rfl kz) ?_
  show Go p.tables e below P (s₁.setTop (mkF m 16 #[oR a, oJ key, oS, oR lv] [(.ref a), (.long key)]))
  obtain ⟨T1, X1, e1, st1⟩ := getF X0 hx hZ hown (host := "") (Or.inl (own_g hw 55 rfl)) Via.refl e0 F_a_key (g := (mkF m 16 #[oR a, oJ key, oS, oR lv] [(.ref a), (.long key)])) rfl rfl (hb hby own_d6_16)
  refine Go.s (fun {t} => st1 t) ?_
  refine Go.s (fun kz => XT.lcmp X1.here hx rfl (hb hby own_d6_19) rfl kz) ?_
  show Go p.tables e below P (T1.setTop (mkF m 20 #[oR a, oJ key, oS, oR lv] [(.int (XT.cmpL key ka))]))
  refine Go.s (fun kz => XS.ifNo X1.here hx rfl (hb hby own_d6_20) rfl (XT.ll_ge_f hk) kz) ?_
  show Go p.tables e below P (T1.setTop (mkF m 23 #[oR a, oJ key, oS, oR lv] []))
  refine Go.s (fun kz => XS.aloadN X1.here hx rfl (hb hby own_d6_23) rfl rfl kz) ?_
  refine Go.s (fun kz => XS.aloadN X1.here hx rfl (hb hby own_d6_24) rfl rfl kz) ?_
  show Go p.tables e below P (T1.setTop (mkF m 25 #[oR a, oJ key, oS, oR lv] [(.ref a), (.ref a)]))
  obtain ⟨T2, X2, e2, st2⟩ := getF X1 hx hZ hown (host := "") (Or.inl (own_g hw 56 rfl)) Via.refl e1 F_a_left (g := (mkF m 25 #[oR a, oJ key, oS, oR lv] [(.ref a), (.ref a)])) rfl rfl (hb hby own_d6_25)
  refine Go.s (fun {t} => st2 t) ?_
  refine Go.s (fun kz => XT.lloadN X2.here hx rfl (hb hby own_d6_28) rfl kz) ?_
  refine Go.s (fun kz => XS.aloadN X2.here hx rfl (hb hby own_d6_29) rfl rfl kz) ?_
  show Go p.tables e below P (T2.setTop (mkF m 30 #[oR a, oJ key, oS, oR lv] [(.ref lv), (.long key), (.ref ac), (.ref a)]))
  obtain ⟨v3, T3, L3, X3, Q3, st3⟩ := Con.static (own_rmpr l Z a0 hw [] ac key lv kc lc .null (1 : Int32) qc wc wv (0 : Int32) (0 : Int64) h0 n0 Z0 HQ.null E_ac G_ac F_ac_key F_ac_level F_ac_left F_ac_right F_ac_height F_ac_quantity E_lc G_lc F_lc_quantity E_lv G_lv F_lv_quantity ne_ac_lc ne_ac_lv ne_lc_lv (fun q => by cases q) (fun q => by cases q) (fun q => by cases q) hk2 (by decide) (by decide)) X2 hx hZ (W := 1) hown (own_g hw 33 rfl) (own_g hw 34 rfl) (own_g hw 16 rfl) (own_g hw 35 rfl) (by decide) (by decide) (by decide) (by decide) (by decide) e2 (g := (mkF m 30 #[oR a, oJ key, oS, oR lv] [(.ref lv), (.long key), (.ref ac), (.ref a)])) rfl (by rw [hml]; rfl) (argsL := [(.ref ac), (.long key), (.ref lv)]) (rest := [(.ref a)]) rfl (lenOf own_pd_6 rfl) rfl (by show 2 * 0 + _ ≤ _; exact Nat.le_of_eq rfl) (hb hby own_d6_30)
  obtain ⟨H3, e3⟩ : ∃ z, T3.heap = z := ⟨_, rfl⟩
  rw [e3] at Q3
  obtain ⟨d3, rfl, Nq3, Kq3, Fp3_0, Fp3_1, Fp3_2, Fp3_3, Fp3_4, Fp3_5, Fp3_6, Fp3_7, Fp3_8, Fp3_9, Fp3_10, Fp3_11, Fp3_12, Fp3_13⟩ := Q3
  have N3 := Fr.app N0 Nq3
  have nad3 : a ≠ d3 := Nat.ne_of_lt (Nat.lt_of_lt_of_le E_a.lt Fp3_6)
  have nacd3 : ac ≠ d3 := Nat.ne_of_lt (Nat.lt_of_lt_of_le E_ac.lt Fp3_6)
  have nlad3 : la ≠ d3 := Nat.ne_of_lt (Nat.lt_of_lt_of_le E_la.lt Fp3_6)
  have nlcd3 : lc ≠ d3 := Nat.ne_of_lt (Nat.lt_of_lt_of_le E_lc.lt Fp3_6)
  have nlvd3 : lv ≠ d3 := Nat.ne_of_lt (Nat.lt_of_lt_of_le E_lv.lt Fp3_6)
  have G_d3 : n0 ≤ d3 := Nat.le_trans Z0 Fp3_6
  have SZ_d3 : h0.size ≤ d3 := Nat.le_trans (Keep.refl h0 [a, ac]).1 Fp3_6
  have Zs3 := Nat.le_trans Z0 Kq3.1
  have f4 := Exa.keep E_a Kq3
  have f5 := Fld.keep F_a_key Kq3 (ninS ne_a_ac nin0)
  have f6 := Fld.keep F_a_level Kq3 (ninS ne_a_ac nin0)
  have f7 := Fld.keep F_a_left Kq3 (ninS ne_a_ac nin0)
  have f8 := Fld.keep F_a_right Kq3 (ninS ne_a_ac nin0)
  have f9 := Fld.keep F_a_height Kq3 (ninS ne_a_ac nin0)
  have f10 := Fld.keep F_a_quantity Kq3 (ninS ne_a_ac nin0)
  have f11 := Exa.keep E_ac Kq3
  have f18 := Exa.keep E_la Kq3
  have f19 := Fld.keep F_la_quantity Kq3 (ninS (Ne.symm ne_ac_la) nin0)
  have f20 := Exa.keep E_lc Kq3
  have f21 := Fld.keep F_lc_quantity Kq3 (ninS (Ne.symm ne_ac_lc) nin0)
  have f22 := Exa.keep E_lv Kq3
  have f23 := Fld.keep F_lv_quantity Kq3 (ninS (Ne.symm ne_ac_lv) nin0)
  have K3 := (Keep.refl h0 [a, ac]).trans Kq3 (allS (Or.inl (List.mem_of_getElem? (i := 1) rfl)) all0)
  rw [show ((own_f11 (0 : Int32) (1 : Int32)) + (1 : Int32)) = (2 : Int32) from by decide] at Fp3_0
  refine Go.s (fun {t} => st3) ?_
  show Go p.tables e below P (T3.setTop (mkF m 33 #[oR a, oJ key, oS, oR lv] [(.ref ac), (.ref a)]))
  obtain ⟨T24, H24, X24, e24, W24, st24⟩ := putF X3 hx hZ hown (host := "") (Or.inl (own_g hw 56 rfl)) Via.refl e3 f7 f4 (Or.inl (own_g hw 57 rfl)) (own_g hw 37 rfl) (ty := (.object oN)) (by decide) rfl rfl (g := (mkF m 33 #[oR a, oJ key, oS, oR lv] [(.ref ac), (.ref a)])) rfl rfl (hb hby own_d6_33)
  refine Go.s (fun {t} => st24 t) ?_
  have Fw24 := Fld.same W24 f7
  have f25 := Exa.wr W24 f4
  have f26 := Fld.other W24 f5 (Or.inr (slot_ne (Or.inr (own_g hw 46 rfl)) (Or.inl (own_g hw 57 rfl)) (by decide) (t := .long) (t' := (.object oN)) (by decide) (by decide)))
  have f27 := Fld.other W24 f6 (Or.inr (slot_ne (Or.inr (own_g hw 48 rfl)) (Or.inl (own_g hw 57 rfl)) (by decide) (t := (.object oL)) (t' := (.object oN)) (by decide) (by decide)))
  have f29 := Fld.other W24 f8 (Or.inr (slot_ne (Or.inl (own_g hw 59 rfl)) (Or.inl (own_g hw 57 rfl)) (by decide) (t := (.object oN)) (t' := (.object oN)) (by decide) (by decide)))
  have f30 := Fld.other W24 f9 (Or.inr (slot_ne (Or.inl (own_g hw 44 rfl)) (Or.inl (own_g hw 57 rfl)) (by decide) (t := .int) (t' := (.object oN)) (by decide) (by decide)))
  have f31 := Fld.other W24 f10 (Or.inr (slot_ne (Or.inl (own_g hw 52 rfl)) (Or.inl (own_g hw 57 rfl)) (by decide) (t := .long) (t' := (.object oN)) (by decide) (by decide)))
  have f32 := Exa.wr W24 f11
  have f33 := Exa.wr W24 f18
  have f34 := Fld.other W24 f19 (Or.inl (Ne.symm ne_a_la))
  have f35 := Exa.wr W24 f20
  have f36 := Fld.other W24 f21 (Or.inl (Ne.symm ne_a_lc))
  have f37 := Exa.wr W24 f22
  have f38 := Fld.other W24 f23 (Or.inl (Ne.symm ne_a_lv))
  have f39 := Fld.other W24 Fp3_0 (Or.inl (Ne.symm ne_a_ac))
  have f40 := Fld.other W24 Fp3_1 (Or.inl (Ne.symm ne_a_ac))
  have f41 := Fld.other W24 Fp3_2 (Or.inl (Ne.symm ne_a_ac))
  have f42 := Fld.other W24 Fp3_3 (Or.inl (Ne.symm ne_a_ac))
  have f43 := Fld.other W24 Fp3_4 (Or.inl (Ne.symm ne_a_ac))
  have f44 := Fld.other W24 Fp3_5 (Or.inl (Ne.symm ne_a_ac))
  have f45 := Exa.wr W24 Fp3_7
  have f46 := Fld.other W24 Fp3_8 (Or.inl (Ne.symm nad3))
  have f47 := Fld.other W24 Fp3_9 (Or.inl (Ne.symm nad3))
  have f48 := Fld.other W24 Fp3_10 (Or.inl (Ne.symm nad3))
  have f49 := Fld.other W24 Fp3_11 (Or.inl (Ne.symm nad3))
  have f50 := Fld.other W24 Fp3_12 (Or.inl (Ne.symm nad3))
  have f51 := Fld.other W24 Fp3_13 (Or.inl (Ne.symm nad3))
  have N24 := Fr.snoc X24 N3 G_a
  have Zs24 := Nat.le_trans Zs3 (Keep.of_wr W24).1
  have K24 : Keep h0 H24 [a, ac] := K3.wr W24 (Or.inl (List.mem_of_getElem? (i := 0) rfl))
  refine Go.s (fun kz => XS.goto X24.here hx rfl (pc0 := 36) (pc' := 52) rfl (hb hby own_d6_36) (by decide) (by decide) kz) ?_
  show Go p.tables e below P (T24.setTop (mkF m 52 #[oR a, oJ key, oS, oR lv] []))
  refine Go.s (fun kz => XS.aloadN X24.here hx rfl (hb hby own_d6_52) rfl rfl kz) ?_
  show Go p.tables e below P (T24.setTop (mkF m 53 #[oR a, oJ key, oS, oR lv] [(.ref a)]))
  obtain ⟨v52, T52, L52, X52, Q52, st52⟩ := Con.static (own_rmblr l Z a0 hw [] a ka la ac .null ta qa kc lc .null d3 (2 : Int32) (((0 : Int64) + wc) + wv) key lv .null .null (1 : Int32) wv wa wc wv (0 : Int32) (0 : Int64) (0 : Int32) (0 : Int64) (0 : Int32) (0 : Int64) (0 : Int32) (0 : Int64) H24 n0 Zs24 HQ.null HQ.null HQ.null HQ.null f25 G_a f26 f27 Fw24 f29 f30 f31 f32 G_ac f40 f42 f41 f44 f39 f43 f45 G_d3 f47 f49 f48 f51 f46 f50 f33 G_la f34 f35 G_lc f36 f37 G_lv f38 ne_a_ac nad3 ne_a_la ne_a_lc ne_a_lv nacd3 ne_ac_la ne_ac_lc ne_ac_lv (Ne.symm nlad3) (Ne.symm nlcd3) (Ne.symm nlvd3) ne_la_lc ne_la_lv ne_lc_lv (fun q => by cases q) (fun q => by cases q) (fun q => by cases q) (fun q => by cases q) (fun q => by cases q) (fun q => by cases q) (fun q => by cases q) (fun q => by cases q) (fun q => by cases q) (fun q => by cases q) (fun q => by cases q) (fun q => by cases q) (fun q => by cases q) (fun q => by cases q) (fun q => by cases q) (fun q => by cases q) (fun q => by cases q) (fun q => by cases q) (fun q => by cases q) (fun q => by cases q) (fun q => by cases q) (fun q => by cases q) (fun q => by cases q) (fun q => by cases q) (by decide) (by decide)) X24 hx hZ (W := 0) hown (own_g hw 60 rfl) (own_g hw 61 rfl) (own_g hw 16 rfl) (own_g hw 62 rfl) (by decide) (by decide) (by decide) (by decide) (by decide) e24 (g := (mkF m 53 #[oR a, oJ key, oS, oR lv] [(.ref a)])) rfl (by rw [hml]; rfl) (argsL := [(.ref a)]) (rest := []) rfl (lenOf own_pd_4 rfl) rfl (by show 2 * 0 + _ ≤ _; exact Nat.le_of_eq rfl) (hb hby own_d6_53)
  obtain ⟨H52, e52⟩ : ∃ z, T52.heap = z := ⟨_, rfl⟩
  rw [e52] at Q52
  obtain ⟨rfl, Nq52, Kq52, Fp52_0, Fp52_1, Fp52_2, Fp52_3, Fp52_4, Fp52_5, Fp52_6, Fp52_7, Fp52_8, Fp52_9, Fp52_10, Fp52_11, Fp52_12, Fp52_13, Fp52_14, Fp52_15, Fp52_16, Fp52_17⟩ := Q52
  have N52 := Fr.app N24 Nq52
  have Zs52 := Nat.le_trans Zs24 Kq52.1
  have f53 := Exa.keep f25 Kq52
  have f59 := Exa.keep f32 Kq52
  have f60 := Exa.keep f33 Kq52
  have f61 := Fld.keep f34 Kq52 (ninS (Ne.symm ne_a_la) (ninS (Ne.symm ne_ac_la) (ninS nlad3 nin0)))
  have f62 := Exa.keep f35 Kq52
  have f63 := Fld.keep f36 Kq52 (ninS (Ne.symm ne_a_lc) (ninS (Ne.symm ne_ac_lc) (ninS nlcd3 nin0)))
  have f64 := Exa.keep f37 Kq52
  have f65 := Fld.keep f38 Kq52 (ninS (Ne.symm ne_a_lv) (ninS (Ne.symm ne_ac_lv) (ninS nlvd3 nin0)))
  have f72 := Exa.keep f45 Kq52
  have K52 := K24.trans Kq52 (allS (Or.inl (List.mem_of_getElem? (i := 0) rfl)) (allS (Or.inl (List.mem_of_getElem? (i := 1) rfl)) (allS (Or.inr SZ_d3) all0)))
  rw [show ((own_f11 (0 : Int32) (0 : Int32)) + (1 : Int32)) = (1 : Int32) from by decide] at Fp52_0
  rw [show ((own_f11 (0 : Int32) (0 : Int32)) + (1 : Int32)) = (1 : Int32) from by decide] at Fp52_6
  refine Go.s (fun {t} => st52) ?_
  show Go p.tables e below P (T52.setTop (mkF m 56 #[oR a, oJ key, oS, oR lv] [(.ref d3)]))
  exact Go.retR X52 hx hlk hret rfl rfl (hb hby own_d6_56) (fun U hU hF => hP U _ _ (by rw [hU, e52]; exact ⟨d3, rfl, N52, K52, Fp52_0, Fp52_1, Fp52_2, Fp52_3, Fp52_4, Fp52_5, Fp52_6, Fp52_7, Fp52_8, Fp52_9, Fp52_10, Fp52_11, SZ_d3, f72, Fp52_12, Fp52_13, Fp52_14, Fp52_15, Fp52_16, Fp52_17⟩) ⟨hF.1, hF.2.1, hF.2.2.mono (by decide) (by decide)⟩)
theorem own_efjp0 (m : MethodId) (tr : Addr) (key : Int64) (lv : Addr) : entryFrame m #[(.ref tr), (.long key), (.ref lv)] 4 = mkF m 0 #[oR tr, oJ key, oS, oR lv] [] := by
  (first | (simp [entryFrame, mkF, argsToLocals, Value.category]; done) | rfl)
theorem own_d5_0 : decode prog_29_method_5_code 0 = .ok (.aload_n 0, 1) := by decide +kernel
theorem own_d5_1 : decode prog_29_method_5_code 1 = .ok (.aload_n 0, 1) := by decide +kernel
theorem own_d5_2 : decode prog_29_method_5_code 2 = .ok (.getfield 13, 3) := by decide +kernel
theorem own_d5_5 : decode prog_29_method_5_code 5 = .ok (.lload_n 1, 1) := by decide +kernel
theorem own_d5_6 : decode prog_29_method_5_code 6 = .ok (.aload_n 3, 1) := by decide +kernel
theorem own_d5_7 : decode prog_29_method_5_code 7 = .ok (.invokestatic 33, 3) := by decide +kernel
theorem own_d5_10 : decode prog_29_method_5_code 10 = .ok (.putfield 13, 3) := by decide +kernel
theorem own_d5_13 : decode prog_29_method_5_code 13 = .ok (.aload_n 0, 1) := by decide +kernel
theorem own_d5_14 : decode prog_29_method_5_code 14 = .ok (.dup, 1) := by decide +kernel
theorem own_d5_15 : decode prog_29_method_5_code 15 = .ok (.getfield 7, 3) := by decide +kernel
theorem own_d5_18 : decode prog_29_method_5_code 18 = .ok (.iconst 1, 1) := by decide +kernel
theorem own_d5_19 : decode prog_29_method_5_code 19 = .ok (.iadd, 1) := by decide +kernel
theorem own_d5_20 : decode prog_29_method_5_code 20 = .ok (.putfield 7, 3) := by decide +kernel
theorem own_d5_23 : decode prog_29_method_5_code 23 = .ok (.return_, 1) := by decide +kernel
set_option maxRecDepth 65536 in
set_option maxHeartbeats 40000000 in
theorem own_rmjp0 (l : Launch) (Z : State) (a0 : Array Value) (hw : ∀ d ∈ tables_1, d.before a0 Z = true) (ws : List Jvm.Cond) (tr : Nat) (key : Int64) (lv : Nat) (sz : Int32) (wv : Int64) (h0 : Heap) (n0 : Nat) (Z0 : n0 ≤ h0.size) (E_tr : Exa Z h0 tr oT) (G_tr : n0 ≤ tr) (F_tr_root : Fld Z h0 tr oT "root" oNd .null) (F_tr_size : Fld Z h0 tr oT "size" "I" (.int sz)) (E_lv : Exa Z h0 lv oL) (G_lv : n0 ≤ lv) (F_lv_quantity : Fld Z h0 lv oL "quantity" "J" (.long wv)) (ne_tr_lv : tr ≠ lv) :
    Con l Z (⟨oT, "put", "(JLcom/example/rotunda/rotunda/BookSide$Level;)V"⟩ : MethodName) prog_29_method_5_code 4 none ws ({ frames := 5, cells := 1, slots := 6, locals := 76 } : Room) #[(.ref tr), (.long key), (.ref lv)] h0 (fun v h L => ∃ d2 : Nat, v = none ∧ Fr n0 L ∧ Keep h0 h [tr] ∧ Fld Z h tr oT "root" oNd (.ref d2) ∧ Fld Z h tr oT "size" "I" (.int (sz + (1 : Int32))) ∧ h0.size ≤ d2 ∧ Exa Z h d2 oN ∧ Fld Z h d2 oN "height" "I" (.int (1 : Int32)) ∧ Fld Z h d2 oN "key" "J" (.long key) ∧ Fld Z h d2 oN "left" oNd .null ∧ Fld Z h d2 oN "level" oLd (.ref lv) ∧ Fld Z h d2 oN "quantity" "J" (.long wv) ∧ Fld Z h d2 oN "right" oNd .null) := by
  refine Con.intro (plainFor_of_name own_pn_0) ?_
  intro p e s m below meth c s₁ P hx hby hml hown hnm hret hlk hZ X0 e0 hP
  have N0 := Fr.nil n0
  have hown : s.vm.findClass oT = some m.cls := hown
  refine Go.cast (own_efjp0 m tr key lv) ?_
  show Go p.tables e below P (s₁.setTop (mkF m 0 #[oR tr, oJ key, oS, oR lv] []))
  refine Go.s (fun kz => XS.aloadN X0.here hx rfl (hb hby own_d5_0) rfl rfl kz) ?_
  refine Go.s (fun kz => XS.aloadN X0.here hx rfl (hb hby own_d5_1) rfl rfl kz) ?_
  show Go p.tables e below P (s₁.setTop (mkF m 2 #[oR tr, oJ key, oS, oR lv] [(.ref tr), (.ref tr)]))
  obtain ⟨T1, X1, e1, st1⟩ := getF X0 hx hZ hown (host := "") (Or.inl (own_g hw 26 rfl)) Via.refl e0 F_tr_root (g := (mkF m 2 #[oR tr, oJ key, oS, oR lv] [(.ref tr), (.ref tr)])) rfl rfl (hb hby own_d5_2)
  refine Go.s (fun {t} => st1 t) ?_
  refine Go.s (fun kz => XT.lloadN X1.here hx rfl (hb hby own_d5_5) rfl kz) ?_
  refine Go.s (fun kz => XS.aloadN X1.here hx rfl (hb hby own_d5_6) rfl rfl kz) ?_
  show Go p.tables e below P (T1.setTop (mkF m 7 #[oR tr, oJ key, oS, oR lv] [(.ref lv), (.long key), .null, (.ref tr)]))
  obtain ⟨v2, T2, L2, X2, Q2, st2⟩ := Con.static (own_rmp0 l Z a0 hw [] key lv wv h0 n0 Z0 E_lv G_lv F_lv_quantity) X1 hx hZ (W := 1) hown (own_g hw 33 rfl) (own_g hw 34 rfl) (own_g hw 16 rfl) (own_g hw 35 rfl) (by decide) (by decide) (by decide) (by decide) (by decide) e1 (g := (mkF m 7 #[oR tr, oJ key, oS, oR lv] [(.ref lv), (.long key), .null, (.ref tr)])) rfl (by rw [hml]; rfl) (argsL := [.null, (.long key), (.ref lv)]) (rest := [(.ref tr)]) rfl (lenOf own_pd_6 rfl) rfl (by show 2 * 0 + _ ≤ _; exact Nat.le_of_eq rfl) (hb hby own_d5_7)
  obtain ⟨H2, e2⟩ : ∃ z, T2.heap = z := ⟨_, rfl⟩
  rw [e2] at Q2
  obtain ⟨d2, rfl, Nq2, Kq2, Fp2_0, Fp2_1, Fp2_2, Fp2_3, Fp2_4, Fp2_5, Fp2_6, Fp2_7⟩ := Q2
  have N2 := Fr.app N0 Nq2
  have ntrd2 : tr ≠ d2 := Nat.ne_of_lt (Nat.lt_of_lt_of_le E_tr.lt Fp2_0)
  have nlvd2 : lv ≠ d2 := Nat.ne_of_lt (Nat.lt_of_lt_of_le E_lv.lt Fp2_0)
  have G_d2 : n0 ≤ d2 := Nat.le_trans Z0 Fp2_0
  have SZ_d2 : h0.size ≤ d2 := Nat.le_trans (Keep.refl h0 [tr]).1 Fp2_0
  have Zs2 := Nat.le_trans Z0 Kq2.1
  have f3 := Exa.keep E_tr Kq2
  have f4 := Fld.keep F_tr_root Kq2 nin0
  have f5 := Fld.keep F_tr_size Kq2 nin0
  have f6 := Exa.keep E_lv Kq2
  have f7 := Fld.keep F_lv_quantity Kq2 nin0
  have K2 := (Keep.refl h0 [tr]).trans Kq2 all0
  refine Go.s (fun {t} => st2) ?_
  show Go p.tables e below P (T2.setTop (mkF m 10 #[oR tr, oJ key, oS, oR lv] [(.ref d2), (.ref tr)]))
  obtain ⟨T8, H8, X8, e8, W8, st8⟩ := putF X2 hx hZ hown (host := "") (Or.inl (own_g hw 26 rfl)) Via.refl e2 f4 f3 (Or.inl (own_g hw 27 rfl)) (own_g hw 15 rfl) (ty := (.object oN)) (by decide) rfl rfl (g := (mkF m 10 #[oR tr, oJ key, oS, oR lv] [(.ref d2), (.ref tr)])) rfl rfl (hb hby own_d5_10)
  refine Go.s (fun {t} => st8 t) ?_
  have Fw8 := Fld.same W8 f4
  have f9 := Exa.wr W8 f3
  have f11 := Fld.other W8 f5 (Or.inr (slot_ne (Or.inl (own_g hw 54 rfl)) (Or.inl (own_g hw 27 rfl)) (by decide) (t := .int) (t' := (.object oN)) (by decide) (by decide)))
  have f12 := Exa.wr W8 f6
  have f13 := Fld.other W8 f7 (Or.inl (Ne.symm ne_tr_lv))
  have f14 := Exa.wr W8 Fp2_1
  have f15 := Fld.other W8 Fp2_2 (Or.inl (Ne.symm ntrd2))
  have f16 := Fld.other W8 Fp2_3 (Or.inl (Ne.symm ntrd2))
  have f17 := Fld.other W8 Fp2_4 (Or.inl (Ne.symm ntrd2))
  have f18 := Fld.other W8 Fp2_5 (Or.inl (Ne.symm ntrd2))
  have f19 := Fld.other W8 Fp2_6 (Or.inl (Ne.symm ntrd2))
  have f20 := Fld.other W8 Fp2_7 (Or.inl (Ne.symm ntrd2))
  have N8 := Fr.snoc X8 N2 G_tr
  have Zs8 := Nat.le_trans Zs2 (Keep.of_wr W8).1
  have K8 : Keep h0 H8 [tr] := K2.wr W8 (Or.inl (List.mem_of_getElem? (i := 0) rfl))
  refine Go.s (fun kz => XS.aloadN X8.here hx rfl (hb hby own_d5_13) rfl rfl kz) ?_
  refine Go.s (fun kz => XS.dup X8.here hx rfl (hb hby own_d5_14) rfl rfl kz) ?_
  show Go p.tables e below P (T8.setTop (mkF m 15 #[oR tr, oJ key, oS, oR lv] [(.ref tr), (.ref tr)]))
  obtain ⟨T21, X21, e21, st21⟩ := getF X8 hx hZ hown (host := "") (Or.inl (own_g hw 53 rfl)) Via.refl e8 f11 (g := (mkF m 15 #[oR tr, oJ key, oS, oR lv] [(.ref tr), (.ref tr)])) rfl rfl (hb hby own_d5_15)
  refine Go.s (fun {t} => st21 t) ?_
  refine Go.s (fun kz => XS.iconst X21.here hx rfl (hb hby own_d5_18) kz) ?_
  refine Go.s (fun kz => XS.iadd X21.here hx rfl (hb hby own_d5_19) rfl kz) ?_
  show Go p.tables e below P (T21.setTop (mkF m 20 #[oR tr, oJ key, oS, oR lv] [(.int (sz + (1 : Int32))), (.ref tr)]))
  obtain ⟨T22, H22, X22, e22, W22, st22⟩ := putF X21 hx hZ hown (host := "") (Or.inl (own_g hw 53 rfl)) Via.refl e21 f11 f9 (Or.inl (own_g hw 54 rfl)) (own_g hw 15 rfl) (ty := .int) (by decide) rfl rfl (g := (mkF m 20 #[oR tr, oJ key, oS, oR lv] [(.int (sz + (1 : Int32))), (.ref tr)])) rfl rfl (hb hby own_d5_20)
  refine Go.s (fun {t} => st22 t) ?_
  have Fw22 := Fld.same W22 f11
  have f23 := Exa.wr W22 f9
  have f25 := Exa.wr W22 f12
  have f26 := Fld.other W22 f13 (Or.inl (Ne.symm ne_tr_lv))
  have f27 := Exa.wr W22 f14
  have f28 := Fld.other W22 f15 (Or.inl (Ne.symm ntrd2))
  have f29 := Fld.other W22 f16 (Or.inl (Ne.symm ntrd2))
  have f30 := Fld.other W22 f17 (Or.inl (Ne.symm ntrd2))
  have f31 := Fld.other W22 f18 (Or.inl (Ne.symm ntrd2))
  have f32 := Fld.other W22 f19 (Or.inl (Ne.symm ntrd2))
  have f33 := Fld.other W22 f20 (Or.inl (Ne.symm ntrd2))
  have f34 := Fld.other W22 Fw8 (Or.inr (slot_ne (Or.inl (own_g hw 27 rfl)) (Or.inl (own_g hw 54 rfl)) (by decide) (t := (.object oN)) (t' := .int) (by decide) (by decide)))
  have N22 := Fr.snoc X22 N8 G_tr
  have Zs22 := Nat.le_trans Zs8 (Keep.of_wr W22).1
  have K22 : Keep h0 H22 [tr] := K8.wr W22 (Or.inl (List.mem_of_getElem? (i := 0) rfl))
  show Go p.tables e below P (T22.setTop (mkF m 23 #[oR tr, oJ key, oS, oR lv] []))
  exact Go.retV X22 hx hlk hret (hb hby own_d5_23) (fun U hU hF => hP U _ _ (by rw [hU, e22]; exact ⟨d2, rfl, N22, K22, f34, Fw22, SZ_d2, f27, f28, f29, f30, f31, f32, f33⟩) ⟨hF.1, hF.2.1, hF.2.2.mono (by decide) (by decide)⟩)
theorem own_efjpr (m : MethodId) (tr : Addr) (key : Int64) (lv : Addr) : entryFrame m #[(.ref tr), (.long key), (.ref lv)] 4 = mkF m 0 #[oR tr, oJ key, oS, oR lv] [] := by
  (first | (simp [entryFrame, mkF, argsToLocals, Value.category]; done) | rfl)
set_option maxRecDepth 65536 in
set_option maxHeartbeats 40000000 in
theorem own_rmjpr (l : Launch) (Z : State) (a0 : Array Value) (hw : ∀ d ∈ tables_1, d.before a0 Z = true) (ws : List Jvm.Cond) (tr : Nat) (key : Int64) (lv : Nat) (a : Nat) (sz : Int32) (ka : Int64) (la : Nat) (vl : Value) (ta : Int32) (qa : Int64) (wa : Int64) (wv : Int64) (tvl : Int32) (qvl : Int64) (h0 : Heap) (n0 : Nat) (Z0 : n0 ≤ h0.size) (HQ_vl : HQ Z h0 vl tvl qvl) (E_tr : Exa Z h0 tr oT) (G_tr : n0 ≤ tr) (F_tr_root : Fld Z h0 tr oT "root" oNd (.ref a)) (F_tr_size : Fld Z h0 tr oT "size" "I" (.int sz)) (E_a : Exa Z h0 a oN) (G_a : n0 ≤ a) (F_a_key : Fld Z h0 a oN "key" "J" (.long ka)) (F_a_level : Fld Z h0 a oN "level" oLd (.ref la)) (F_a_left : Fld Z h0 a oN "left" oNd vl) (F_a_right : Fld Z h0 a oN "right" oNd .null) (F_a_height : Fld Z h0 a oN "height" "I" (.int ta)) (F_a_quantity : Fld Z h0 a oN "quantity" "J" (.long qa)) (E_la : Exa Z h0 la oL) (G_la : n0 ≤ la) (F_la_quantity : Fld Z h0 la oL "quantity" "J" (.long wa)) (E_lv : Exa Z h0 lv oL) (G_lv : n0 ≤ lv) (F_lv_quantity : Fld Z h0 lv oL "quantity" "J" (.long wv)) (ne_tr_a : tr ≠ a) (ne_tr_la : tr ≠ la) (ne_tr_lv : tr ≠ lv) (ne_a_la : a ≠ la) (ne_a_lv : a ≠ lv) (ne_la_lv : la ≠ lv) (nv_vl_tr : vl ≠ .ref tr) (nv_vl_a : vl ≠ .ref a) (nv_vl_la : vl ≠ .ref la) (nv_vl_lv : vl ≠ .ref lv) (hk : ¬ key < ka) (hb1 : ¬ (1 : Int32) < (tvl - (1 : Int32))) (hb2 : ¬ (tvl - (1 : Int32)) < (-1 : Int32)) :
    Con l Z (⟨oT, "put", "(JLcom/example/rotunda/rotunda/BookSide$Level;)V"⟩ : MethodName) prog_29_method_5_code 4 none ws ({ frames := 5, cells := 1, slots := 6, locals := 76 } : Room) #[(.ref tr), (.long key), (.ref lv)] h0 (fun v h L => ∃ d2 : Nat, v = none ∧ Fr n0 L ∧ Keep h0 h [tr, a] ∧ Fld Z h tr oT "root" oNd (.ref a) ∧ Fld Z h tr oT "size" "I" (.int (sz + (1 : Int32))) ∧ Fld Z h a oN "height" "I" (.int ((own_f11 tvl (1 : Int32)) + (1 : Int32))) ∧ Fld Z h a oN "key" "J" (.long ka) ∧ Fld Z h a oN "left" oNd vl ∧ Fld Z h a oN "level" oLd (.ref la) ∧ Fld Z h a oN "quantity" "J" (.long ((qvl + wa) + wv)) ∧ Fld Z h a oN "right" oNd (.ref d2) ∧ h0.size ≤ d2 ∧ Exa Z h d2 oN ∧ Fld Z h d2 oN "height" "I" (.int (1 : Int32)) ∧ Fld Z h d2 oN "key" "J" (.long key) ∧ Fld Z h d2 oN "left" oNd .null ∧ Fld Z h d2 oN "level" oLd (.ref lv) ∧ Fld Z h d2 oN "quantity" "J" (.long wv) ∧ Fld Z h d2 oN "right" oNd .null) := by
  refine Con.intro (plainFor_of_name own_pn_0) ?_
  intro p e s m below meth c s₁ P hx hby hml hown hnm hret hlk hZ X0 e0 hP
  have N0 := Fr.nil n0
  have hown : s.vm.findClass oT = some m.cls := hown
  refine Go.cast (own_efjpr m tr key lv) ?_
  show Go p.tables e below P (s₁.setTop (mkF m 0 #[oR tr, oJ key, oS, oR lv] []))
  refine Go.s (fun kz => XS.aloadN X0.here hx rfl (hb hby own_d5_0) rfl rfl kz) ?_
  refine Go.s (fun kz => XS.aloadN X0.here hx rfl (hb hby own_d5_1) rfl rfl kz) ?_
  show Go p.tables e below P (s₁.setTop (mkF m 2 #[oR tr, oJ key, oS, oR lv] [(.ref tr), (.ref tr)]))
  obtain ⟨T1, X1, e1, st1⟩ := getF X0 hx hZ hown (host := "") (Or.inl (own_g hw 26 rfl)) Via.refl e0 F_tr_root (g := (mkF m 2 #[oR tr, oJ key, oS, oR lv] [(.ref tr), (.ref tr)])) rfl rfl (hb hby own_d5_2)
  refine Go.s (fun {t} => st1 t) ?_
  refine Go.s (fun kz => XT.lloadN X1.here hx rfl (hb hby own_d5_5) rfl kz) ?_
  refine Go.s (fun kz => XS.aloadN X1.here hx rfl (hb hby own_d5_6) rfl rfl kz) ?_
  show Go p.tables e below P (T1.setTop (mkF m 7 #[oR tr, oJ key, oS, oR lv] [(.ref lv), (.long key), (.ref a), (.ref tr)]))
  obtain ⟨v2, T2, L2, X2, Q2, st2⟩ := Con.static (own_rmpr l Z a0 hw [] a key lv ka la vl ta qa wa wv tvl qvl h0 n0 Z0 HQ_vl E_a G_a F_a_key F_a_level F_a_left F_a_right F_a_height F_a_quantity E_la G_la F_la_quantity E_lv G_lv F_lv_quantity ne_a_la ne_a_lv ne_la_lv nv_vl_a nv_vl_la nv_vl_lv hk hb1 hb2) X1 hx hZ (W := 1) hown (own_g hw 33 rfl) (own_g hw 34 rfl) (own_g hw 16 rfl) (own_g hw 35 rfl) (by decide) (by decide) (by decide) (by decide) (by decide) e1 (g := (mkF m 7 #[oR tr, oJ key, oS, oR lv] [(.ref lv), (.long key), (.ref a), (.ref tr)])) rfl (by rw [hml]; rfl) (argsL := [(.ref a), (.long key), (.ref lv)]) (rest := [(.ref tr)]) rfl (lenOf own_pd_6 rfl) rfl (by show 2 * 0 + _ ≤ _; exact Nat.le_of_eq rfl) (hb hby own_d5_7)
  obtain ⟨H2, e2⟩ : ∃ z, T2.heap = z := ⟨_, rfl⟩
  rw [e2] at Q2
  obtain ⟨d2, rfl, Nq2, Kq2, Fp2_0, Fp2_1, Fp2_2, Fp2_3, Fp2_4, Fp2_5, Fp2_6, Fp2_7, Fp2_8, Fp2_9, Fp2_10, Fp2_11, Fp2_12, Fp2_13⟩ := Q2
  have N2 := Fr.app N0 Nq2
  have ntrd2 : tr ≠ d2 := Nat.ne_of_lt (Nat.lt_of_lt_of_le E_tr.lt Fp2_6)
  have nad2 : a ≠ d2 := Nat.ne_of_lt (Nat.lt_of_lt_of_le E_a.lt Fp2_6)
  have nlad2 : la ≠ d2 := Nat.ne_of_lt (Nat.lt_of_lt_of_le E_la.lt Fp2_6)
  have nlvd2 : lv ≠ d2 := Nat.ne_of_lt (Nat.lt_of_lt_of_le E_lv.lt Fp2_6)
  have nv_vl_d2 : vl ≠ .ref d2 := own_vlt HQ_vl Fp2_6
  have G_d2 : n0 ≤ d2 := Nat.le_trans Z0 Fp2_6
  have SZ_d2 : h0.size ≤ d2 := Nat.le_trans (Keep.refl h0 [tr, a]).1 Fp2_6
  have Zs2 := Nat.le_trans Z0 Kq2.1
  have f3 := Exa.keep E_tr Kq2
  have f4 := Fld.keep F_tr_root Kq2 (ninS ne_tr_a nin0)
  have f5 := Fld.keep F_tr_size Kq2 (ninS ne_tr_a nin0)
  have f6 := Exa.keep E_a Kq2
  have f13 := Exa.keep E_la Kq2
  have f14 := Fld.keep F_la_quantity Kq2 (ninS (Ne.symm ne_a_la) nin0)
  have f15 := Exa.keep E_lv Kq2
  have f16 := Fld.keep F_lv_quantity Kq2 (ninS (Ne.symm ne_a_lv) nin0)
  have Q17 := HQ.keep HQ_vl Kq2 (allS nv_vl_a all0)
  have K2 := (Keep.refl h0 [tr, a]).trans Kq2 (allS (Or.inl (List.mem_of_getElem? (i := 1) rfl)) all0)
  refine Go.s (fun {t} => st2) ?_
  show Go p.tables e below P (T2.setTop (mkF m 10 #[oR tr, oJ key, oS, oR lv] [(.ref a), (.ref tr)]))
  obtain ⟨T18, H18, X18, e18, W18, st18⟩ := putF X2 hx hZ hown (host := "") (Or.inl (own_g hw 26 rfl)) Via.refl e2 f4 f3 (Or.inl (own_g hw 27 rfl)) (own_g hw 15 rfl) (ty := (.object oN)) (by decide) rfl rfl (g := (mkF m 10 #[oR tr, oJ key, oS, oR lv] [(.ref a), (.ref tr)])) rfl rfl (hb hby own_d5_10)
  refine Go.s (fun {t} => st18 t) ?_
  have Fw18 := Fld.same W18 f4
  have f19 := Exa.wr W18 f3
  have f21 := Fld.other W18 f5 (Or.inr (slot_ne (Or.inl (own_g hw 54 rfl)) (Or.inl (own_g hw 27 rfl)) (by decide) (t := .int) (t' := (.object oN)) (by decide) (by decide)))
  have f22 := Exa.wr W18 f6
  have f23 := Exa.wr W18 f13
  have f24 := Fld.other W18 f14 (Or.inl (Ne.symm ne_tr_la))
  have f25 := Exa.wr W18 f15
  have f26 := Fld.other W18 f16 (Or.inl (Ne.symm ne_tr_lv))
  have f27 := Fld.other W18 Fp2_0 (Or.inl (Ne.symm ne_tr_a))
  have f28 := Fld.other W18 Fp2_1 (Or.inl (Ne.symm ne_tr_a))
  have f29 := Fld.other W18 Fp2_2 (Or.inl (Ne.symm ne_tr_a))
  have f30 := Fld.other W18 Fp2_3 (Or.inl (Ne.symm ne_tr_a))
  have f31 := Fld.other W18 Fp2_4 (Or.inl (Ne.symm ne_tr_a))
  have f32 := Fld.other W18 Fp2_5 (Or.inl (Ne.symm ne_tr_a))
  have f33 := Exa.wr W18 Fp2_7
  have f34 := Fld.other W18 Fp2_8 (Or.inl (Ne.symm ntrd2))
  have f35 := Fld.other W18 Fp2_9 (Or.inl (Ne.symm ntrd2))
  have f36 := Fld.other W18 Fp2_10 (Or.inl (Ne.symm ntrd2))
  have f37 := Fld.other W18 Fp2_11 (Or.inl (Ne.symm ntrd2))
  have f38 := Fld.other W18 Fp2_12 (Or.inl (Ne.symm ntrd2))
  have f39 := Fld.other W18 Fp2_13 (Or.inl (Ne.symm ntrd2))
  have Q40 := HQ.other Q17 W18 nv_vl_tr
  have N18 := Fr.snoc X18 N2 G_tr
  have Zs18 := Nat.le_trans Zs2 (Keep.of_wr W18).1
  have K18 : Keep h0 H18 [tr, a] := K2.wr W18 (Or.inl (List.mem_of_getElem? (i := 0) rfl))
  refine Go.s (fun kz => XS.aloadN X18.here hx rfl (hb hby own_d5_13) rfl rfl kz) ?_
  refine Go.s (fun kz => XS.dup X18.here hx rfl (hb hby own_d5_14) rfl rfl kz) ?_
  show Go p.tables e below P (T18.setTop (mkF m 15 #[oR tr, oJ key, oS, oR lv] [(.ref tr), (.ref tr)]))
  obtain ⟨T41, X41, e41, st41⟩ := getF X18 hx hZ hown (host := "") (Or.inl (own_g hw 53 rfl)) Via.refl e18 f21 (g := (mkF m 15 #[oR tr, oJ key, oS, oR lv] [(.ref tr), (.ref tr)])) rfl rfl (hb hby own_d5_15)
  refine Go.s (fun {t} => st41 t) ?_
  refine Go.s (fun kz => XS.iconst X41.here hx rfl (hb hby own_d5_18) kz) ?_
  refine Go.s (fun kz => XS.iadd X41.here hx rfl (hb hby own_d5_19) rfl kz) ?_
  show Go p.tables e below P (T41.setTop (mkF m 20 #[oR tr, oJ key, oS, oR lv] [(.int (sz + (1 : Int32))), (.ref tr)]))
  obtain ⟨T42, H42, X42, e42, W42, st42⟩ := putF X41 hx hZ hown (host := "") (Or.inl (own_g hw 53 rfl)) Via.refl e41 f21 f19 (Or.inl (own_g hw 54 rfl)) (own_g hw 15 rfl) (ty := .int) (by decide) rfl rfl (g := (mkF m 20 #[oR tr, oJ key, oS, oR lv] [(.int (sz + (1 : Int32))), (.ref tr)])) rfl rfl (hb hby own_d5_20)
  refine Go.s (fun {t} => st42 t) ?_
  have Fw42 := Fld.same W42 f21
  have f43 := Exa.wr W42 f19
  have f45 := Exa.wr W42 f22
  have f46 := Exa.wr W42 f23
  have f47 := Fld.other W42 f24 (Or.inl (Ne.symm ne_tr_la))
  have f48 := Exa.wr W42 f25
  have f49 := Fld.other W42 f26 (Or.inl (Ne.symm ne_tr_lv))
  have f50 := Fld.other W42 f27 (Or.inl (Ne.symm ne_tr_a))
  have f51 := Fld.other W42 f28 (Or.inl (Ne.symm ne_tr_a))
  have f52 := Fld.other W42 f29 (Or.inl (Ne.symm ne_tr_a))
  have f53 := Fld.other W42 f30 (Or.inl (Ne.symm ne_tr_a))
  have f54 := Fld.other W42 f31 (Or.inl (Ne.symm ne_tr_a))
  have f55 := Fld.other W42 f32 (Or.inl (Ne.symm ne_tr_a))
  have f56 := Exa.wr W42 f33
  have f57 := Fld.other W42 f34 (Or.inl (Ne.symm ntrd2))
  have f58 := Fld.other W42 f35 (Or.inl (Ne.symm ntrd2))
  have f59 := Fld.other W42 f36 (Or.inl (Ne.symm ntrd2))
  have f60 := Fld.other W42 f37 (Or.inl (Ne.symm ntrd2))
  have f61 := Fld.other W42 f38 (Or.inl (Ne.symm ntrd2))
  have f62 := Fld.other W42 f39 (Or.inl (Ne.symm ntrd2))
  have f63 := Fld.other W42 Fw18 (Or.inr (slot_ne (Or.inl (own_g hw 27 rfl)) (Or.inl (own_g hw 54 rfl)) (by decide) (t := (.object oN)) (t' := .int) (by decide) (by decide)))
  have Q64 := HQ.other Q40 W42 nv_vl_tr
  have N42 := Fr.snoc X42 N18 G_tr
  have Zs42 := Nat.le_trans Zs18 (Keep.of_wr W42).1
  have K42 : Keep h0 H42 [tr, a] := K18.wr W42 (Or.inl (List.mem_of_getElem? (i := 0) rfl))
  show Go p.tables e below P (T42.setTop (mkF m 23 #[oR tr, oJ key, oS, oR lv] []))
  exact Go.retV X42 hx hlk hret (hb hby own_d5_23) (fun U hU hF => hP U _ _ (by rw [hU, e42]; exact ⟨d2, rfl, N42, K42, f63, Fw42, f50, f51, f52, f53, f54, f55, SZ_d2, f56, f57, f58, f59, f60, f61, f62⟩) ⟨hF.1, hF.2.1, hF.2.2.mono (by decide) (by decide)⟩)
theorem own_efjpl (m : MethodId) (tr : Addr) (key : Int64) (lv : Addr) : entryFrame m #[(.ref tr), (.long key), (.ref lv)] 4 = mkF m 0 #[oR tr, oJ key, oS, oR lv] [] := by
  (first | (simp [entryFrame, mkF, argsToLocals, Value.category]; done) | rfl)
set_option maxRecDepth 65536 in
set_option maxHeartbeats 40000000 in
theorem own_rmjpl (l : Launch) (Z : State) (a0 : Array Value) (hw : ∀ d ∈ tables_1, d.before a0 Z = true) (ws : List Jvm.Cond) (tr : Nat) (key : Int64) (lv : Nat) (a : Nat) (sz : Int32) (ka : Int64) (la : Nat) (vr : Value) (ta : Int32) (qa : Int64) (wa : Int64) (wv : Int64) (tvr : Int32) (qvr : Int64) (h0 : Heap) (n0 : Nat) (Z0 : n0 ≤ h0.size) (HQ_vr : HQ Z h0 vr tvr qvr) (E_tr : Exa Z h0 tr oT) (G_tr : n0 ≤ tr) (F_tr_root : Fld Z h0 tr oT "root" oNd (.ref a)) (F_tr_size : Fld Z h0 tr oT "size" "I" (.int sz)) (E_a : Exa Z h0 a oN) (G_a : n0 ≤ a) (F_a_key : Fld Z h0 a oN "key" "J" (.long ka)) (F_a_level : Fld Z h0 a oN "level" oLd (.ref la)) (F_a_left : Fld Z h0 a oN "left" oNd .null) (F_a_right : Fld Z h0 a oN "right" oNd vr) (F_a_height : Fld Z h0 a oN "height" "I" (.int ta)) (F_a_quantity : Fld Z h0 a oN "quantity" "J" (.long qa)) (E_la : Exa Z h0 la oL) (G_la : n0 ≤ la) (F_la_quantity : Fld Z h0 la oL "quantity" "J" (.long wa)) (E_lv : Exa Z h0 lv oL) (G_lv : n0 ≤ lv) (F_lv_quantity : Fld Z h0 lv oL "quantity" "J" (.long wv)) (ne_tr_a : tr ≠ a) (ne_tr_la : tr ≠ la) (ne_tr_lv : tr ≠ lv) (ne_a_la : a ≠ la) (ne_a_lv : a ≠ lv) (ne_la_lv : la ≠ lv) (nv_vr_tr : vr ≠ .ref tr) (nv_vr_a : vr ≠ .ref a) (nv_vr_la : vr ≠ .ref la) (nv_vr_lv : vr ≠ .ref lv) (hk : key < ka) (hb1 : ¬ (1 : Int32) < ((1 : Int32) - tvr)) (hb2 : ¬ ((1 : Int32) - tvr) < (-1 : Int32)) :
    Con l Z (⟨oT, "put", "(JLcom/example/rotunda/rotunda/BookSide$Level;)V"⟩ : MethodName) prog_29_method_5_code 4 none ws ({ frames := 5, cells := 1, slots := 6, locals := 76 } : Room) #[(.ref tr), (.long key), (.ref lv)] h0 (fun v h L => ∃ d2 : Nat, v = none ∧ Fr n0 L ∧ Keep h0 h [tr, a] ∧ Fld Z h tr oT "root" oNd (.ref a) ∧ Fld Z h tr oT "size" "I" (.int (sz + (1 : Int32))) ∧ Fld Z h a oN "height" "I" (.int ((own_f11 (1 : Int32) tvr) + (1 : Int32))) ∧ Fld Z h a oN "key" "J" (.long ka) ∧ Fld Z h a oN "left" oNd (.ref d2) ∧ Fld Z h a oN "level" oLd (.ref la) ∧ Fld Z h a oN "quantity" "J" (.long ((wv + wa) + qvr)) ∧ Fld Z h a oN "right" oNd vr ∧ h0.size ≤ d2 ∧ Exa Z h d2 oN ∧ Fld Z h d2 oN "height" "I" (.int (1 : Int32)) ∧ Fld Z h d2 oN "key" "J" (.long key) ∧ Fld Z h d2 oN "left" oNd .null ∧ Fld Z h d2 oN "level" oLd (.ref lv) ∧ Fld Z h d2 oN "quantity" "J" (.long wv) ∧ Fld Z h d2 oN "right" oNd .null) := by
  refine Con.intro (plainFor_of_name own_pn_0) ?_
  intro p e s m below meth c s₁ P hx hby hml hown hnm hret hlk hZ X0 e0 hP
  have N0 := Fr.nil n0
  have hown : s.vm.findClass oT = some m.cls := hown
  refine Go.cast (own_efjpl m tr key lv) ?_
  show Go p.tables e below P (s₁.setTop (mkF m 0 #[oR tr, oJ key, oS, oR lv] []))
  refine Go.s (fun kz => XS.aloadN X0.here hx rfl (hb hby own_d5_0) rfl rfl kz) ?_
  refine Go.s (fun kz => XS.aloadN X0.here hx rfl (hb hby own_d5_1) rfl rfl kz) ?_
  show Go p.tables e below P (s₁.setTop (mkF m 2 #[oR tr, oJ key, oS, oR lv] [(.ref tr), (.ref tr)]))
  obtain ⟨T1, X1, e1, st1⟩ := getF X0 hx hZ hown (host := "") (Or.inl (own_g hw 26 rfl)) Via.refl e0 F_tr_root (g := (mkF m 2 #[oR tr, oJ key, oS, oR lv] [(.ref tr), (.ref tr)])) rfl rfl (hb hby own_d5_2)
  refine Go.s (fun {t} => st1 t) ?_
  refine Go.s (fun kz => XT.lloadN X1.here hx rfl (hb hby own_d5_5) rfl kz) ?_
  refine Go.s (fun kz => XS.aloadN X1.here hx rfl (hb hby own_d5_6) rfl rfl kz) ?_
  show Go p.tables e below P (T1.setTop (mkF m 7 #[oR tr, oJ key, oS, oR lv] [(.ref lv), (.long key), (.ref a), (.ref tr)]))
  obtain ⟨v2, T2, L2, X2, Q2, st2⟩ := Con.static (own_rmpl l Z a0 hw [] a key lv ka la vr ta qa wa wv tvr qvr h0 n0 Z0 HQ_vr E_a G_a F_a_key F_a_level F_a_left F_a_right F_a_height F_a_quantity E_la G_la F_la_quantity E_lv G_lv F_lv_quantity ne_a_la ne_a_lv ne_la_lv nv_vr_a nv_vr_la nv_vr_lv hk hb1 hb2) X1 hx hZ (W := 1) hown (own_g hw 33 rfl) (own_g hw 34 rfl) (own_g hw 16 rfl) (own_g hw 35 rfl) (by decide) (by decide) (by decide) (by decide) (by decide) e1 (g := (mkF m 7 #[oR tr, oJ key, oS, oR lv] [(.ref lv), (.long key), (.ref a), (.ref tr)])) rfl (by rw [hml]; rfl) (argsL := [(.ref a), (.long key), (.ref lv)]) (rest := [(.ref tr)]) rfl (lenOf own_pd_6 rfl) rfl (by show 2 * 0 + _ ≤ _; exact Nat.le_of_eq rfl) (hb hby own_d5_7)
  obtain ⟨H2, e2⟩ : ∃ z, T2.heap = z := ⟨_, rfl⟩
  rw [e2] at Q2
  obtain ⟨d2, rfl, Nq2, Kq2, Fp2_0, Fp2_1, Fp2_2, Fp2_3, Fp2_4, Fp2_5, Fp2_6, Fp2_7, Fp2_8, Fp2_9, Fp2_10, Fp2_11, Fp2_12, Fp2_13⟩ := Q2
  have N2 := Fr.app N0 Nq2
  have ntrd2 : tr ≠ d2 := Nat.ne_of_lt (Nat.lt_of_lt_of_le E_tr.lt Fp2_6)
  have nad2 : a ≠ d2 := Nat.ne_of_lt (Nat.lt_of_lt_of_le E_a.lt Fp2_6)
  have nlad2 : la ≠ d2 := Nat.ne_of_lt (Nat.lt_of_lt_of_le E_la.lt Fp2_6)
  have nlvd2 : lv ≠ d2 := Nat.ne_of_lt (Nat.lt_of_lt_of_le E_lv.lt Fp2_6)
  have nv_vr_d2 : vr ≠ .ref d2 := own_vlt HQ_vr Fp2_6
  have G_d2 : n0 ≤ d2 := Nat.le_trans Z0 Fp2_6
  have SZ_d2 : h0.size ≤ d2 := Nat.le_trans (Keep.refl h0 [tr, a]).1 Fp2_6
  have Zs2 := Nat.le_trans Z0 Kq2.1
  have f3 := Exa.keep E_tr Kq2
  have f4 := Fld.keep F_tr_root Kq2 (ninS ne_tr_a nin0)
  have f5 := Fld.keep F_tr_size Kq2 (ninS ne_tr_a nin0)
  have f6 := Exa.keep E_a Kq2
  have f13 := Exa.keep E_la Kq2
  have f14 := Fld.keep F_la_quantity Kq2 (ninS (Ne.symm ne_a_la) nin0)
  have f15 := Exa.keep E_lv Kq2
  have f16 := Fld.keep F_lv_quantity Kq2 (ninS (Ne.symm ne_a_lv) nin0)
  have Q17 := HQ.keep HQ_vr Kq2 (allS nv_vr_a all0)
  have K2 := (Keep.refl h0 [tr, a]).trans Kq2 (allS (Or.inl (List.mem_of_getElem? (i := 1) rfl)) all0)
  refine Go.s (fun {t} => st2) ?_
  show Go p.tables e below P (T2.setTop (mkF m 10 #[oR tr, oJ key, oS, oR lv] [(.ref a), (.ref tr)]))
  obtain ⟨T18, H18, X18, e18, W18, st18⟩ := putF X2 hx hZ hown (host := "") (Or.inl (own_g hw 26 rfl)) Via.refl e2 f4 f3 (Or.inl (own_g hw 27 rfl)) (own_g hw 15 rfl) (ty := (.object oN)) (by decide) rfl rfl (g := (mkF m 10 #[oR tr, oJ key, oS, oR lv] [(.ref a), (.ref tr)])) rfl rfl (hb hby own_d5_10)
  refine Go.s (fun {t} => st18 t) ?_
  have Fw18 := Fld.same W18 f4
  have f19 := Exa.wr W18 f3
  have f21 := Fld.other W18 f5 (Or.inr (slot_ne (Or.inl (own_g hw 54 rfl)) (Or.inl (own_g hw 27 rfl)) (by decide) (t := .int) (t' := (.object oN)) (by decide) (by decide)))
  have f22 := Exa.wr W18 f6
  have f23 := Exa.wr W18 f13
  have f24 := Fld.other W18 f14 (Or.inl (Ne.symm ne_tr_la))
  have f25 := Exa.wr W18 f15
  have f26 := Fld.other W18 f16 (Or.inl (Ne.symm ne_tr_lv))
  have f27 := Fld.other W18 Fp2_0 (Or.inl (Ne.symm ne_tr_a))
  have f28 := Fld.other W18 Fp2_1 (Or.inl (Ne.symm ne_tr_a))
  have f29 := Fld.other W18 Fp2_2 (Or.inl (Ne.symm ne_tr_a))
  have f30 := Fld.other W18 Fp2_3 (Or.inl (Ne.symm ne_tr_a))
  have f31 := Fld.other W18 Fp2_4 (Or.inl (Ne.symm ne_tr_a))
  have f32 := Fld.other W18 Fp2_5 (Or.inl (Ne.symm ne_tr_a))
  have f33 := Exa.wr W18 Fp2_7
  have f34 := Fld.other W18 Fp2_8 (Or.inl (Ne.symm ntrd2))
  have f35 := Fld.other W18 Fp2_9 (Or.inl (Ne.symm ntrd2))
  have f36 := Fld.other W18 Fp2_10 (Or.inl (Ne.symm ntrd2))
  have f37 := Fld.other W18 Fp2_11 (Or.inl (Ne.symm ntrd2))
  have f38 := Fld.other W18 Fp2_12 (Or.inl (Ne.symm ntrd2))
  have f39 := Fld.other W18 Fp2_13 (Or.inl (Ne.symm ntrd2))
  have Q40 := HQ.other Q17 W18 nv_vr_tr
  have N18 := Fr.snoc X18 N2 G_tr
  have Zs18 := Nat.le_trans Zs2 (Keep.of_wr W18).1
  have K18 : Keep h0 H18 [tr, a] := K2.wr W18 (Or.inl (List.mem_of_getElem? (i := 0) rfl))
  refine Go.s (fun kz => XS.aloadN X18.here hx rfl (hb hby own_d5_13) rfl rfl kz) ?_
  refine Go.s (fun kz => XS.dup X18.here hx rfl (hb hby own_d5_14) rfl rfl kz) ?_
  show Go p.tables e below P (T18.setTop (mkF m 15 #[oR tr, oJ key, oS, oR lv] [(.ref tr), (.ref tr)]))
  obtain ⟨T41, X41, e41, st41⟩ := getF X18 hx hZ hown (host := "") (Or.inl (own_g hw 53 rfl)) Via.refl e18 f21 (g := (mkF m 15 #[oR tr, oJ key, oS, oR lv] [(.ref tr), (.ref tr)])) rfl rfl (hb hby own_d5_15)
  refine Go.s (fun {t} => st41 t) ?_
  refine Go.s (fun kz => XS.iconst X41.here hx rfl (hb hby own_d5_18) kz) ?_
  refine Go.s (fun kz => XS.iadd X41.here hx rfl (hb hby own_d5_19) rfl kz) ?_
  show Go p.tables e below P (T41.setTop (mkF m 20 #[oR tr, oJ key, oS, oR lv] [(.int (sz + (1 : Int32))), (.ref tr)]))
  obtain ⟨T42, H42, X42, e42, W42, st42⟩ := putF X41 hx hZ hown (host := "") (Or.inl (own_g hw 53 rfl)) Via.refl e41 f21 f19 (Or.inl (own_g hw 54 rfl)) (own_g hw 15 rfl) (ty := .int) (by decide) rfl rfl (g := (mkF m 20 #[oR tr, oJ key, oS, oR lv] [(.int (sz + (1 : Int32))), (.ref tr)])) rfl rfl (hb hby own_d5_20)
  refine Go.s (fun {t} => st42 t) ?_
  have Fw42 := Fld.same W42 f21
  have f43 := Exa.wr W42 f19
  have f45 := Exa.wr W42 f22
  have f46 := Exa.wr W42 f23
  have f47 := Fld.other W42 f24 (Or.inl (Ne.symm ne_tr_la))
  have f48 := Exa.wr W42 f25
  have f49 := Fld.other W42 f26 (Or.inl (Ne.symm ne_tr_lv))
  have f50 := Fld.other W42 f27 (Or.inl (Ne.symm ne_tr_a))
  have f51 := Fld.other W42 f28 (Or.inl (Ne.symm ne_tr_a))
  have f52 := Fld.other W42 f29 (Or.inl (Ne.symm ne_tr_a))
  have f53 := Fld.other W42 f30 (Or.inl (Ne.symm ne_tr_a))
  have f54 := Fld.other W42 f31 (Or.inl (Ne.symm ne_tr_a))
  have f55 := Fld.other W42 f32 (Or.inl (Ne.symm ne_tr_a))
  have f56 := Exa.wr W42 f33
  have f57 := Fld.other W42 f34 (Or.inl (Ne.symm ntrd2))
  have f58 := Fld.other W42 f35 (Or.inl (Ne.symm ntrd2))
  have f59 := Fld.other W42 f36 (Or.inl (Ne.symm ntrd2))
  have f60 := Fld.other W42 f37 (Or.inl (Ne.symm ntrd2))
  have f61 := Fld.other W42 f38 (Or.inl (Ne.symm ntrd2))
  have f62 := Fld.other W42 f39 (Or.inl (Ne.symm ntrd2))
  have f63 := Fld.other W42 Fw18 (Or.inr (slot_ne (Or.inl (own_g hw 27 rfl)) (Or.inl (own_g hw 54 rfl)) (by decide) (t := (.object oN)) (t' := .int) (by decide) (by decide)))
  have Q64 := HQ.other Q40 W42 nv_vr_tr
  have N42 := Fr.snoc X42 N18 G_tr
  have Zs42 := Nat.le_trans Zs18 (Keep.of_wr W42).1
  have K42 : Keep h0 H42 [tr, a] := K18.wr W42 (Or.inl (List.mem_of_getElem? (i := 0) rfl))
  show Go p.tables e below P (T42.setTop (mkF m 23 #[oR tr, oJ key, oS, oR lv] []))
  exact Go.retV X42 hx hlk hret (hb hby own_d5_23) (fun U hU hF => hP U _ _ (by rw [hU, e42]; exact ⟨d2, rfl, N42, K42, f63, Fw42, f50, f51, f52, f53, f54, f55, SZ_d2, f56, f57, f58, f59, f60, f61, f62⟩) ⟨hF.1, hF.2.1, hF.2.2.mono (by decide) (by decide)⟩)
theorem own_efjprr (m : MethodId) (tr : Addr) (key : Int64) (lv : Addr) : entryFrame m #[(.ref tr), (.long key), (.ref lv)] 4 = mkF m 0 #[oR tr, oJ key, oS, oR lv] [] := by
  (first | (simp [entryFrame, mkF, argsToLocals, Value.category]; done) | rfl)
set_option maxRecDepth 65536 in
set_option maxHeartbeats 40000000 in
theorem own_rmjprr (l : Launch) (Z : State) (a0 : Array Value) (hw : ∀ d ∈ tables_1, d.before a0 Z = true) (ws : List Jvm.Cond) (tr : Nat) (key : Int64) (lv : Nat) (a : Nat) (sz : Int32) (ka : Int64) (la : Nat) (vl : Value) (ac : Nat) (ta : Int32) (qa : Int64) (kc : Int64) (lc : Nat) (qc : Int64) (wa : Int64) (wc : Int64) (wv : Int64) (tvl : Int32) (qvl : Int64) (h0 : Heap) (n0 : Nat) (Z0 : n0 ≤ h0.size) (HQ_vl : HQ Z h0 vl tvl qvl) (E_tr : Exa Z h0 tr oT) (G_tr : n0 ≤ tr) (F_tr_root : Fld Z h0 tr oT "root" oNd (.ref a)) (F_tr_size : Fld Z h0 tr oT "size" "I" (.int sz)) (E_a : Exa Z h0 a oN) (G_a : n0 ≤ a) (F_a_key : Fld Z h0 a oN "key" "J" (.long ka)) (F_a_level : Fld Z h0 a oN "level" oLd (.ref la)) (F_a_left : Fld Z h0 a oN "left" oNd vl) (F_a_right : Fld Z h0 a oN "right" oNd (.ref ac)) (F_a_height : Fld Z h0 a oN "height" "I" (.int ta)) (F_a_quantity : Fld Z h0 a oN "quantity" "J" (.long qa)) (E_ac : Exa Z h0 ac oN) (G_ac : n0 ≤ ac) (F_ac_key : Fld Z h0 ac oN "key" "J" (.long kc)) (F_ac_level : Fld Z h0 ac oN "level" oLd (.ref lc)) (F_ac_left : Fld Z h0 ac oN "left" oNd .null) (F_ac_right : Fld Z h0 ac oN "right" oNd .null) (F_ac_height : Fld Z h0 ac oN "height" "I" (.int (1 : Int32))) (F_ac_quantity : Fld Z h0 ac oN "quantity" "J" (.long qc)) (E_la : Exa Z h0 la oL) (G_la : n0 ≤ la) (F_la_quantity : Fld Z h0 la oL "quantity" "J" (.long wa)) (E_lc : Exa Z h0 lc oL) (G_lc : n0 ≤ lc) (F_lc_quantity : Fld Z h0 lc oL "quantity" "J" (.long wc)) (E_lv : Exa Z h0 lv oL) (G_lv : n0 ≤ lv) (F_lv_quantity : Fld Z h0 lv oL "quantity" "J" (.long wv)) (ne_tr_a : tr ≠ a) (ne_tr_ac : tr ≠ ac) (ne_tr_la : tr ≠ la) (ne_tr_lc : tr ≠ lc) (ne_tr_lv : tr ≠ lv) (ne_a_ac : a ≠ ac) (ne_a_la : a ≠ la) (ne_a_lc : a ≠ lc) (ne_a_lv : a ≠ lv) (ne_ac_la : ac ≠ la) (ne_ac_lc : ac ≠ lc) (ne_ac_lv : ac ≠ lv) (ne_la_lc : la ≠ lc) (ne_la_lv : la ≠ lv) (ne_lc_lv : lc ≠ lv) (nv_vl_tr : vl ≠ .ref tr) (nv_vl_a : vl ≠ .ref a) (nv_vl_ac : vl ≠ .ref ac) (nv_vl_la : vl ≠ .ref la) (nv_vl_lc : vl ≠ .ref lc) (nv_vl_lv : vl ≠ .ref lv) (hk : ¬ key < ka) (hk2 : ¬ key < kc) (hb1 : ¬ (1 : Int32) < (tvl - (2 : Int32))) (hb2 : ¬ (tvl - (2 : Int32)) < (-1 : Int32)) :
    Con l Z (⟨oT, "put", "(JLcom/example/rotunda/rotunda/BookSide$Level;)V"⟩ : MethodName) prog_29_method_5_code 4 none ws ({ frames := 5, cells := 1, slots := 6, locals := 76 } : Room) #[(.ref tr), (.long key), (.ref lv)] h0 (fun v h L => ∃ d2 : Nat, v = none ∧ Fr n0 L ∧ Keep h0 h [tr, a, ac] ∧ Fld Z h tr oT "root" oNd (.ref a) ∧ Fld Z h tr oT "size" "I" (.int (sz + (1 : Int32))) ∧ Fld Z h a oN "height" "I" (.int ((own_f11 tvl (2 : Int32)) + (1 : Int32))) ∧ Fld Z h a oN "key" "J" (.long ka) ∧ Fld Z h a oN "left" oNd vl ∧ Fld Z h a oN "level" oLd (.ref la) ∧ Fld Z h a oN "quantity" "J" (.long ((qvl + wa) + (((0 : Int64) + wc) + wv))) ∧ Fld Z h a oN "right" oNd (.ref ac) ∧ Fld Z h ac oN "height" "I" (.int (2 : Int32)) ∧ Fld Z h ac oN "key" "J" (.long kc) ∧ Fld Z h ac oN "left" oNd .null ∧ Fld Z h ac oN "level" oLd (.ref lc) ∧ Fld Z h ac oN "quantity" "J" (.long (((0 : Int64) + wc) + wv)) ∧ Fld Z h ac oN "right" oNd (.ref d2) ∧ h0.size ≤ d2 ∧ Exa Z h d2 oN ∧ Fld Z h d2 oN "height" "I" (.int (1 : Int32)) ∧ Fld Z h d2 oN "key" "J" (.long key) ∧ Fld Z h d2 oN "left" oNd .null ∧ Fld Z h d2 oN "level" oLd (.ref lv) ∧ Fld Z h d2 oN "quantity" "J" (.long wv) ∧ Fld Z h d2 oN "right" oNd .null) := by
  refine Con.intro (plainFor_of_name own_pn_0) ?_
  intro p e s m below meth c s₁ P hx hby hml hown hnm hret hlk hZ X0 e0 hP
  have N0 := Fr.nil n0
  have hown : s.vm.findClass oT = some m.cls := hown
  refine Go.cast (own_efjprr m tr key lv) ?_
  show Go p.tables e below P (s₁.setTop (mkF m 0 #[oR tr, oJ key, oS, oR lv] []))
  refine Go.s (fun kz => XS.aloadN X0.here hx rfl (hb hby own_d5_0) rfl rfl kz) ?_
  refine Go.s (fun kz => XS.aloadN X0.here hx rfl (hb hby own_d5_1) rfl rfl kz) ?_
  show Go p.tables e below P (s₁.setTop (mkF m 2 #[oR tr, oJ key, oS, oR lv] [(.ref tr), (.ref tr)]))
  obtain ⟨T1, X1, e1, st1⟩ := getF X0 hx hZ hown (host := "") (Or.inl (own_g hw 26 rfl)) Via.refl e0 F_tr_root (g := (mkF m 2 #[oR tr, oJ key, oS, oR lv] [(.ref tr), (.ref tr)])) rfl rfl (hb hby own_d5_2)
  refine Go.s (fun {t} => st1 t) ?_
  refine Go.s (fun kz => XT.lloadN X1.here hx rfl (hb hby own_d5_5) rfl kz) ?_
  refine Go.s (fun kz => XS.aloadN X1.here hx rfl (hb hby own_d5_6) rfl rfl kz) ?_
  show Go p.tables e below P (T1.setTop (mkF m 7 #[oR tr, oJ key, oS, oR lv] [(.ref lv), (.long key), (.ref a), (.ref tr)]))
  obtain ⟨v2, T2, L2, X2, Q2, st2⟩ := Con.static (own_rmprr l Z a0 hw [] a key lv ka la vl ac ta qa kc lc qc wa wc wv tvl qvl h0 n0 Z0 HQ_vl E_a G_a F_a_key F_a_level F_a_left F_a_right F_a_height F_a_quantity E_ac G_ac F_ac_key F_ac_level F_ac_left F_ac_right F_ac_height F_ac_quantity E_la G_la F_la_quantity E_lc G_lc F_lc_quantity E_lv G_lv F_lv_quantity ne_a_ac ne_a_la ne_a_lc ne_a_lv ne_ac_la ne_ac_lc ne_ac_lv ne_la_lc ne_la_lv ne_lc_lv nv_vl_a nv_vl_ac nv_vl_la nv_vl_lc nv_vl_lv hk hk2 hb1 hb2) X1 hx hZ (W := 1) hown (own_g hw 33 rfl) (own_g hw 34 rfl) (own_g hw 16 rfl) (own_g hw 35 rfl) (by decide) (by decide) (by decide) (by decide) (by decide) e1 (g := (mkF m 7 #[oR tr, oJ key, oS, oR lv] [(.ref lv), (.long key), (.ref a), (.ref tr)])) rfl (by rw [hml]; rfl) (argsL := [(.ref a), (.long key), (.ref lv)]) (rest := [(.ref tr)]) rfl (lenOf own_pd_6 rfl) rfl (by show 2 * 0 + _ ≤ _; exact Nat.le_of_eq rfl) (hb hby own_d5_7)
  obtain ⟨H2, e2⟩ : ∃ z, T2.heap = z := ⟨_, rfl⟩
  rw [e2] at Q2
  obtain ⟨d2, rfl, Nq2, Kq2, Fp2_0, Fp2_1, Fp2_2, Fp2_3, Fp2_4, Fp2_5, Fp2_6, Fp2_7, Fp2_8, Fp2_9, Fp2_10, Fp2_11, Fp2_12, Fp2_13, Fp2_14, Fp2_15, Fp2_16, Fp2_17, Fp2_18, Fp2_19⟩ := Q2
  have N2 := Fr.app N0 Nq2
  have ntrd2 : tr ≠ d2 := Nat.ne_of_lt (Nat.lt_of_lt_of_le E_tr.lt Fp2_12)
  have nad2 : a ≠ d2 := Nat.ne_of_lt (Nat.lt_of_lt_of_le E_a.lt Fp2_12)
  have nacd2 : ac ≠ d2 := Nat.ne_of_lt (Nat.lt_of_lt_of_le E_ac.lt Fp2_12)
  have nlad2 : la ≠ d2 := Nat.ne_of_lt (Nat.lt_of_lt_of_le E_la.lt Fp2_12)
  have nlcd2 : lc ≠ d2 := Nat.ne_of_lt (Nat.lt_of_lt_of_le E_lc.lt Fp2_12)
  have nlvd2 : lv ≠ d2 := Nat.ne_of_lt (Nat.lt_of_lt_of_le E_lv.lt Fp2_12)
  have nv_vl_d2 : vl ≠ .ref d2 := own_vlt HQ_vl Fp2_12
  have G_d2 : n0 ≤ d2 := Nat.le_trans Z0 Fp2_12
  have SZ_d2 : h0.size ≤ d2 := Nat.le_trans (Keep.refl h0 [tr, a, ac]).1 Fp2_12
  have Zs2 := Nat.le_trans Z0 Kq2.1
  have f3 := Exa.keep E_tr Kq2
  have f4 := Fld.keep F_tr_root Kq2 (ninS ne_tr_a (ninS ne_tr_ac nin0))
  have f5 := Fld.keep F_tr_size Kq2 (ninS ne_tr_a (ninS ne_tr_ac nin0))
  have f6 := Exa.keep E_a Kq2
  have f13 := Exa.keep E_ac Kq2
  have f20 := Exa.keep E_la Kq2
  have f21 := Fld.keep F_la_quantity Kq2 (ninS (Ne.symm ne_a_la) (ninS (Ne.symm ne_ac_la) nin0))
  have f22 := Exa.keep E_lc Kq2
  have f23 := Fld.keep F_lc_quantity Kq2 (ninS (Ne.symm ne_a_lc) (ninS (Ne.symm ne_ac_lc) nin0))
  have f24 := Exa.keep E_lv Kq2
  have f25 := Fld.keep F_lv_quantity Kq2 (ninS (Ne.symm ne_a_lv) (ninS (Ne.symm ne_ac_lv) nin0))
  have Q26 := HQ.keep HQ_vl Kq2 (allS nv_vl_a (allS nv_vl_ac all0))
  have K2 := (Keep.refl h0 [tr, a, ac]).trans Kq2 (allS (Or.inl (List.mem_of_getElem? (i := 1) rfl)) (allS (Or.inl (List.mem_of_getElem? (i := 2) rfl)) all0))
  refine Go.s (fun {t} => st2) ?_
  show Go p.tables e below P (T2.setTop (mkF m 10 #[oR tr, oJ key, oS, oR lv] [(.ref a), (.ref tr)]))
  obtain ⟨T27, H27, X27, e27, W27, st27⟩ := putF X2 hx hZ hown (host := "") (Or.inl (own_g hw 26 rfl)) Via.refl e2 f4 f3 (Or.inl (own_g hw 27 rfl)) (own_g hw 15 rfl) (ty := (.object oN)) (by decide) rfl rfl (g := (mkF m 10 #[oR tr, oJ key, oS, oR lv] [(.ref a), (.ref tr)])) rfl rfl (hb hby own_d5_10)
  refine Go.s (fun {t} => st27 t) ?_
  have Fw27 := Fld.same W27 f4
  have f28 := Exa.wr W27 f3
  have f30 := Fld.other W27 f5 (Or.inr (slot_ne (Or.inl (own_g hw 54 rfl)) (Or.inl (own_g hw 27 rfl)) (by decide) (t := .int) (t' := (.object oN)) (by decide) (by decide)))
  have f31 := Exa.wr W27 f6
  have f32 := Exa.wr W27 f13
  have f33 := Exa.wr W27 f20
  have f34 := Fld.other W27 f21 (Or.inl (Ne.symm ne_tr_la))
  have f35 := Exa.wr W27 f22
  have f36 := Fld.other W27 f23 (Or.inl (Ne.symm ne_tr_lc))
  have f37 := Exa.wr W27 f24
  have f38 := Fld.other W27 f25 (Or.inl (Ne.symm ne_tr_lv))
  have f39 := Fld.other W27 Fp2_0 (Or.inl (Ne.symm ne_tr_a))
  have f40 := Fld.other W27 Fp2_1 (Or.inl (Ne.symm ne_tr_a))
  have f41 := Fld.other W27 Fp2_2 (Or.inl (Ne.symm ne_tr_a))
  have f42 := Fld.other W27 Fp2_3 (Or.inl (Ne.symm ne_tr_a))
  have f43 := Fld.other W27 Fp2_4 (Or.inl (Ne.symm ne_tr_a))
  have f44 := Fld.other W27 Fp2_5 (Or.inl (Ne.symm ne_tr_a))
  have f45 := Fld.other W27 Fp2_6 (Or.inl (Ne.symm ne_tr_ac))
  have f46 := Fld.other W27 Fp2_7 (Or.inl (Ne.symm ne_tr_ac))
  have f47 := Fld.other W27 Fp2_8 (Or.inl (Ne.symm ne_tr_ac))
  have f48 := Fld.other W27 Fp2_9 (Or.inl (Ne.symm ne_tr_ac))
  have f49 := Fld.other W27 Fp2_10 (Or.inl (Ne.symm ne_tr_ac))
  have f50 := Fld.other W27 Fp2_11 (Or.inl (Ne.symm ne_tr_ac))
  have f51 := Exa.wr W27 Fp2_13
  have f52 := Fld.other W27 Fp2_14 (Or.inl (Ne.symm ntrd2))
  have f53 := Fld.other W27 Fp2_15 (Or.inl (Ne.symm ntrd2))
  have f54 := Fld.other W27 Fp2_16 (Or.inl (Ne.symm ntrd2))
  have f55 := Fld.other W27 Fp2_17 (Or.inl (Ne.symm ntrd2))
  have f56 := Fld.other W27 Fp2_18 (Or.inl (Ne.symm ntrd2))
  have f57 := Fld.other W27 Fp2_19 (Or.inl (Ne.symm ntrd2))
  have Q58 := HQ.other Q26 W27 nv_vl_tr
  have N27 := Fr.snoc X27 N2 G_tr
  have Zs27 := Nat.le_trans Zs2 (Keep.of_wr W27).1
  have K27 : Keep h0 H27 [tr, a, ac] := K2.wr W27 (Or.inl (List.mem_of_getElem? (i := 0) rfl))
  refine Go.s (fun kz => XS.aloadN X27.here hx rfl (hb hby own_d5_13) rfl rfl kz) ?_
  refine Go.s (fun kz => XS.dup X27.here hx rfl (hb hby own_d5_14) rfl rfl kz) ?_
  show Go p.tables e below P (T27.setTop (mkF m 15 #[oR tr, oJ key, oS, oR lv] [(.ref tr), (.ref tr)]))
  obtain ⟨T59, X59, e59, st59⟩ := getF X27 hx hZ hown (host := "") (Or.inl (own_g hw 53 rfl)) Via.refl e27 f30 (g := (mkF m 15 #[oR tr, oJ key, oS, oR lv] [(.ref tr), (.ref tr)])) rfl rfl (hb hby own_d5_15)
  refine Go.s (fun {t} => st59 t) ?_
  refine Go.s (fun kz => XS.iconst X59.here hx rfl (hb hby own_d5_18) kz) ?_
  refine Go.s (fun kz => XS.iadd X59.here hx rfl (hb hby own_d5_19) rfl kz) ?_
  show Go p.tables e below P (T59.setTop (mkF m 20 #[oR tr, oJ key, oS, oR lv] [(.int (sz + (1 : Int32))), (.ref tr)]))
  obtain ⟨T60, H60, X60, e60, W60, st60⟩ := putF X59 hx hZ hown (host := "") (Or.inl (own_g hw 53 rfl)) Via.refl e59 f30 f28 (Or.inl (own_g hw 54 rfl)) (own_g hw 15 rfl) (ty := .int) (by decide) rfl rfl (g := (mkF m 20 #[oR tr, oJ key, oS, oR lv] [(.int (sz + (1 : Int32))), (.ref tr)])) rfl rfl (hb hby own_d5_20)
  refine Go.s (fun {t} => st60 t) ?_
  have Fw60 := Fld.same W60 f30
  have f61 := Exa.wr W60 f28
  have f63 := Exa.wr W60 f31
  have f64 := Exa.wr W60 f32
  have f65 := Exa.wr W60 f33
  have f66 := Fld.other W60 f34 (Or.inl (Ne.symm ne_tr_la))
  have f67 := Exa.wr W60 f35
  have f68 := Fld.other W60 f36 (Or.inl (Ne.symm ne_tr_lc))
  have f69 := Exa.wr W60 f37
  have f70 := Fld.other W60 f38 (Or.inl (Ne.symm ne_tr_lv))
  have f71 := Fld.other W60 f39 (Or.inl (Ne.symm ne_tr_a))
  have f72 := Fld.other W60 f40 (Or.inl (Ne.symm ne_tr_a))
  have f73 := Fld.other W60 f41 (Or.inl (Ne.symm ne_tr_a))
  have f74 := Fld.other W60 f42 (Or.inl (Ne.symm ne_tr_a))
  have f75 := Fld.other W60 f43 (Or.inl (Ne.symm ne_tr_a))
  have f76 := Fld.other W60 f44 (Or.inl (Ne.symm ne_tr_a))
  have f77 := Fld.other W60 f45 (Or.inl (Ne.symm ne_tr_ac))
  have f78 := Fld.other W60 f46 (Or.inl (Ne.symm ne_tr_ac))
  have f79 := Fld.other W60 f47 (Or.inl (Ne.symm ne_tr_ac))
  have f80 := Fld.other W60 f48 (Or.inl (Ne.symm ne_tr_ac))
  have f81 := Fld.other W60 f49 (Or.inl (Ne.symm ne_tr_ac))
  have f82 := Fld.other W60 f50 (Or.inl (Ne.symm ne_tr_ac))
  have f83 := Exa.wr W60 f51
  have f84 := Fld.other W60 f52 (Or.inl (Ne.symm ntrd2))
  have f85 := Fld.other W60 f53 (Or.inl (Ne.symm ntrd2))
  have f86 := Fld.other W60 f54 (Or.inl (Ne.symm ntrd2))
  have f87 := Fld.other W60 f55 (Or.inl (Ne.symm ntrd2))
  have f88 := Fld.other W60 f56 (Or.inl (Ne.symm ntrd2))
  have f89 := Fld.other W60 f57 (Or.inl (Ne.symm ntrd2))
  have f90 := Fld.other W60 Fw27 (Or.inr (slot_ne (Or.inl (own_g hw 27 rfl)) (Or.inl (own_g hw 54 rfl)) (by decide) (t := (.object oN)) (t' := .int) (by decide) (by decide)))
  have Q91 := HQ.other Q58 W60 nv_vl_tr
  have N60 := Fr.snoc X60 N27 G_tr
  have Zs60 := Nat.le_trans Zs27 (Keep.of_wr W60).1
  have K60 : Keep h0 H60 [tr, a, ac] := K27.wr W60 (Or.inl (List.mem_of_getElem? (i := 0) rfl))
  show Go p.tables e below P (T60.setTop (mkF m 23 #[oR tr, oJ key, oS, oR lv] []))
  exact Go.retV X60 hx hlk hret (hb hby own_d5_23) (fun U hU hF => hP U _ _ (by rw [hU, e60]; exact ⟨d2, rfl, N60, K60, f90, Fw60, f71, f72, f73, f74, f75, f76, f77, f78, f79, f80, f81, f82, SZ_d2, f83, f84, f85, f86, f87, f88, f89⟩) ⟨hF.1, hF.2.1, hF.2.2.mono (by decide) (by decide)⟩)
theorem own_efjprl (m : MethodId) (tr : Addr) (key : Int64) (lv : Addr) : entryFrame m #[(.ref tr), (.long key), (.ref lv)] 4 = mkF m 0 #[oR tr, oJ key, oS, oR lv] [] := by
  (first | (simp [entryFrame, mkF, argsToLocals, Value.category]; done) | rfl)
set_option maxRecDepth 65536 in
set_option maxHeartbeats 40000000 in
theorem own_rmjprl (l : Launch) (Z : State) (a0 : Array Value) (hw : ∀ d ∈ tables_1, d.before a0 Z = true) (ws : List Jvm.Cond) (tr : Nat) (key : Int64) (lv : Nat) (a : Nat) (sz : Int32) (ka : Int64) (la : Nat) (vl : Value) (ac : Nat) (ta : Int32) (qa : Int64) (kc : Int64) (lc : Nat) (qc : Int64) (wa : Int64) (wc : Int64) (wv : Int64) (tvl : Int32) (qvl : Int64) (h0 : Heap) (n0 : Nat) (Z0 : n0 ≤ h0.size) (HQ_vl : HQ Z h0 vl tvl qvl) (E_tr : Exa Z h0 tr oT) (G_tr : n0 ≤ tr) (F_tr_root : Fld Z h0 tr oT "root" oNd (.ref a)) (F_tr_size : Fld Z h0 tr oT "size" "I" (.int sz)) (E_a : Exa Z h0 a oN) (G_a : n0 ≤ a) (F_a_key : Fld Z h0 a oN "key" "J" (.long ka)) (F_a_level : Fld Z h0 a oN "level" oLd (.ref la)) (F_a_left : Fld Z h0 a oN "left" oNd vl) (F_a_right : Fld Z h0 a oN "right" oNd (.ref ac)) (F_a_height : Fld Z h0 a oN "height" "I" (.int ta)) (F_a_quantity : Fld Z h0 a oN "quantity" "J" (.long qa)) (E_ac : Exa Z h0 ac oN) (G_ac : n0 ≤ ac) (F_ac_key : Fld Z h0 ac oN "key" "J" (.long kc)) (F_ac_level : Fld Z h0 ac oN "level" oLd (.ref lc)) (F_ac_left : Fld Z h0 ac oN "left" oNd .null) (F_ac_right : Fld Z h0 ac oN "right" oNd .null) (F_ac_height : Fld Z h0 ac oN "height" "I" (.int (1 : Int32))) (F_ac_quantity : Fld Z h0 ac oN "quantity" "J" (.long qc)) (E_la : Exa Z h0 la oL) (G_la : n0 ≤ la) (F_la_quantity : Fld Z h0 la oL "quantity" "J" (.long wa)) (E_lc : Exa Z h0 lc oL) (G_lc : n0 ≤ lc) (F_lc_quantity : Fld Z h0 lc oL "quantity" "J" (.long wc)) (E_lv : Exa Z h0 lv oL) (G_lv : n0 ≤ lv) (F_lv_quantity : Fld Z h0 lv oL "quantity" "J" (.long wv)) (ne_tr_a : tr ≠ a) (ne_tr_ac : tr ≠ ac) (ne_tr_la : tr ≠ la) (ne_tr_lc : tr ≠ lc) (ne_tr_lv : tr ≠ lv) (ne_a_ac : a ≠ ac) (ne_a_la : a ≠ la) (ne_a_lc : a ≠ lc) (ne_a_lv : a ≠ lv) (ne_ac_la : ac ≠ la) (ne_ac_lc : ac ≠ lc) (ne_ac_lv : ac ≠ lv) (ne_la_lc : la ≠ lc) (ne_la_lv : la ≠ lv) (ne_lc_lv : lc ≠ lv) (nv_vl_tr : vl ≠ .ref tr) (nv_vl_a : vl ≠ .ref a) (nv_vl_ac : vl ≠ .ref ac) (nv_vl_la : vl ≠ .ref la) (nv_vl_lc : vl ≠ .ref lc) (nv_vl_lv : vl ≠ .ref lv) (hk : ¬ key < ka) (hk2 : key < kc) (hb1 : ¬ (1 : Int32) < (tvl - (2 : Int32))) (hb2 : ¬ (tvl - (2 : Int32)) < (-1 : Int32)) :
    Con l Z (⟨oT, "put", "(JLcom/example/rotunda/rotunda/BookSide$Level;)V"⟩ : MethodName) prog_29_method_5_code 4 none ws ({ frames := 5, cells := 1, slots := 6, locals := 76 } : Room) #[(.ref tr), (.long key), (.ref lv)] h0 (fun v h L => ∃ d2 : Nat, v = none ∧ Fr n0 L ∧ Keep h0 h [tr, a, ac] ∧ Fld Z h tr oT "root" oNd (.ref a) ∧ Fld Z h tr oT "size" "I" (.int (sz + (1 : Int32))) ∧ Fld Z h a oN "height" "I" (.int ((own_f11 tvl (2 : Int32)) + (1 : Int32))) ∧ Fld Z h a oN "key" "J" (.long ka) ∧ Fld Z h a oN "left" oNd vl ∧ Fld Z h a oN "level" oLd (.ref la) ∧ Fld Z h a oN "quantity" "J" (.long ((qvl + wa) + ((wv + wc) + (0 : Int64)))) ∧ Fld Z h a oN "right" oNd (.ref ac) ∧ Fld Z h ac oN "height" "I" (.int (2 : Int32)) ∧ Fld Z h ac oN "key" "J" (.long kc) ∧ Fld Z h ac oN "left" oNd (.ref d2) ∧ Fld Z h ac oN "level" oLd (.ref lc) ∧ Fld Z h ac oN "quantity" "J" (.long ((wv + wc) + (0 : Int64))) ∧ Fld Z h ac oN "right" oNd .null ∧ h0.size ≤ d2 ∧ Exa Z h d2 oN ∧ Fld Z h d2 oN "height" "I" (.int (1 : Int32)) ∧ Fld Z h d2 oN "key" "J" (.long key) ∧ Fld Z h d2 oN "left" oNd .null ∧ Fld Z h d2 oN "level" oLd (.ref lv) ∧ Fld Z h d2 oN "quantity" "J" (.long wv) ∧ Fld Z h d2 oN "right" oNd .null) := by
  refine Con.intro (plainFor_of_name own_pn_0) ?_
  intro p e s m below meth c s₁ P hx hby hml hown hnm hret hlk hZ X0 e0 hP
  have N0 := Fr.nil n0
  have hown : s.vm.findClass oT = some m.cls := hown
  refine Go.cast (own_efjprl m tr key lv) ?_
  show Go p.tables e below P (s₁.setTop (mkF m 0 #[oR tr, oJ key, oS, oR lv] []))
  refine Go.s (fun kz => XS.aloadN X0.here hx rfl (hb hby own_d5_0) rfl rfl kz) ?_
  refine Go.s (fun kz => XS.aloadN X0.here hx rfl (hb hby own_d5_1) rfl rfl kz) ?_
  show Go p.tables e below P (s₁.setTop (mkF m 2 #[oR tr, oJ key, oS, oR lv] [(.ref tr), (.ref tr)]))
  obtain ⟨T1, X1, e1, st1⟩ := getF X0 hx hZ hown (host := "") (Or.inl (own_g hw 26 rfl)) Via.refl e0 F_tr_root (g := (mkF m 2 #[oR tr, oJ key, oS, oR lv] [(.ref tr), (.ref tr)])) rfl rfl (hb hby own_d5_2)
  refine Go.s (fun {t} => st1 t) ?_
  refine Go.s (fun kz => XT.lloadN X1.here hx rfl (hb hby own_d5_5) rfl kz) ?_
  refine Go.s (fun kz => XS.aloadN X1.here hx rfl (hb hby own_d5_6) rfl rfl kz) ?_
  show Go p.tables e below P (T1.setTop (mkF m 7 #[oR tr, oJ key, oS, oR lv] [(.ref lv), (.long key), (.ref a), (.ref tr)]))
  obtain ⟨v2, T2, L2, X2, Q2, st2⟩ := Con.static (own_rmprl l Z a0 hw [] a key lv ka la vl ac ta qa kc lc qc wa wc wv tvl qvl h0 n0 Z0 HQ_vl E_a G_a F_a_key F_a_level F_a_left F_a_right F_a_height F_a_quantity E_ac G_ac F_ac_key F_ac_level F_ac_left F_ac_right F_ac_height F_ac_quantity E_la G_la F_la_quantity E_lc G_lc F_lc_quantity E_lv G_lv F_lv_quantity ne_a_ac ne_a_la ne_a_lc ne_a_lv ne_ac_la ne_ac_lc ne_ac_lv ne_la_lc ne_la_lv ne_lc_lv nv_vl_a nv_vl_ac nv_vl_la nv_vl_lc nv_vl_lv hk hk2 hb1 hb2) X1 hx hZ (W := 1) hown (own_g hw 33 rfl) (own_g hw 34 rfl) (own_g hw 16 rfl) (own_g hw 35 rfl) (by decide) (by decide) (by decide) (by decide) (by decide) e1 (g := (mkF m 7 #[oR tr, oJ key, oS, oR lv] [(.ref lv), (.long key), (.ref a), (.ref tr)])) rfl (by rw [hml]; rfl) (argsL := [(.ref a), (.long key), (.ref lv)]) (rest := [(.ref tr)]) rfl (lenOf own_pd_6 rfl) rfl (by show 2 * 0 + _ ≤ _; exact Nat.le_of_eq rfl) (hb hby own_d5_7)
  obtain ⟨H2, e2⟩ : ∃ z, T2.heap = z := ⟨_, rfl⟩
  rw [e2] at Q2
  obtain ⟨d2, rfl, Nq2, Kq2, Fp2_0, Fp2_1, Fp2_2, Fp2_3, Fp2_4, Fp2_5, Fp2_6, Fp2_7, Fp2_8, Fp2_9, Fp2_10, Fp2_11, Fp2_12, Fp2_13, Fp2_14, Fp2_15, Fp2_16, Fp2_17, Fp2_18, Fp2_19⟩ := Q2
  have N2 := Fr.app N0 Nq2
  have ntrd2 : tr ≠ d2 := Nat.ne_of_lt (Nat.lt_of_lt_of_le E_tr.lt Fp2_12)
  have nad2 : a ≠ d2 := Nat.ne_of_lt (Nat.lt_of_lt_of_le E_a.lt Fp2_12)
  have nacd2 : ac ≠ d2 := Nat.ne_of_lt (Nat.lt_of_lt_of_le E_ac.lt Fp2_12)
  have nlad2 : la ≠ d2 := Nat.ne_of_lt (Nat.lt_of_lt_of_le E_la.lt Fp2_12)
  have nlcd2 : lc ≠ d2 := Nat.ne_of_lt (Nat.lt_of_lt_of_le E_lc.lt Fp2_12)
  have nlvd2 : lv ≠ d2 := Nat.ne_of_lt (Nat.lt_of_lt_of_le E_lv.lt Fp2_12)
  have nv_vl_d2 : vl ≠ .ref d2 := own_vlt HQ_vl Fp2_12
  have G_d2 : n0 ≤ d2 := Nat.le_trans Z0 Fp2_12
  have SZ_d2 : h0.size ≤ d2 := Nat.le_trans (Keep.refl h0 [tr, a, ac]).1 Fp2_12
  have Zs2 := Nat.le_trans Z0 Kq2.1
  have f3 := Exa.keep E_tr Kq2
  have f4 := Fld.keep F_tr_root Kq2 (ninS ne_tr_a (ninS ne_tr_ac nin0))
  have f5 := Fld.keep F_tr_size Kq2 (ninS ne_tr_a (ninS ne_tr_ac nin0))
  have f6 := Exa.keep E_a Kq2
  have f13 := Exa.keep E_ac Kq2
  have f20 := Exa.keep E_la Kq2
  have f21 := Fld.keep F_la_quantity Kq2 (ninS (Ne.symm ne_a_la) (ninS (Ne.symm ne_ac_la) nin0))
  have f22 := Exa.keep E_lc Kq2
  have f23 := Fld.keep F_lc_quantity Kq2 (ninS (Ne.symm ne_a_lc) (ninS (Ne.symm ne_ac_lc) nin0))
  have f24 := Exa.keep E_lv Kq2
  have f25 := Fld.keep F_lv_quantity Kq2 (ninS (Ne.symm ne_a_lv) (ninS (Ne.symm ne_ac_lv) nin0))
  have Q26 := HQ.keep HQ_vl Kq2 (allS nv_vl_a (allS nv_vl_ac all0))
  have K2 := (Keep.refl h0 [tr, a, ac]).trans Kq2 (allS (Or.inl (List.mem_of_getElem? (i := 1) rfl)) (allS (Or.inl (List.mem_of_getElem? (i := 2) rfl)) all0))
  refine Go.s (fun {t} => st2) ?_
  show Go p.tables e below P (T2.setTop (mkF m 10 #[oR tr, oJ key, oS, oR lv] [(.ref a), (.ref tr)]))
  obtain ⟨T27, H27, X27, e27, W27, st27⟩ := putF X2 hx hZ hown (host := "") (Or.inl (own_g hw 26 rfl)) Via.refl e2 f4 f3 (Or.inl (own_g hw 27 rfl)) (own_g hw 15 rfl) (ty := (.object oN)) (by decide) rfl rfl (g := (mkF m 10 #[oR tr, oJ key, oS, oR lv] [(.ref a), (.ref tr)])) rfl rfl (hb hby own_d5_10)
  refine Go.s (fun {t} => st27 t) ?_
  have Fw27 := Fld.same W27 f4
  have f28 := Exa.wr W27 f3
  have f30 := Fld.other W27 f5 (Or.inr (slot_ne (Or.inl (own_g hw 54 rfl)) (Or.inl (own_g hw 27 rfl)) (by decide) (t := .int) (t' := (.object oN)) (by decide) (by decide)))
  have f31 := Exa.wr W27 f6
  have f32 := Exa.wr W27 f13
  have f33 := Exa.wr W27 f20
  have f34 := Fld.other W27 f21 (Or.inl (Ne.symm ne_tr_la))
  have f35 := Exa.wr W27 f22
  have f36 := Fld.other W27 f23 (Or.inl (Ne.symm ne_tr_lc))
  have f37 := Exa.wr W27 f24
  have f38 := Fld.other W27 f25 (Or.inl (Ne.symm ne_tr_lv))
  have f39 := Fld.other W27 Fp2_0 (Or.inl (Ne.symm ne_tr_a))
  have f40 := Fld.other W27 Fp2_1 (Or.inl (Ne.symm ne_tr_a))
  have f41 := Fld.other W27 Fp2_2 (Or.inl (Ne.symm ne_tr_a))
  have f42 := Fld.other W27 Fp2_3 (Or.inl (Ne.symm ne_tr_a))
  have f43 := Fld.other W27 Fp2_4 (Or.inl (Ne.symm ne_tr_a))
  have f44 := Fld.other W27 Fp2_5 (Or.inl (Ne.symm ne_tr_a))
  have f45 := Fld.other W27 Fp2_6 (Or.inl (Ne.symm ne_tr_ac))
  have f46 := Fld.other W27 Fp2_7 (Or.inl (Ne.symm ne_tr_ac))
  have f47 := Fld.other W27 Fp2_8 (Or.inl (Ne.symm ne_tr_ac))
  have f48 := Fld.other W27 Fp2_9 (Or.inl (Ne.symm ne_tr_ac))
  have f49 := Fld.other W27 Fp2_10 (Or.inl (Ne.symm ne_tr_ac))
  have f50 := Fld.other W27 Fp2_11 (Or.inl (Ne.symm ne_tr_ac))
  have f51 := Exa.wr W27 Fp2_13
  have f52 := Fld.other W27 Fp2_14 (Or.inl (Ne.symm ntrd2))
  have f53 := Fld.other W27 Fp2_15 (Or.inl (Ne.symm ntrd2))
  have f54 := Fld.other W27 Fp2_16 (Or.inl (Ne.symm ntrd2))
  have f55 := Fld.other W27 Fp2_17 (Or.inl (Ne.symm ntrd2))
  have f56 := Fld.other W27 Fp2_18 (Or.inl (Ne.symm ntrd2))
  have f57 := Fld.other W27 Fp2_19 (Or.inl (Ne.symm ntrd2))
  have Q58 := HQ.other Q26 W27 nv_vl_tr
  have N27 := Fr.snoc X27 N2 G_tr
  have Zs27 := Nat.le_trans Zs2 (Keep.of_wr W27).1
  have K27 : Keep h0 H27 [tr, a, ac] := K2.wr W27 (Or.inl (List.mem_of_getElem? (i := 0) rfl))
  refine Go.s (fun kz => XS.aloadN X27.here hx rfl (hb hby own_d5_13) rfl rfl kz) ?_
  refine Go.s (fun kz => XS.dup X27.here hx rfl (hb hby own_d5_14) rfl rfl kz) ?_
  show Go p.tables e below P (T27.setTop (mkF m 15 #[oR tr, oJ key, oS, oR lv] [(.ref tr), (.ref tr)]))
  obtain ⟨T59, X59, e59, st59⟩ := getF X27 hx hZ hown (host := "") (Or.inl (own_g hw 53 rfl)) Via.refl e27 f30 (g := (mkF m 15 #[oR tr, oJ key, oS, oR lv] [(.ref tr), (.ref tr)])) rfl rfl (hb hby own_d5_15)
  refine Go.s (fun {t} => st59 t) ?_
  refine Go.s (fun kz => XS.iconst X59.here hx rfl (hb hby own_d5_18) kz) ?_
  refine Go.s (fun kz => XS.iadd X59.here hx rfl (hb hby own_d5_19) rfl kz) ?_
  show Go p.tables e below P (T59.setTop (mkF m 20 #[oR tr, oJ key, oS, oR lv] [(.int (sz + (1 : Int32))), (.ref tr)]))
  obtain ⟨T60, H60, X60, e60, W60, st60⟩ := putF X59 hx hZ hown (host := "") (Or.inl (own_g hw 53 rfl)) Via.refl e59 f30 f28 (Or.inl (own_g hw 54 rfl)) (own_g hw 15 rfl) (ty := .int) (by decide) rfl rfl (g := (mkF m 20 #[oR tr, oJ key, oS, oR lv] [(.int (sz + (1 : Int32))), (.ref tr)])) rfl rfl (hb hby own_d5_20)
  refine Go.s (fun {t} => st60 t) ?_
  have Fw60 := Fld.same W60 f30
  have f61 := Exa.wr W60 f28
  have f63 := Exa.wr W60 f31
  have f64 := Exa.wr W60 f32
  have f65 := Exa.wr W60 f33
  have f66 := Fld.other W60 f34 (Or.inl (Ne.symm ne_tr_la))
  have f67 := Exa.wr W60 f35
  have f68 := Fld.other W60 f36 (Or.inl (Ne.symm ne_tr_lc))
  have f69 := Exa.wr W60 f37
  have f70 := Fld.other W60 f38 (Or.inl (Ne.symm ne_tr_lv))
  have f71 := Fld.other W60 f39 (Or.inl (Ne.symm ne_tr_a))
  have f72 := Fld.other W60 f40 (Or.inl (Ne.symm ne_tr_a))
  have f73 := Fld.other W60 f41 (Or.inl (Ne.symm ne_tr_a))
  have f74 := Fld.other W60 f42 (Or.inl (Ne.symm ne_tr_a))
  have f75 := Fld.other W60 f43 (Or.inl (Ne.symm ne_tr_a))
  have f76 := Fld.other W60 f44 (Or.inl (Ne.symm ne_tr_a))
  have f77 := Fld.other W60 f45 (Or.inl (Ne.symm ne_tr_ac))
  have f78 := Fld.other W60 f46 (Or.inl (Ne.symm ne_tr_ac))
  have f79 := Fld.other W60 f47 (Or.inl (Ne.symm ne_tr_ac))
  have f80 := Fld.other W60 f48 (Or.inl (Ne.symm ne_tr_ac))
  have f81 := Fld.other W60 f49 (Or.inl (Ne.symm ne_tr_ac))
  have f82 := Fld.other W60 f50 (Or.inl (Ne.symm ne_tr_ac))
  have f83 := Exa.wr W60 f51
  have f84 := Fld.other W60 f52 (Or.inl (Ne.symm ntrd2))
  have f85 := Fld.other W60 f53 (Or.inl (Ne.symm ntrd2))
  have f86 := Fld.other W60 f54 (Or.inl (Ne.symm ntrd2))
  have f87 := Fld.other W60 f55 (Or.inl (Ne.symm ntrd2))
  have f88 := Fld.other W60 f56 (Or.inl (Ne.symm ntrd2))
  have f89 := Fld.other W60 f57 (Or.inl (Ne.symm ntrd2))
  have f90 := Fld.other W60 Fw27 (Or.inr (slot_ne (Or.inl (own_g hw 27 rfl)) (Or.inl (own_g hw 54 rfl)) (by decide) (t := (.object oN)) (t' := .int) (by decide) (by decide)))
  have Q91 := HQ.other Q58 W60 nv_vl_tr
  have N60 := Fr.snoc X60 N27 G_tr
  have Zs60 := Nat.le_trans Zs27 (Keep.of_wr W60).1
  have K60 : Keep h0 H60 [tr, a, ac] := K27.wr W60 (Or.inl (List.mem_of_getElem? (i := 0) rfl))
  show Go p.tables e below P (T60.setTop (mkF m 23 #[oR tr, oJ key, oS, oR lv] []))
  exact Go.retV X60 hx hlk hret (hb hby own_d5_23) (fun U hU hF => hP U _ _ (by rw [hU, e60]; exact ⟨d2, rfl, N60, K60, f90, Fw60, f71, f72, f73, f74, f75, f76, f77, f78, f79, f80, f81, f82, SZ_d2, f83, f84, f85, f86, f87, f88, f89⟩) ⟨hF.1, hF.2.1, hF.2.2.mono (by decide) (by decide)⟩)
theorem own_efjpll (m : MethodId) (tr : Addr) (key : Int64) (lv : Addr) : entryFrame m #[(.ref tr), (.long key), (.ref lv)] 4 = mkF m 0 #[oR tr, oJ key, oS, oR lv] [] := by
  (first | (simp [entryFrame, mkF, argsToLocals, Value.category]; done) | rfl)
set_option maxRecDepth 65536 in
set_option maxHeartbeats 40000000 in
theorem own_rmjpll (l : Launch) (Z : State) (a0 : Array Value) (hw : ∀ d ∈ tables_1, d.before a0 Z = true) (ws : List Jvm.Cond) (tr : Nat) (key : Int64) (lv : Nat) (a : Nat) (sz : Int32) (ka : Int64) (la : Nat) (ac : Nat) (vr : Value) (ta : Int32) (qa : Int64) (kc : Int64) (lc : Nat) (qc : Int64) (wa : Int64) (wc : Int64) (wv : Int64) (tvr : Int32) (qvr : Int64) (h0 : Heap) (n0 : Nat) (Z0 : n0 ≤ h0.size) (HQ_vr : HQ Z h0 vr tvr qvr) (E_tr : Exa Z h0 tr oT) (G_tr : n0 ≤ tr) (F_tr_root : Fld Z h0 tr oT "root" oNd (.ref a)) (F_tr_size : Fld Z h0 tr oT "size" "I" (.int sz)) (E_a : Exa Z h0 a oN) (G_a : n0 ≤ a) (F_a_key : Fld Z h0 a oN "key" "J" (.long ka)) (F_a_level : Fld Z h0 a oN "level" oLd (.ref la)) (F_a_left : Fld Z h0 a oN "left" oNd (.ref ac)) (F_a_right : Fld Z h0 a oN "right" oNd vr) (F_a_height : Fld Z h0 a oN "height" "I" (.int ta)) (F_a_quantity : Fld Z h0 a oN "quantity" "J" (.long qa)) (E_ac : Exa Z h0 ac oN) (G_ac : n0 ≤ ac) (F_ac_key : Fld Z h0 ac oN "key" "J" (.long kc)) (F_ac_level : Fld Z h0 ac oN "level" oLd (.ref lc)) (F_ac_left : Fld Z h0 ac oN "left" oNd .null) (F_ac_right : Fld Z h0 ac oN "right" oNd .null) (F_ac_height : Fld Z h0 ac oN "height" "I" (.int (1 : Int32))) (F_ac_quantity : Fld Z h0 ac oN "quantity" "J" (.long qc)) (E_la : Exa Z h0 la oL) (G_la : n0 ≤ la) (F_la_quantity : Fld Z h0 la oL "quantity" "J" (.long wa)) (E_lc : Exa Z h0 lc oL) (G_lc : n0 ≤ lc) (F_lc_quantity : Fld Z h0 lc oL "quantity" "J" (.long wc)) (E_lv : Exa Z h0 lv oL) (G_lv : n0 ≤ lv) (F_lv_quantity : Fld Z h0 lv oL "quantity" "J" (.long wv)) (ne_tr_a : tr ≠ a) (ne_tr_ac : tr ≠ ac) (ne_tr_la : tr ≠ la) (ne_tr_lc : tr ≠ lc) (ne_tr_lv : tr ≠ lv) (ne_a_ac : a ≠ ac) (ne_a_la : a ≠ la) (ne_a_lc : a ≠ lc) (ne_a_lv : a ≠ lv) (ne_ac_la : ac ≠ la) (ne_ac_lc : ac ≠ lc) (ne_ac_lv : ac ≠ lv) (ne_la_lc : la ≠ lc) (ne_la_lv : la ≠ lv) (ne_lc_lv : lc ≠ lv) (nv_vr_tr : vr ≠ .ref tr) (nv_vr_a : vr ≠ .ref a) (nv_vr_ac : vr ≠ .ref ac) (nv_vr_la : vr ≠ .ref la) (nv_vr_lc : vr ≠ .ref lc) (nv_vr_lv : vr ≠ .ref lv) (hk : key < ka) (hk2 : key < kc) (hb1 : ¬ (1 : Int32) < ((2 : Int32) - tvr)) (hb2 : ¬ ((2 : Int32) - tvr) < (-1 : Int32)) :
    Con l Z (⟨oT, "put", "(JLcom/example/rotunda/rotunda/BookSide$Level;)V"⟩ : MethodName) prog_29_method_5_code 4 none ws ({ frames := 5, cells := 1, slots := 6, locals := 76 } : Room) #[(.ref tr), (.long key), (.ref lv)] h0 (fun v h L => ∃ d2 : Nat, v = none ∧ Fr n0 L ∧ Keep h0 h [tr, a, ac] ∧ Fld Z h tr oT "root" oNd (.ref a) ∧ Fld Z h tr oT "size" "I" (.int (sz + (1 : Int32))) ∧ Fld Z h a oN "height" "I" (.int ((own_f11 (2 : Int32) tvr) + (1 : Int32))) ∧ Fld Z h a oN "key" "J" (.long ka) ∧ Fld Z h a oN "left" oNd (.ref ac) ∧ Fld Z h a oN "level" oLd (.ref la) ∧ Fld Z h a oN "quantity" "J" (.long ((((wv + wc) + (0 : Int64)) + wa) + qvr)) ∧ Fld Z h a oN "right" oNd vr ∧ Fld Z h ac oN "height" "I" (.int (2 : Int32)) ∧ Fld Z h ac oN "key" "J" (.long kc) ∧ Fld Z h ac oN "left" oNd (.ref d2) ∧ Fld Z h ac oN "level" oLd (.ref lc) ∧ Fld Z h ac oN "quantity" "J" (.long ((wv + wc) + (0 : Int64))) ∧ Fld Z h ac oN "right" oNd .null ∧ h0.size ≤ d2 ∧ Exa Z h d2 oN ∧ Fld Z h d2 oN "height" "I" (.int (1 : Int32)) ∧ Fld Z h d2 oN "key" "J" (.long key) ∧ Fld Z h d2 oN "left" oNd .null ∧ Fld Z h d2 oN "level" oLd (.ref lv) ∧ Fld Z h d2 oN "quantity" "J" (.long wv) ∧ Fld Z h d2 oN "right" oNd .null) := by
  refine Con.intro (plainFor_of_name own_pn_0) ?_
  intro p e s m below meth c s₁ P hx hby hml hown hnm hret hlk hZ X0 e0 hP
  have N0 := Fr.nil n0
  have hown : s.vm.findClass oT = some m.cls := hown
  refine Go.cast (own_efjpll m tr key lv) ?_
  show Go p.tables e below P (s₁.setTop (mkF m 0 #[oR tr, oJ key, oS, oR lv] []))
  refine Go.s (fun kz => XS.aloadN X0.here hx rfl (hb hby own_d5_0) rfl rfl kz) ?_
  refine Go.s (fun kz => XS.aloadN X0.here hx rfl (hb hby own_d5_1) rfl rfl kz) ?_
  show Go p.tables e below P (s₁.setTop (mkF m 2 #[oR tr, oJ key, oS, oR lv] [(.ref tr), (.ref tr)]))
  obtain ⟨T1, X1, e1, st1⟩ := getF X0 hx hZ hown (host := "") (Or.inl (own_g hw 26 rfl)) Via.refl e0 F_tr_root (g := (mkF m 2 #[oR tr, oJ key, oS, oR lv] [(.ref tr), (.ref tr)])) rfl rfl (hb hby own_d5_2)
  refine Go.s (fun {t} => st1 t) ?_
  refine Go.s (fun kz => XT.lloadN X1.here hx rfl (hb hby own_d5_5) rfl kz) ?_
  refine Go.s (fun kz => XS.aloadN X1.here hx rfl (hb hby own_d5_6) rfl rfl kz) ?_
  show Go p.tables e below P (T1.setTop (mkF m 7 #[oR tr, oJ key, oS, oR lv] [(.ref lv), (.long key), (.ref a), (.ref tr)]))
  obtain ⟨v2, T2, L2, X2, Q2, st2⟩ := Con.static (own_rmpll l Z a0 hw [] a key lv ka la ac vr ta qa kc lc qc wa wc wv tvr qvr h0 n0 Z0 HQ_vr E_a G_a F_a_key F_a_level F_a_left F_a_right F_a_height F_a_quantity E_ac G_ac F_ac_key F_ac_level F_ac_left F_ac_right F_ac_height F_ac_quantity E_la G_la F_la_quantity E_lc G_lc F_lc_quantity E_lv G_lv F_lv_quantity ne_a_ac ne_a_la ne_a_lc ne_a_lv ne_ac_la ne_ac_lc ne_ac_lv ne_la_lc ne_la_lv ne_lc_lv nv_vr_a nv_vr_ac nv_vr_la nv_vr_lc nv_vr_lv hk hk2 hb1 hb2) X1 hx hZ (W := 1) hown (own_g hw 33 rfl) (own_g hw 34 rfl) (own_g hw 16 rfl) (own_g hw 35 rfl) (by decide) (by decide) (by decide) (by decide) (by decide) e1 (g := (mkF m 7 #[oR tr, oJ key, oS, oR lv] [(.ref lv), (.long key), (.ref a), (.ref tr)])) rfl (by rw [hml]; rfl) (argsL := [(.ref a), (.long key), (.ref lv)]) (rest := [(.ref tr)]) rfl (lenOf own_pd_6 rfl) rfl (by show 2 * 0 + _ ≤ _; exact Nat.le_of_eq rfl) (hb hby own_d5_7)
  obtain ⟨H2, e2⟩ : ∃ z, T2.heap = z := ⟨_, rfl⟩
  rw [e2] at Q2
  obtain ⟨d2, rfl, Nq2, Kq2, Fp2_0, Fp2_1, Fp2_2, Fp2_3, Fp2_4, Fp2_5, Fp2_6, Fp2_7, Fp2_8, Fp2_9, Fp2_10, Fp2_11, Fp2_12, Fp2_13, Fp2_14, Fp2_15, Fp2_16, Fp2_17, Fp2_18, Fp2_19⟩ := Q2
  have N2 := Fr.app N0 Nq2
  have ntrd2 : tr ≠ d2 := Nat.ne_of_lt (Nat.lt_of_lt_of_le E_tr.lt Fp2_12)
  have nad2 : a ≠ d2 := Nat.ne_of_lt (Nat.lt_of_lt_of_le E_a.lt Fp2_12)
  have nacd2 : ac ≠ d2 := Nat.ne_of_lt (Nat.lt_of_lt_of_le E_ac.lt Fp2_12)
  have nlad2 : la ≠ d2 := Nat.ne_of_lt (Nat.lt_of_lt_of_le E_la.lt Fp2_12)
  have nlcd2 : lc ≠ d2 := Nat.ne_of_lt (Nat.lt_of_lt_of_le E_lc.lt Fp2_12)
  have nlvd2 : lv ≠ d2 := Nat.ne_of_lt (Nat.lt_of_lt_of_le E_lv.lt Fp2_12)
  have nv_vr_d2 : vr ≠ .ref d2 := own_vlt HQ_vr Fp2_12
  have G_d2 : n0 ≤ d2 := Nat.le_trans Z0 Fp2_12
  have SZ_d2 : h0.size ≤ d2 := Nat.le_trans (Keep.refl h0 [tr, a, ac]).1 Fp2_12
  have Zs2 := Nat.le_trans Z0 Kq2.1
  have f3 := Exa.keep E_tr Kq2
  have f4 := Fld.keep F_tr_root Kq2 (ninS ne_tr_a (ninS ne_tr_ac nin0))
  have f5 := Fld.keep F_tr_size Kq2 (ninS ne_tr_a (ninS ne_tr_ac nin0))
  have f6 := Exa.keep E_a Kq2
  have f13 := Exa.keep E_ac Kq2
  have f20 := Exa.keep E_la Kq2
  have f21 := Fld.keep F_la_quantity Kq2 (ninS (Ne.symm ne_a_la) (ninS (Ne.symm ne_ac_la) nin0))
  have f22 := Exa.keep E_lc Kq2
  have f23 := Fld.keep F_lc_quantity Kq2 (ninS (Ne.symm ne_a_lc) (ninS (Ne.symm ne_ac_lc) nin0))
  have f24 := Exa.keep E_lv Kq2
  have f25 := Fld.keep F_lv_quantity Kq2 (ninS (Ne.symm ne_a_lv) (ninS (Ne.symm ne_ac_lv) nin0))
  have Q26 := HQ.keep HQ_vr Kq2 (allS nv_vr_a (allS nv_vr_ac all0))
  have K2 := (Keep.refl h0 [tr, a, ac]).trans Kq2 (allS (Or.inl (List.mem_of_getElem? (i := 1) rfl)) (allS (Or.inl (List.mem_of_getElem? (i := 2) rfl)) all0))
  refine Go.s (fun {t} => st2) ?_
  show Go p.tables e below P (T2.setTop (mkF m 10 #[oR tr, oJ key, oS, oR lv] [(.ref a), (.ref tr)]))
  obtain ⟨T27, H27, X27, e27, W27, st27⟩ := putF X2 hx hZ hown (host := "") (Or.inl (own_g hw 26 rfl)) Via.refl e2 f4 f3 (Or.inl (own_g hw 27 rfl)) (own_g hw 15 rfl) (ty := (.object oN)) (by decide) rfl rfl (g := (mkF m 10 #[oR tr, oJ key, oS, oR lv] [(.ref a), (.ref tr)])) rfl rfl (hb hby own_d5_10)
  refine Go.s (fun {t} => st27 t) ?_
  have Fw27 := Fld.same W27 f4
  have f28 := Exa.wr W27 f3
  have f30 := Fld.other W27 f5 (Or.inr (slot_ne (Or.inl (own_g hw 54 rfl)) (Or.inl (own_g hw 27 rfl)) (by decide) (t := .int) (t' := (.object oN)) (by decide) (by decide)))
  have f31 := Exa.wr W27 f6
  have f32 := Exa.wr W27 f13
  have f33 := Exa.wr W27 f20
  have f34 := Fld.other W27 f21 (Or.inl (Ne.symm ne_tr_la))
  have f35 := Exa.wr W27 f22
  have f36 := Fld.other W27 f23 (Or.inl (Ne.symm ne_tr_lc))
  have f37 := Exa.wr W27 f24
  have f38 := Fld.other W27 f25 (Or.inl (Ne.symm ne_tr_lv))
  have f39 := Fld.other W27 Fp2_0 (Or.inl (Ne.symm ne_tr_a))
  have f40 := Fld.other W27 Fp2_1 (Or.inl (Ne.symm ne_tr_a))
  have f41 := Fld.other W27 Fp2_2 (Or.inl (Ne.symm ne_tr_a))
  have f42 := Fld.other W27 Fp2_3 (Or.inl (Ne.symm ne_tr_a))
  have f43 := Fld.other W27 Fp2_4 (Or.inl (Ne.symm ne_tr_a))
  have f44 := Fld.other W27 Fp2_5 (Or.inl (Ne.symm ne_tr_a))
  have f45 := Fld.other W27 Fp2_6 (Or.inl (Ne.symm ne_tr_ac))
  have f46 := Fld.other W27 Fp2_7 (Or.inl (Ne.symm ne_tr_ac))
  have f47 := Fld.other W27 Fp2_8 (Or.inl (Ne.symm ne_tr_ac))
  have f48 := Fld.other W27 Fp2_9 (Or.inl (Ne.symm ne_tr_ac))
  have f49 := Fld.other W27 Fp2_10 (Or.inl (Ne.symm ne_tr_ac))
  have f50 := Fld.other W27 Fp2_11 (Or.inl (Ne.symm ne_tr_ac))
  have f51 := Exa.wr W27 Fp2_13
  have f52 := Fld.other W27 Fp2_14 (Or.inl (Ne.symm ntrd2))
  have f53 := Fld.other W27 Fp2_15 (Or.inl (Ne.symm ntrd2))
  have f54 := Fld.other W27 Fp2_16 (Or.inl (Ne.symm ntrd2))
  have f55 := Fld.other W27 Fp2_17 (Or.inl (Ne.symm ntrd2))
  have f56 := Fld.other W27 Fp2_18 (Or.inl (Ne.symm ntrd2))
  have f57 := Fld.other W27 Fp2_19 (Or.inl (Ne.symm ntrd2))
  have Q58 := HQ.other Q26 W27 nv_vr_tr
  have N27 := Fr.snoc X27 N2 G_tr
  have Zs27 := Nat.le_trans Zs2 (Keep.of_wr W27).1
  have K27 : Keep h0 H27 [tr, a, ac] := K2.wr W27 (Or.inl (List.mem_of_getElem? (i := 0) rfl))
  refine Go.s (fun kz => XS.aloadN X27.here hx rfl (hb hby own_d5_13) rfl rfl kz) ?_
  refine Go.s (fun kz => XS.dup X27.here hx rfl (hb hby own_d5_14) rfl rfl kz) ?_
  show Go p.tables e below P (T27.setTop (mkF m 15 #[oR tr, oJ key, oS, oR lv] [(.ref tr), (.ref tr)]))
  obtain ⟨T59, X59, e59, st59⟩ := getF X27 hx hZ hown (host := "") (Or.inl (own_g hw 53 rfl)) Via.refl e27 f30 (g := (mkF m 15 #[oR tr, oJ key, oS, oR lv] [(.ref tr), (.ref tr)])) rfl rfl (hb hby own_d5_15)
  refine Go.s (fun {t} => st59 t) ?_
  refine Go.s (fun kz => XS.iconst X59.here hx rfl (hb hby own_d5_18) kz) ?_
  refine Go.s (fun kz => XS.iadd X59.here hx rfl (hb hby own_d5_19) rfl kz) ?_
  show Go p.tables e below P (T59.setTop (mkF m 20 #[oR tr, oJ key, oS, oR lv] [(.int (sz + (1 : Int32))), (.ref tr)]))
  obtain ⟨T60, H60, X60, e60, W60, st60⟩ := putF X59 hx hZ hown (host := "") (Or.inl (own_g hw 53 rfl)) Via.refl e59 f30 f28 (Or.inl (own_g hw 54 rfl)) (own_g hw 15 rfl) (ty := .int) (by decide) rfl rfl (g := (mkF m 20 #[oR tr, oJ key, oS, oR lv] [(.int (sz + (1 : Int32))), (.ref tr)])) rfl rfl (hb hby own_d5_20)
  refine Go.s (fun {t} => st60 t) ?_
  have Fw60 := Fld.same W60 f30
  have f61 := Exa.wr W60 f28
  have f63 := Exa.wr W60 f31
  have f64 := Exa.wr W60 f32
  have f65 := Exa.wr W60 f33
  have f66 := Fld.other W60 f34 (Or.inl (Ne.symm ne_tr_la))
  have f67 := Exa.wr W60 f35
  have f68 := Fld.other W60 f36 (Or.inl (Ne.symm ne_tr_lc))
  have f69 := Exa.wr W60 f37
  have f70 := Fld.other W60 f38 (Or.inl (Ne.symm ne_tr_lv))
  have f71 := Fld.other W60 f39 (Or.inl (Ne.symm ne_tr_a))
  have f72 := Fld.other W60 f40 (Or.inl (Ne.symm ne_tr_a))
  have f73 := Fld.other W60 f41 (Or.inl (Ne.symm ne_tr_a))
  have f74 := Fld.other W60 f42 (Or.inl (Ne.symm ne_tr_a))
  have f75 := Fld.other W60 f43 (Or.inl (Ne.symm ne_tr_a))
  have f76 := Fld.other W60 f44 (Or.inl (Ne.symm ne_tr_a))
  have f77 := Fld.other W60 f45 (Or.inl (Ne.symm ne_tr_ac))
  have f78 := Fld.other W60 f46 (Or.inl (Ne.symm ne_tr_ac))
  have f79 := Fld.other W60 f47 (Or.inl (Ne.symm ne_tr_ac))
  have f80 := Fld.other W60 f48 (Or.inl (Ne.symm ne_tr_ac))
  have f81 := Fld.other W60 f49 (Or.inl (Ne.symm ne_tr_ac))
  have f82 := Fld.other W60 f50 (Or.inl (Ne.symm ne_tr_ac))
  have f83 := Exa.wr W60 f51
  have f84 := Fld.other W60 f52 (Or.inl (Ne.symm ntrd2))
  have f85 := Fld.other W60 f53 (Or.inl (Ne.symm ntrd2))
  have f86 := Fld.other W60 f54 (Or.inl (Ne.symm ntrd2))
  have f87 := Fld.other W60 f55 (Or.inl (Ne.symm ntrd2))
  have f88 := Fld.other W60 f56 (Or.inl (Ne.symm ntrd2))
  have f89 := Fld.other W60 f57 (Or.inl (Ne.symm ntrd2))
  have f90 := Fld.other W60 Fw27 (Or.inr (slot_ne (Or.inl (own_g hw 27 rfl)) (Or.inl (own_g hw 54 rfl)) (by decide) (t := (.object oN)) (t' := .int) (by decide) (by decide)))
  have Q91 := HQ.other Q58 W60 nv_vr_tr
  have N60 := Fr.snoc X60 N27 G_tr
  have Zs60 := Nat.le_trans Zs27 (Keep.of_wr W60).1
  have K60 : Keep h0 H60 [tr, a, ac] := K27.wr W60 (Or.inl (List.mem_of_getElem? (i := 0) rfl))
  show Go p.tables e below P (T60.setTop (mkF m 23 #[oR tr, oJ key, oS, oR lv] []))
  exact Go.retV X60 hx hlk hret (hb hby own_d5_23) (fun U hU hF => hP U _ _ (by rw [hU, e60]; exact ⟨d2, rfl, N60, K60, f90, Fw60, f71, f72, f73, f74, f75, f76, f77, f78, f79, f80, f81, f82, SZ_d2, f83, f84, f85, f86, f87, f88, f89⟩) ⟨hF.1, hF.2.1, hF.2.2.mono (by decide) (by decide)⟩)
theorem own_efjplr (m : MethodId) (tr : Addr) (key : Int64) (lv : Addr) : entryFrame m #[(.ref tr), (.long key), (.ref lv)] 4 = mkF m 0 #[oR tr, oJ key, oS, oR lv] [] := by
  (first | (simp [entryFrame, mkF, argsToLocals, Value.category]; done) | rfl)
set_option maxRecDepth 65536 in
set_option maxHeartbeats 40000000 in
theorem own_rmjplr (l : Launch) (Z : State) (a0 : Array Value) (hw : ∀ d ∈ tables_1, d.before a0 Z = true) (ws : List Jvm.Cond) (tr : Nat) (key : Int64) (lv : Nat) (a : Nat) (sz : Int32) (ka : Int64) (la : Nat) (ac : Nat) (vr : Value) (ta : Int32) (qa : Int64) (kc : Int64) (lc : Nat) (qc : Int64) (wa : Int64) (wc : Int64) (wv : Int64) (tvr : Int32) (qvr : Int64) (h0 : Heap) (n0 : Nat) (Z0 : n0 ≤ h0.size) (HQ_vr : HQ Z h0 vr tvr qvr) (E_tr : Exa Z h0 tr oT) (G_tr : n0 ≤ tr) (F_tr_root : Fld Z h0 tr oT "root" oNd (.ref a)) (F_tr_size : Fld Z h0 tr oT "size" "I" (.int sz)) (E_a : Exa Z h0 a oN) (G_a : n0 ≤ a) (F_a_key : Fld Z h0 a oN "key" "J" (.long ka)) (F_a_level : Fld Z h0 a oN "level" oLd (.ref la)) (F_a_left : Fld Z h0 a oN "left" oNd (.ref ac)) (F_a_right : Fld Z h0 a oN "right" oNd vr) (F_a_height : Fld Z h0 a oN "height" "I" (.int ta)) (F_a_quantity : Fld Z h0 a oN "quantity" "J" (.long qa)) (E_ac : Exa Z h0 ac oN) (G_ac : n0 ≤ ac) (F_ac_key : Fld Z h0 ac oN "key" "J" (.long kc)) (F_ac_level : Fld Z h0 ac oN "level" oLd (.ref lc)) (F_ac_left : Fld Z h0 ac oN "left" oNd .null) (F_ac_right : Fld Z h0 ac oN "right" oNd .null) (F_ac_height : Fld Z h0 ac oN "height" "I" (.int (1 : Int32))) (F_ac_quantity : Fld Z h0 ac oN "quantity" "J" (.long qc)) (E_la : Exa Z h0 la oL) (G_la : n0 ≤ la) (F_la_quantity : Fld Z h0 la oL "quantity" "J" (.long wa)) (E_lc : Exa Z h0 lc oL) (G_lc : n0 ≤ lc) (F_lc_quantity : Fld Z h0 lc oL "quantity" "J" (.long wc)) (E_lv : Exa Z h0 lv oL) (G_lv : n0 ≤ lv) (F_lv_quantity : Fld Z h0 lv oL "quantity" "J" (.long wv)) (ne_tr_a : tr ≠ a) (ne_tr_ac : tr ≠ ac) (ne_tr_la : tr ≠ la) (ne_tr_lc : tr ≠ lc) (ne_tr_lv : tr ≠ lv) (ne_a_ac : a ≠ ac) (ne_a_la : a ≠ la) (ne_a_lc : a ≠ lc) (ne_a_lv : a ≠ lv) (ne_ac_la : ac ≠ la) (ne_ac_lc : ac ≠ lc) (ne_ac_lv : ac ≠ lv) (ne_la_lc : la ≠ lc) (ne_la_lv : la ≠ lv) (ne_lc_lv : lc ≠ lv) (nv_vr_tr : vr ≠ .ref tr) (nv_vr_a : vr ≠ .ref a) (nv_vr_ac : vr ≠ .ref ac) (nv_vr_la : vr ≠ .ref la) (nv_vr_lc : vr ≠ .ref lc) (nv_vr_lv : vr ≠ .ref lv) (hk : key < ka) (hk2 : ¬ key < kc) (hb1 : ¬ (1 : Int32) < ((2 : Int32) - tvr)) (hb2 : ¬ ((2 : Int32) - tvr) < (-1 : Int32)) :
    Con l Z (⟨oT, "put", "(JLcom/example/rotunda/rotunda/BookSide$Level;)V"⟩ : MethodName) prog_29_method_5_code 4 none ws ({ frames := 5, cells := 1, slots := 6, locals := 76 } : Room) #[(.ref tr), (.long key), (.ref lv)] h0 (fun v h L => ∃ d2 : Nat, v = none ∧ Fr n0 L ∧ Keep h0 h [tr, a, ac] ∧ Fld Z h tr oT "root" oNd (.ref a) ∧ Fld Z h tr oT "size" "I" (.int (sz + (1 : Int32))) ∧ Fld Z h a oN "height" "I" (.int ((own_f11 (2 : Int32) tvr) + (1 : Int32))) ∧ Fld Z h a oN "key" "J" (.long ka) ∧ Fld Z h a oN "left" oNd (.ref ac) ∧ Fld Z h a oN "level" oLd (.ref la) ∧ Fld Z h a oN "quantity" "J" (.long (((((0 : Int64) + wc) + wv) + wa) + qvr)) ∧ Fld Z h a oN "right" oNd vr ∧ Fld Z h ac oN "height" "I" (.int (2 : Int32)) ∧ Fld Z h ac oN "key" "J" (.long kc) ∧ Fld Z h ac oN "left" oNd .null ∧ Fld Z h ac oN "level" oLd (.ref lc) ∧ Fld Z h ac oN "quantity" "J" (.long (((0 : Int64) + wc) + wv)) ∧ Fld Z h ac oN "right" oNd (.ref d2) ∧ h0.size ≤ d2 ∧ Exa Z h d2 oN ∧ Fld Z h d2 oN "height" "I" (.int (1 : Int32)) ∧ Fld Z h d2 oN "key" "J" (.long key) ∧ Fld Z h d2 oN "left" oNd .null ∧ Fld Z h d2 oN "level" oLd (.ref lv) ∧ Fld Z h d2 oN "quantity" "J" (.long wv) ∧ Fld Z h d2 oN "right" oNd .null) := by
  refine Con.intro (plainFor_of_name own_pn_0) ?_
  intro p e s m below meth c s₁ P hx hby hml hown hnm hret hlk hZ X0 e0 hP
  have N0 := Fr.nil n0
  have hown : s.vm.findClass oT = some m.cls := hown
  refine Go.cast (own_efjplr m tr key lv) ?_
  show Go p.tables e below P (s₁.setTop (mkF m 0 #[oR tr, oJ key, oS, oR lv] []))
  refine Go.s (fun kz => XS.aloadN X0.here hx rfl (hb hby own_d5_0) rfl rfl kz) ?_
  refine Go.s (fun kz => XS.aloadN X0.here hx rfl (hb hby own_d5_1) rfl rfl kz) ?_
  show Go p.tables e below P (s₁.setTop (mkF m 2 #[oR tr, oJ key, oS, oR lv] [(.ref tr), (.ref tr)]))
  obtain ⟨T1, X1, e1, st1⟩ := getF X0 hx hZ hown (host := "") (Or.inl (own_g hw 26 rfl)) Via.refl e0 F_tr_root (g := (mkF m 2 #[oR tr, oJ key, oS, oR lv] [(.ref tr), (.ref tr)])) rfl rfl (hb hby own_d5_2)
  refine Go.s (fun {t} => st1 t) ?_
  refine Go.s (fun kz => XT.lloadN X1.here hx rfl (hb hby own_d5_5) rfl kz) ?_
  refine Go.s (fun kz => XS.aloadN X1.here hx rfl (hb hby own_d5_6) rfl rfl kz) ?_
  show Go p.tables e below P (T1.setTop (mkF m 7 #[oR tr, oJ key, oS, oR lv] [(.ref lv), (.long key), (.ref a), (.ref tr)]))
  obtain ⟨v2, T2, L2, X2, Q2, st2⟩ := Con.static (own_rmplr l Z a0 hw [] a key lv ka la ac vr ta qa kc lc qc wa wc wv tvr qvr h0 n0 Z0 HQ_vr E_a G_a F_a_key F_a_level F_a_left F_a_right F_a_height F_a_quantity E_ac G_ac F_ac_key F_ac_level F_ac_left F_ac_right F_ac_height F_ac_quantity E_la G_la F_la_quantity E_lc G_lc F_lc_quantity E_lv G_lv F_lv_quantity ne_a_ac ne_a_la ne_a_lc ne_a_lv ne_ac_la ne_ac_lc ne_ac_lv ne_la_lc ne_la_lv ne_lc_lv nv_vr_a nv_vr_ac nv_vr_la nv_vr_lc nv_vr_lv hk hk2 hb1 hb2) X1 hx hZ (W := 1) hown (own_g hw 33 rfl) (own_g hw 34 rfl) (own_g hw 16 rfl) (own_g hw 35 rfl) (by decide) (by decide) (by decide) (by decide) (by decide) e1 (g := (mkF m 7 #[oR tr, oJ key, oS, oR lv] [(.ref lv), (.long key), (.ref a), (.ref tr)])) rfl (by rw [hml]; rfl) (argsL := [(.ref a), (.long key), (.ref lv)]) (rest := [(.ref tr)]) rfl (lenOf own_pd_6 rfl) rfl (by show 2 * 0 + _ ≤ _; exact Nat.le_of_eq rfl) (hb hby own_d5_7)
  obtain ⟨H2, e2⟩ : ∃ z, T2.heap = z := ⟨_, rfl⟩
  rw [e2] at Q2
  obtain ⟨d2, rfl, Nq2, Kq2, Fp2_0, Fp2_1, Fp2_2, Fp2_3, Fp2_4, Fp2_5, Fp2_6, Fp2_7, Fp2_8, Fp2_9, Fp2_10, Fp2_11, Fp2_12, Fp2_13, Fp2_14, Fp2_15, Fp2_16, Fp2_17, Fp2_18, Fp2_19⟩ := Q2
  have N2 := Fr.app N0 Nq2
  have ntrd2 : tr ≠ d2 := Nat.ne_of_lt (Nat.lt_of_lt_of_le E_tr.lt Fp2_12)
  have nad2 : a ≠ d2 := Nat.ne_of_lt (Nat.lt_of_lt_of_le E_a.lt Fp2_12)
  have nacd2 : ac ≠ d2 := Nat.ne_of_lt (Nat.lt_of_lt_of_le E_ac.lt Fp2_12)
  have nlad2 : la ≠ d2 := Nat.ne_of_lt (Nat.lt_of_lt_of_le E_la.lt Fp2_12)
  have nlcd2 : lc ≠ d2 := Nat.ne_of_lt (Nat.lt_of_lt_of_le E_lc.lt Fp2_12)
  have nlvd2 : lv ≠ d2 := Nat.ne_of_lt (Nat.lt_of_lt_of_le E_lv.lt Fp2_12)
  have nv_vr_d2 : vr ≠ .ref d2 := own_vlt HQ_vr Fp2_12
  have G_d2 : n0 ≤ d2 := Nat.le_trans Z0 Fp2_12
  have SZ_d2 : h0.size ≤ d2 := Nat.le_trans (Keep.refl h0 [tr, a, ac]).1 Fp2_12
  have Zs2 := Nat.le_trans Z0 Kq2.1
  have f3 := Exa.keep E_tr Kq2
  have f4 := Fld.keep F_tr_root Kq2 (ninS ne_tr_a (ninS ne_tr_ac nin0))
  have f5 := Fld.keep F_tr_size Kq2 (ninS ne_tr_a (ninS ne_tr_ac nin0))
  have f6 := Exa.keep E_a Kq2
  have f13 := Exa.keep E_ac Kq2
  have f20 := Exa.keep E_la Kq2
  have f21 := Fld.keep F_la_quantity Kq2 (ninS (Ne.symm ne_a_la) (ninS (Ne.symm ne_ac_la) nin0))
  have f22 := Exa.keep E_lc Kq2
  have f23 := Fld.keep F_lc_quantity Kq2 (ninS (Ne.symm ne_a_lc) (ninS (Ne.symm ne_ac_lc) nin0))
  have f24 := Exa.keep E_lv Kq2
  have f25 := Fld.keep F_lv_quantity Kq2 (ninS (Ne.symm ne_a_lv) (ninS (Ne.symm ne_ac_lv) nin0))
  have Q26 := HQ.keep HQ_vr Kq2 (allS nv_vr_a (allS nv_vr_ac all0))
  have K2 := (Keep.refl h0 [tr, a, ac]).trans Kq2 (allS (Or.inl (List.mem_of_getElem? (i := 1) rfl)) (allS (Or.inl (List.mem_of_getElem? (i := 2) rfl)) all0))
  refine Go.s (fun {t} => st2) ?_
  show Go p.tables e below P (T2.setTop (mkF m 10 #[oR tr, oJ key, oS, oR lv] [(.ref a), (.ref tr)]))
  obtain ⟨T27, H27, X27, e27, W27, st27⟩ := putF X2 hx hZ hown (host := "") (Or.inl (own_g hw 26 rfl)) Via.refl e2 f4 f3 (Or.inl (own_g hw 27 rfl)) (own_g hw 15 rfl) (ty := (.object oN)) (by decide) rfl rfl (g := (mkF m 10 #[oR tr, oJ key, oS, oR lv] [(.ref a), (.ref tr)])) rfl rfl (hb hby own_d5_10)
  refine Go.s (fun {t} => st27 t) ?_
  have Fw27 := Fld.same W27 f4
  have f28 := Exa.wr W27 f3
  have f30 := Fld.other W27 f5 (Or.inr (slot_ne (Or.inl (own_g hw 54 rfl)) (Or.inl (own_g hw 27 rfl)) (by decide) (t := .int) (t' := (.object oN)) (by decide) (by decide)))
  have f31 := Exa.wr W27 f6
  have f32 := Exa.wr W27 f13
  have f33 := Exa.wr W27 f20
  have f34 := Fld.other W27 f21 (Or.inl (Ne.symm ne_tr_la))
  have f35 := Exa.wr W27 f22
  have f36 := Fld.other W27 f23 (Or.inl (Ne.symm ne_tr_lc))
  have f37 := Exa.wr W27 f24
  have f38 := Fld.other W27 f25 (Or.inl (Ne.symm ne_tr_lv))
  have f39 := Fld.other W27 Fp2_0 (Or.inl (Ne.symm ne_tr_a))
  have f40 := Fld.other W27 Fp2_1 (Or.inl (Ne.symm ne_tr_a))
  have f41 := Fld.other W27 Fp2_2 (Or.inl (Ne.symm ne_tr_a))
  have f42 := Fld.other W27 Fp2_3 (Or.inl (Ne.symm ne_tr_a))
  have f43 := Fld.other W27 Fp2_4 (Or.inl (Ne.symm ne_tr_a))
  have f44 := Fld.other W27 Fp2_5 (Or.inl (Ne.symm ne_tr_a))
  have f45 := Fld.other W27 Fp2_6 (Or.inl (Ne.symm ne_tr_ac))
  have f46 := Fld.other W27 Fp2_7 (Or.inl (Ne.symm ne_tr_ac))
  have f47 := Fld.other W27 Fp2_8 (Or.inl (Ne.symm ne_tr_ac))
  have f48 := Fld.other W27 Fp2_9 (Or.inl (Ne.symm ne_tr_ac))
  have f49 := Fld.other W27 Fp2_10 (Or.inl (Ne.symm ne_tr_ac))
  have f50 := Fld.other W27 Fp2_11 (Or.inl (Ne.symm ne_tr_ac))
  have f51 := Exa.wr W27 Fp2_13
  have f52 := Fld.other W27 Fp2_14 (Or.inl (Ne.symm ntrd2))
  have f53 := Fld.other W27 Fp2_15 (Or.inl (Ne.symm ntrd2))
  have f54 := Fld.other W27 Fp2_16 (Or.inl (Ne.symm ntrd2))
  have f55 := Fld.other W27 Fp2_17 (Or.inl (Ne.symm ntrd2))
  have f56 := Fld.other W27 Fp2_18 (Or.inl (Ne.symm ntrd2))
  have f57 := Fld.other W27 Fp2_19 (Or.inl (Ne.symm ntrd2))
  have Q58 := HQ.other Q26 W27 nv_vr_tr
  have N27 := Fr.snoc X27 N2 G_tr
  have Zs27 := Nat.le_trans Zs2 (Keep.of_wr W27).1
  have K27 : Keep h0 H27 [tr, a, ac] := K2.wr W27 (Or.inl (List.mem_of_getElem? (i := 0) rfl))
  refine Go.s (fun kz => XS.aloadN X27.here hx rfl (hb hby own_d5_13) rfl rfl kz) ?_
  refine Go.s (fun kz => XS.dup X27.here hx rfl (hb hby own_d5_14) rfl rfl kz) ?_
  show Go p.tables e below P (T27.setTop (mkF m 15 #[oR tr, oJ key, oS, oR lv] [(.ref tr), (.ref tr)]))
  obtain ⟨T59, X59, e59, st59⟩ := getF X27 hx hZ hown (host := "") (Or.inl (own_g hw 53 rfl)) Via.refl e27 f30 (g := (mkF m 15 #[oR tr, oJ key, oS, oR lv] [(.ref tr), (.ref tr)])) rfl rfl (hb hby own_d5_15)
  refine Go.s (fun {t} => st59 t) ?_
  refine Go.s (fun kz => XS.iconst X59.here hx rfl (hb hby own_d5_18) kz) ?_
  refine Go.s (fun kz => XS.iadd X59.here hx rfl (hb hby own_d5_19) rfl kz) ?_
  show Go p.tables e below P (T59.setTop (mkF m 20 #[oR tr, oJ key, oS, oR lv] [(.int (sz + (1 : Int32))), (.ref tr)]))
  obtain ⟨T60, H60, X60, e60, W60, st60⟩ := putF X59 hx hZ hown (host := "") (Or.inl (own_g hw 53 rfl)) Via.refl e59 f30 f28 (Or.inl (own_g hw 54 rfl)) (own_g hw 15 rfl) (ty := .int) (by decide) rfl rfl (g := (mkF m 20 #[oR tr, oJ key, oS, oR lv] [(.int (sz + (1 : Int32))), (.ref tr)])) rfl rfl (hb hby own_d5_20)
  refine Go.s (fun {t} => st60 t) ?_
  have Fw60 := Fld.same W60 f30
  have f61 := Exa.wr W60 f28
  have f63 := Exa.wr W60 f31
  have f64 := Exa.wr W60 f32
  have f65 := Exa.wr W60 f33
  have f66 := Fld.other W60 f34 (Or.inl (Ne.symm ne_tr_la))
  have f67 := Exa.wr W60 f35
  have f68 := Fld.other W60 f36 (Or.inl (Ne.symm ne_tr_lc))
  have f69 := Exa.wr W60 f37
  have f70 := Fld.other W60 f38 (Or.inl (Ne.symm ne_tr_lv))
  have f71 := Fld.other W60 f39 (Or.inl (Ne.symm ne_tr_a))
  have f72 := Fld.other W60 f40 (Or.inl (Ne.symm ne_tr_a))
  have f73 := Fld.other W60 f41 (Or.inl (Ne.symm ne_tr_a))
  have f74 := Fld.other W60 f42 (Or.inl (Ne.symm ne_tr_a))
  have f75 := Fld.other W60 f43 (Or.inl (Ne.symm ne_tr_a))
  have f76 := Fld.other W60 f44 (Or.inl (Ne.symm ne_tr_a))
  have f77 := Fld.other W60 f45 (Or.inl (Ne.symm ne_tr_ac))
  have f78 := Fld.other W60 f46 (Or.inl (Ne.symm ne_tr_ac))
  have f79 := Fld.other W60 f47 (Or.inl (Ne.symm ne_tr_ac))
  have f80 := Fld.other W60 f48 (Or.inl (Ne.symm ne_tr_ac))
  have f81 := Fld.other W60 f49 (Or.inl (Ne.symm ne_tr_ac))
  have f82 := Fld.other W60 f50 (Or.inl (Ne.symm ne_tr_ac))
  have f83 := Exa.wr W60 f51
  have f84 := Fld.other W60 f52 (Or.inl (Ne.symm ntrd2))
  have f85 := Fld.other W60 f53 (Or.inl (Ne.symm ntrd2))
  have f86 := Fld.other W60 f54 (Or.inl (Ne.symm ntrd2))
  have f87 := Fld.other W60 f55 (Or.inl (Ne.symm ntrd2))
  have f88 := Fld.other W60 f56 (Or.inl (Ne.symm ntrd2))
  have f89 := Fld.other W60 f57 (Or.inl (Ne.symm ntrd2))
  have f90 := Fld.other W60 Fw27 (Or.inr (slot_ne (Or.inl (own_g hw 27 rfl)) (Or.inl (own_g hw 54 rfl)) (by decide) (t := (.object oN)) (t' := .int) (by decide) (by decide)))
  have Q91 := HQ.other Q58 W60 nv_vr_tr
  have N60 := Fr.snoc X60 N27 G_tr
  have Zs60 := Nat.le_trans Zs27 (Keep.of_wr W60).1
  have K60 : Keep h0 H60 [tr, a, ac] := K27.wr W60 (Or.inl (List.mem_of_getElem? (i := 0) rfl))
  show Go p.tables e below P (T60.setTop (mkF m 23 #[oR tr, oJ key, oS, oR lv] []))
  exact Go.retV X60 hx hlk hret (hb hby own_d5_23) (fun U hU hF => hP U _ _ (by rw [hU, e60]; exact ⟨d2, rfl, N60, K60, f90, Fw60, f71, f72, f73, f74, f75, f76, f77, f78, f79, f80, f81, f82, SZ_d2, f83, f84, f85, f86, f87, f88, f89⟩) ⟨hF.1, hF.2.1, hF.2.2.mono (by decide) (by decide)⟩)
theorem own_efjpro (m : MethodId) (tr : Addr) (key : Int64) (lv : Addr) : entryFrame m #[(.ref tr), (.long key), (.ref lv)] 4 = mkF m 0 #[oR tr, oJ key, oS, oR lv] [] := by
  (first | (simp [entryFrame, mkF, argsToLocals, Value.category]; done) | rfl)
set_option maxRecDepth 65536 in
set_option maxHeartbeats 40000000 in
theorem own_rmjpro (l : Launch) (Z : State) (a0 : Array Value) (hw : ∀ d ∈ tables_1, d.before a0 Z = true) (ws : List Jvm.Cond) (tr : Nat) (key : Int64) (lv : Nat) (a : Nat) (sz : Int32) (ka : Int64) (la : Nat) (ac : Nat) (ta : Int32) (qa : Int64) (kc : Int64) (lc : Nat) (qc : Int64) (wa : Int64) (wc : Int64) (wv : Int64) (h0 : Heap) (n0 : Nat) (Z0 : n0 ≤ h0.size) (E_tr : Exa Z h0 tr oT) (G_tr : n0 ≤ tr) (F_tr_root : Fld Z h0 tr oT "root" oNd (.ref a)) (F_tr_size : Fld Z h0 tr oT "size" "I" (.int sz)) (E_a : Exa Z h0 a oN) (G_a : n0 ≤ a) (F_a_key : Fld Z h0 a oN "key" "J" (.long ka)) (F_a_level : Fld Z h0 a oN "level" oLd (.ref la)) (F_a_left : Fld Z h0 a oN "left" oNd .null) (F_a_right : Fld Z h0 a oN "right" oNd (.ref ac)) (F_a_height : Fld Z h0 a oN "height" "I" (.int ta)) (F_a_quantity : Fld Z h0 a oN "quantity" "J" (.long qa)) (E_ac : Exa Z h0 ac oN) (G_ac : n0 ≤ ac) (F_ac_key : Fld Z h0 ac oN "key" "J" (.long kc)) (F_ac_level : Fld Z h0 ac oN "level" oLd (.ref lc)) (F_ac_left : Fld Z h0 ac oN "left" oNd .null) (F_ac_right : Fld Z h0 ac oN "right" oNd .null) (F_ac_height : Fld Z h0 ac oN "height" "I" (.int (1 : Int32))) (F_ac_quantity : Fld Z h0 ac oN "quantity" "J" (.long qc)) (E_la : Exa Z h0 la oL) (G_la : n0 ≤ la) (F_la_quantity : Fld Z h0 la oL "quantity" "J" (.long wa)) (E_lc : Exa Z h0 lc oL) (G_lc : n0 ≤ lc) (F_lc_quantity : Fld Z h0 lc oL "quantity" "J" (.long wc)) (E_lv : Exa Z h0 lv oL) (G_lv : n0 ≤ lv) (F_lv_quantity : Fld Z h0 lv oL "quantity" "J" (.long wv)) (ne_tr_a : tr ≠ a) (ne_tr_ac : tr ≠ ac) (ne_tr_la : tr ≠ la) (ne_tr_lc : tr ≠ lc) (ne_tr_lv : tr ≠ lv) (ne_a_ac : a ≠ ac) (ne_a_la : a ≠ la) (ne_a_lc : a ≠ lc) (ne_a_lv : a ≠ lv) (ne_ac_la : ac ≠ la) (ne_ac_lc : ac ≠ lc) (ne_ac_lv : ac ≠ lv) (ne_la_lc : la ≠ lc) (ne_la_lv : la ≠ lv) (ne_lc_lv : lc ≠ lv) (hk : ¬ key < ka) (hk2 : ¬ key < kc) :
    Con l Z (⟨oT, "put", "(JLcom/example/rotunda/rotunda/BookSide$Level;)V"⟩ : MethodName) prog_29_method_5_code 4 none ws ({ frames := 5, cells := 1, slots := 6, locals := 76 } : Room) #[(.ref tr), (.long key), (.ref lv)] h0 (fun v h L => ∃ d2 : Nat, v = none ∧ Fr n0 L ∧ Keep h0 h [tr, a, ac] ∧ Fld Z h tr oT "root" oNd (.ref ac) ∧ Fld Z h tr oT "size" "I" (.int (sz + (1 : Int32))) ∧ Fld Z h a oN "height" "I" (.int (1 : Int32)) ∧ Fld Z h a oN "key" "J" (.long ka) ∧ Fld Z h a oN "left" oNd .null ∧ Fld Z h a oN "level" oLd (.ref la) ∧ Fld Z h a oN "quantity" "J" (.long (((0 : Int64) + wa) + (0 : Int64))) ∧ Fld Z h a oN "right" oNd .null ∧ Fld Z h ac oN "height" "I" (.int ((own_f11 ((own_f11 (0 : Int32) (0 : Int32)) + (1 : Int32)) (1 : Int32)) + (1 : Int32))) ∧ Fld Z h ac oN "key" "J" (.long kc) ∧ Fld Z h ac oN "left" oNd (.ref a) ∧ Fld Z h ac oN "level" oLd (.ref lc) ∧ Fld Z h ac oN "quantity" "J" (.long (((((0 : Int64) + wa) + (0 : Int64)) + wc) + wv)) ∧ Fld Z h ac oN "right" oNd (.ref d2) ∧ h0.size ≤ d2 ∧ Exa Z h d2 oN ∧ Fld Z h d2 oN "height" "I" (.int (1 : Int32)) ∧ Fld Z h d2 oN "key" "J" (.long key) ∧ Fld Z h d2 oN "left" oNd .null ∧ Fld Z h d2 oN "level" oLd (.ref lv) ∧ Fld Z h d2 oN "quantity" "J" (.long wv) ∧ Fld Z h d2 oN "right" oNd .null) := by
  refine Con.intro (plainFor_of_name own_pn_0) ?_
  intro p e s m below meth c s₁ P hx hby hml hown hnm hret hlk hZ X0 e0 hP
  have N0 := Fr.nil n0
  have hown : s.vm.findClass oT = some m.cls := hown
  refine Go.cast (own_efjpro m tr key lv) ?_
  show Go p.tables e below P (s₁.setTop (mkF m 0 #[oR tr, oJ key, oS, oR lv] []))
  refine Go.s (fun kz => XS.aloadN X0.here hx rfl (hb hby own_d5_0) rfl rfl kz) ?_
  refine Go.s (fun kz => XS.aloadN X0.here hx rfl (hb hby own_d5_1) rfl rfl kz) ?_
  show Go p.tables e below P (s₁.setTop (mkF m 2 #[oR tr, oJ key, oS, oR lv] [(.ref tr), (.ref tr)]))
  obtain ⟨T1, X1, e1, st1⟩ := getF X0 hx hZ hown (host := "") (Or.inl (own_g hw 26 rfl)) Via.refl e0 F_tr_root (g := (mkF m 2 #[oR tr, oJ key, oS, oR lv] [(.ref tr), (.ref tr)])) rfl rfl (hb hby own_d5_2)
  refine Go.s (fun {t} => st1 t) ?_
  refine Go.s (fun kz => XT.lloadN X1.here hx rfl (hb hby own_d5_5) rfl kz) ?_
  refine Go.s (fun kz => XS.aloadN X1.here hx rfl (hb hby own_d5_6) rfl rfl kz) ?_
  show Go p.tables e below P (T1.setTop (mkF m 7 #[oR tr, oJ key, oS, oR lv] [(.ref lv), (.long key), (.ref a), (.ref tr)]))
  obtain ⟨v2, T2, L2, X2, Q2, st2⟩ := Con.static (own_rmpro l Z a0 hw [] a key lv ka la ac ta qa kc lc qc wa wc wv h0 n0 Z0 E_a G_a F_a_key F_a_level F_a_left F_a_right F_a_height F_a_quantity E_ac G_ac F_ac_key F_ac_level F_ac_left F_ac_right F_ac_height F_ac_quantity E_la G_la F_la_quantity E_lc G_lc F_lc_quantity E_lv G_lv F_lv_quantity ne_a_ac ne_a_la ne_a_lc ne_a_lv ne_ac_la ne_ac_lc ne_ac_lv ne_la_lc ne_la_lv ne_lc_lv hk hk2) X1 hx hZ (W := 1) hown (own_g hw 33 rfl) (own_g hw 34 rfl) (own_g hw 16 rfl) (own_g hw 35 rfl) (by decide) (by decide) (by decide) (by decide) (by decide) e1 (g := (mkF m 7 #[oR tr, oJ key, oS, oR lv] [(.ref lv), (.long key), (.ref a), (.ref tr)])) rfl (by rw [hml]; rfl) (argsL := [(.ref a), (.long key), (.ref lv)]) (rest := [(.ref tr)]) rfl (lenOf own_pd_6 rfl) rfl (by show 2 * 0 + _ ≤ _; exact Nat.le_of_eq rfl) (hb hby own_d5_7)
  obtain ⟨H2, e2⟩ : ∃ z, T2.heap = z := ⟨_, rfl⟩
  rw [e2] at Q2
  obtain ⟨d2, rfl, Nq2, Kq2, Fp2_0, Fp2_1, Fp2_2, Fp2_3, Fp2_4, Fp2_5, Fp2_6, Fp2_7, Fp2_8, Fp2_9, Fp2_10, Fp2_11, Fp2_12, Fp2_13, Fp2_14, Fp2_15, Fp2_16, Fp2_17, Fp2_18, Fp2_19⟩ := Q2
  have N2 := Fr.app N0 Nq2
  have ntrd2 : tr ≠ d2 := Nat.ne_of_lt (Nat.lt_of_lt_of_le E_tr.lt Fp2_12)
  have nad2 : a ≠ d2 := Nat.ne_of_lt (Nat.lt_of_lt_of_le E_a.lt Fp2_12)
  have nacd2 : ac ≠ d2 := Nat.ne_of_lt (Nat.lt_of_lt_of_le E_ac.lt Fp2_12)
  have nlad2 : la ≠ d2 := Nat.ne_of_lt (Nat.lt_of_lt_of_le E_la.lt Fp2_12)
  have nlcd2 : lc ≠ d2 := Nat.ne_of_lt (Nat.lt_of_lt_of_le E_lc.lt Fp2_12)
  have nlvd2 : lv ≠ d2 := Nat.ne_of_lt (Nat.lt_of_lt_of_le E_lv.lt Fp2_12)
  have G_d2 : n0 ≤ d2 := Nat.le_trans Z0 Fp2_12
  have SZ_d2 : h0.size ≤ d2 := Nat.le_trans (Keep.refl h0 [tr, a, ac]).1 Fp2_12
  have Zs2 := Nat.le_trans Z0 Kq2.1
  have f3 := Exa.keep E_tr Kq2
  have f4 := Fld.keep F_tr_root Kq2 (ninS ne_tr_a (ninS ne_tr_ac nin0))
  have f5 := Fld.keep F_tr_size Kq2 (ninS ne_tr_a (ninS ne_tr_ac nin0))
  have f6 := Exa.keep E_a Kq2
  have f13 := Exa.keep E_ac Kq2
  have f20 := Exa.keep E_la Kq2
  have f21 := Fld.keep F_la_quantity Kq2 (ninS (Ne.symm ne_a_la) (ninS (Ne.symm ne_ac_la) nin0))
  have f22 := Exa.keep E_lc Kq2
  have f23 := Fld.keep F_lc_quantity Kq2 (ninS (Ne.symm ne_a_lc) (ninS (Ne.symm ne_ac_lc) nin0))
  have f24 := Exa.keep E_lv Kq2
  have f25 := Fld.keep F_lv_quantity Kq2 (ninS (Ne.symm ne_a_lv) (ninS (Ne.symm ne_ac_lv) nin0))
  have K2 := (Keep.refl h0 [tr, a, ac]).trans Kq2 (allS (Or.inl (List.mem_of_getElem? (i := 1) rfl)) (allS (Or.inl (List.mem_of_getElem? (i := 2) rfl)) all0))
  refine Go.s (fun {t} => st2) ?_
  show Go p.tables e below P (T2.setTop (mkF m 10 #[oR tr, oJ key, oS, oR lv] [(.ref ac), (.ref tr)]))
  obtain ⟨T26, H26, X26, e26, W26, st26⟩ := putF X2 hx hZ hown (host := "") (Or.inl (own_g hw 26 rfl)) Via.refl e2 f4 f3 (Or.inl (own_g hw 27 rfl)) (own_g hw 15 rfl) (ty := (.object oN)) (by decide) rfl rfl (g := (mkF m 10 #[oR tr, oJ key, oS, oR lv] [(.ref ac), (.ref tr)])) rfl rfl (hb hby own_d5_10)
  refine Go.s (fun {t} => st26 t) ?_
  have Fw26 := Fld.same W26 f4
  have f27 := Exa.wr W26 f3
  have f29 := Fld.other W26 f5 (Or.inr (slot_ne (Or.inl (own_g hw 54 rfl)) (Or.inl (own_g hw 27 rfl)) (by decide) (t := .int) (t' := (.object oN)) (by decide) (by decide)))
  have f30 := Exa.wr W26 f6
  have f31 := Exa.wr W26 f13
  have f32 := Exa.wr W26 f20
  have f33 := Fld.other W26 f21 (Or.inl (Ne.symm ne_tr_la))
  have f34 := Exa.wr W26 f22
  have f35 := Fld.other W26 f23 (Or.inl (Ne.symm ne_tr_lc))
  have f36 := Exa.wr W26 f24
  have f37 := Fld.other W26 f25 (Or.inl (Ne.symm ne_tr_lv))
  have f38 := Fld.other W26 Fp2_0 (Or.inl (Ne.symm ne_tr_a))
  have f39 := Fld.other W26 Fp2_1 (Or.inl (Ne.symm ne_tr_a))
  have f40 := Fld.other W26 Fp2_2 (Or.inl (Ne.symm ne_tr_a))
  have f41 := Fld.other W26 Fp2_3 (Or.inl (Ne.symm ne_tr_a))
  have f42 := Fld.other W26 Fp2_4 (Or.inl (Ne.symm ne_tr_a))
  have f43 := Fld.other W26 Fp2_5 (Or.inl (Ne.symm ne_tr_a))
  have f44 := Fld.other W26 Fp2_6 (Or.inl (Ne.symm ne_tr_ac))
  have f45 := Fld.other W26 Fp2_7 (Or.inl (Ne.symm ne_tr_ac))
  have f46 := Fld.other W26 Fp2_8 (Or.inl (Ne.symm ne_tr_ac))
  have f47 := Fld.other W26 Fp2_9 (Or.inl (Ne.symm ne_tr_ac))
  have f48 := Fld.other W26 Fp2_10 (Or.inl (Ne.symm ne_tr_ac))
  have f49 := Fld.other W26 Fp2_11 (Or.inl (Ne.symm ne_tr_ac))
  have f50 := Exa.wr W26 Fp2_13
  have f51 := Fld.other W26 Fp2_14 (Or.inl (Ne.symm ntrd2))
  have f52 := Fld.other W26 Fp2_15 (Or.inl (Ne.symm ntrd2))
  have f53 := Fld.other W26 Fp2_16 (Or.inl (Ne.symm ntrd2))
  have f54 := Fld.other W26 Fp2_17 (Or.inl (Ne.symm ntrd2))
  have f55 := Fld.other W26 Fp2_18 (Or.inl (Ne.symm ntrd2))
  have f56 := Fld.other W26 Fp2_19 (Or.inl (Ne.symm ntrd2))
  have N26 := Fr.snoc X26 N2 G_tr
  have Zs26 := Nat.le_trans Zs2 (Keep.of_wr W26).1
  have K26 : Keep h0 H26 [tr, a, ac] := K2.wr W26 (Or.inl (List.mem_of_getElem? (i := 0) rfl))
  refine Go.s (fun kz => XS.aloadN X26.here hx rfl (hb hby own_d5_13) rfl rfl kz) ?_
  refine Go.s (fun kz => XS.dup X26.here hx rfl (hb hby own_d5_14) rfl rfl kz) ?_
  show Go p.tables e below P (T26.setTop (mkF m 15 #[oR tr, oJ key, oS, oR lv] [(.ref tr), (.ref tr)]))
  obtain ⟨T57, X57, e57, st57⟩ := getF X26 hx hZ hown (host := "") (Or.inl (own_g hw 53 rfl)) Via.refl e26 f29 (g := (mkF m 15 #[oR tr, oJ key, oS, oR lv] [(.ref tr), (.ref tr)])) rfl rfl (hb hby own_d5_15)
  refine Go.s (fun {t} => st57 t) ?_
  refine Go.s (fun kz => XS.iconst X57.here hx rfl (hb hby own_d5_18) kz) ?_
  refine Go.s (fun kz => XS.iadd X57.here hx rfl (hb hby own_d5_19) rfl kz) ?_
  show Go p.tables e below P (T57.setTop (mkF m 20 #[oR tr, oJ key, oS, oR lv] [(.int (sz + (1 : Int32))), (.ref tr)]))
  obtain ⟨T58, H58, X58, e58, W58, st58⟩ := putF X57 hx hZ hown (host := "") (Or.inl (own_g hw 53 rfl)) Via.refl e57 f29 f27 (Or.inl (own_g hw 54 rfl)) (own_g hw 15 rfl) (ty := .int) (by decide) rfl rfl (g := (mkF m 20 #[oR tr, oJ key, oS, oR lv] [(.int (sz + (1 : Int32))), (.ref tr)])) rfl rfl (hb hby own_d5_20)
  refine Go.s (fun {t} => st58 t) ?_
  have Fw58 := Fld.same W58 f29
  have f59 := Exa.wr W58 f27
  have f61 := Exa.wr W58 f30
  have f62 := Exa.wr W58 f31
  have f63 := Exa.wr W58 f32
  have f64 := Fld.other W58 f33 (Or.inl (Ne.symm ne_tr_la))
  have f65 := Exa.wr W58 f34
  have f66 := Fld.other W58 f35 (Or.inl (Ne.symm ne_tr_lc))
  have f67 := Exa.wr W58 f36
  have f68 := Fld.other W58 f37 (Or.inl (Ne.symm ne_tr_lv))
  have f69 := Fld.other W58 f38 (Or.inl (Ne.symm ne_tr_a))
  have f70 := Fld.other W58 f39 (Or.inl (Ne.symm ne_tr_a))
  have f71 := Fld.other W58 f40 (Or.inl (Ne.symm ne_tr_a))
  have f72 := Fld.other W58 f41 (Or.inl (Ne.symm ne_tr_a))
  have f73 := Fld.other W58 f42 (Or.inl (Ne.symm ne_tr_a))
  have f74 := Fld.other W58 f43 (Or.inl (Ne.symm ne_tr_a))
  have f75 := Fld.other W58 f44 (Or.inl (Ne.symm ne_tr_ac))
  have f76 := Fld.other W58 f45 (Or.inl (Ne.symm ne_tr_ac))
  have f77 := Fld.other W58 f46 (Or.inl (Ne.symm ne_tr_ac))
  have f78 := Fld.other W58 f47 (Or.inl (Ne.symm ne_tr_ac))
  have f79 := Fld.other W58 f48 (Or.inl (Ne.symm ne_tr_ac))
  have f80 := Fld.other W58 f49 (Or.inl (Ne.symm ne_tr_ac))
  have f81 := Exa.wr W58 f50
  have f82 := Fld.other W58 f51 (Or.inl (Ne.symm ntrd2))
  have f83 := Fld.other W58 f52 (Or.inl (Ne.symm ntrd2))
  have f84 := Fld.other W58 f53 (Or.inl (Ne.symm ntrd2))
  have f85 := Fld.other W58 f54 (Or.inl (Ne.symm ntrd2))
  have f86 := Fld.other W58 f55 (Or.inl (Ne.symm ntrd2))
  have f87 := Fld.other W58 f56 (Or.inl (Ne.symm ntrd2))
  have f88 := Fld.other W58 Fw26 (Or.inr (slot_ne (Or.inl (own_g hw 27 rfl)) (Or.inl (own_g hw 54 rfl)) (by decide) (t := (.object oN)) (t' := .int) (by decide) (by decide)))
  have N58 := Fr.snoc X58 N26 G_tr
  have Zs58 := Nat.le_trans Zs26 (Keep.of_wr W58).1
  have K58 : Keep h0 H58 [tr, a, ac] := K26.wr W58 (Or.inl (List.mem_of_getElem? (i := 0) rfl))
  show Go p.tables e below P (T58.setTop (mkF m 23 #[oR tr, oJ key, oS, oR lv] []))
  exact Go.retV X58 hx hlk hret (hb hby own_d5_23) (fun U hU hF => hP U _ _ (by rw [hU, e58]; exact ⟨d2, rfl, N58, K58, f88, Fw58, f69, f70, f71, f72, f73, f74, f75, f76, f77, f78, f79, f80, SZ_d2, f81, f82, f83, f84, f85, f86, f87⟩) ⟨hF.1, hF.2.1, hF.2.2.mono (by decide) (by decide)⟩)
theorem own_efjprz (m : MethodId) (tr : Addr) (key : Int64) (lv : Addr) : entryFrame m #[(.ref tr), (.long key), (.ref lv)] 4 = mkF m 0 #[oR tr, oJ key, oS, oR lv] [] := by
  (first | (simp [entryFrame, mkF, argsToLocals, Value.category]; done) | rfl)
set_option maxRecDepth 65536 in
set_option maxHeartbeats 40000000 in
theorem own_rmjprz (l : Launch) (Z : State) (a0 : Array Value) (hw : ∀ d ∈ tables_1, d.before a0 Z = true) (ws : List Jvm.Cond) (tr : Nat) (key : Int64) (lv : Nat) (a : Nat) (sz : Int32) (ka : Int64) (la : Nat) (ac : Nat) (ta : Int32) (qa : Int64) (kc : Int64) (lc : Nat) (qc : Int64) (wa : Int64) (wc : Int64) (wv : Int64) (h0 : Heap) (n0 : Nat) (Z0 : n0 ≤ h0.size) (E_tr : Exa Z h0 tr oT) (G_tr : n0 ≤ tr) (F_tr_root : Fld Z h0 tr oT "root" oNd (.ref a)) (F_tr_size : Fld Z h0 tr oT "size" "I" (.int sz)) (E_a : Exa Z h0 a oN) (G_a : n0 ≤ a) (F_a_key : Fld Z h0 a oN "key" "J" (.long ka)) (F_a_level : Fld Z h0 a oN "level" oLd (.ref la)) (F_a_left : Fld Z h0 a oN "left" oNd .null) (F_a_right : Fld Z h0 a oN "right" oNd (.ref ac)) (F_a_height : Fld Z h0 a oN "height" "I" (.int ta)) (F_a_quantity : Fld Z h0 a oN "quantity" "J" (.long qa)) (E_ac : Exa Z h0 ac oN) (G_ac : n0 ≤ ac) (F_ac_key : Fld Z h0 ac oN "key" "J" (.long kc)) (F_ac_level : Fld Z h0 ac oN "level" oLd (.ref lc)) (F_ac_left : Fld Z h0 ac oN "left" oNd .null) (F_ac_right : Fld Z h0 ac oN "right" oNd .null) (F_ac_height : Fld Z h0 ac oN "height" "I" (.int (1 : Int32))) (F_ac_quantity : Fld Z h0 ac oN "quantity" "J" (.long qc)) (E_la : Exa Z h0 la oL) (G_la : n0 ≤ la) (F_la_quantity : Fld Z h0 la oL "quantity" "J" (.long wa)) (E_lc : Exa Z h0 lc oL) (G_lc : n0 ≤ lc) (F_lc_quantity : Fld Z h0 lc oL "quantity" "J" (.long wc)) (E_lv : Exa Z h0 lv oL) (G_lv : n0 ≤ lv) (F_lv_quantity : Fld Z h0 lv oL "quantity" "J" (.long wv)) (ne_tr_a : tr ≠ a) (ne_tr_ac : tr ≠ ac) (ne_tr_la : tr ≠ la) (ne_tr_lc : tr ≠ lc) (ne_tr_lv : tr ≠ lv) (ne_a_ac : a ≠ ac) (ne_a_la : a ≠ la) (ne_a_lc : a ≠ lc) (ne_a_lv : a ≠ lv) (ne_ac_la : ac ≠ la) (ne_ac_lc : ac ≠ lc) (ne_ac_lv : ac ≠ lv) (ne_la_lc : la ≠ lc) (ne_la_lv : la ≠ lv) (ne_lc_lv : lc ≠ lv) (hk : ¬ key < ka) (hk2 : key < kc) :
    Con l Z (⟨oT, "put", "(JLcom/example/rotunda/rotunda/BookSide$Level;)V"⟩ : MethodName) prog_29_method_5_code 4 none ws ({ frames := 5, cells := 1, slots := 6, locals := 76 } : Room) #[(.ref tr), (.long key), (.ref lv)] h0 (fun v h L => ∃ d2 : Nat, v = none ∧ Fr n0 L ∧ Keep h0 h [tr, a, ac] ∧ Fld Z h tr oT "root" oNd (.ref d2) ∧ Fld Z h tr oT "size" "I" (.int (sz + (1 : Int32))) ∧ Fld Z h a oN "height" "I" (.int (1 : Int32)) ∧ Fld Z h a oN "key" "J" (.long ka) ∧ Fld Z h a oN "left" oNd .null ∧ Fld Z h a oN "level" oLd (.ref la) ∧ Fld Z h a oN "quantity" "J" (.long (((0 : Int64) + wa) + (0 : Int64))) ∧ Fld Z h a oN "right" oNd .null ∧ Fld Z h ac oN "height" "I" (.int (1 : Int32)) ∧ Fld Z h ac oN "key" "J" (.long kc) ∧ Fld Z h ac oN "left" oNd .null ∧ Fld Z h ac oN "level" oLd (.ref lc) ∧ Fld Z h ac oN "quantity" "J" (.long (((0 : Int64) + wc) + (0 : Int64))) ∧ Fld Z h ac oN "right" oNd .null ∧ h0.size ≤ d2 ∧ Exa Z h d2 oN ∧ Fld Z h d2 oN "height" "I" (.int ((own_f11 ((own_f11 (0 : Int32) (0 : Int32)) + (1 : Int32)) ((own_f11 (0 : Int32) (0 : Int32)) + (1 : Int32))) + (1 : Int32))) ∧ Fld Z h d2 oN "key" "J" (.long key) ∧ Fld Z h d2 oN "left" oNd (.ref a) ∧ Fld Z h d2 oN "level" oLd (.ref lv) ∧ Fld Z h d2 oN "quantity" "J" (.long (((((0 : Int64) + wa) + (0 : Int64)) + wv) + (((0 : Int64) + wc) + (0 : Int64)))) ∧ Fld Z h d2 oN "right" oNd (.ref ac)) := by
  refine Con.intro (plainFor_of_name own_pn_0) ?_
  intro p e s m below meth c s₁ P hx hby hml hown hnm hret hlk hZ X0 e0 hP
  have N0 := Fr.nil n0
  have hown : s.vm.findClass oT = some m.cls := hown
  refine Go.cast (own_efjprz m tr key lv) ?_
  show Go p.tables e below P (s₁.setTop (mkF m 0 #[oR tr, oJ key, oS, oR lv] []))
  refine Go.s (fun kz => XS.aloadN X0.here hx rfl (hb hby own_d5_0) rfl rfl kz) ?_
  refine Go.s (fun kz => XS.aloadN X0.here hx rfl (hb hby own_d5_1) rfl rfl kz) ?_
  show Go p.tables e below P (s₁.setTop (mkF m 2 #[oR tr, oJ key, oS, oR lv] [(.ref tr), (.ref tr)]))
  obtain ⟨T1, X1, e1, st1⟩ := getF X0 hx hZ hown (host := "") (Or.inl (own_g hw 26 rfl)) Via.refl e0 F_tr_root (g := (mkF m 2 #[oR tr, oJ key, oS, oR lv] [(.ref tr), (.ref tr)])) rfl rfl (hb hby own_d5_2)
  refine Go.s (fun {t} => st1 t) ?_
  refine Go.s (fun kz => XT.lloadN X1.here hx rfl (hb hby own_d5_5) rfl kz) ?_
  refine Go.s (fun kz => XS.aloadN X1.here hx rfl (hb hby own_d5_6) rfl rfl kz) ?_
  show Go p.tables e below P (T1.setTop (mkF m 7 #[oR tr, oJ key, oS, oR lv] [(.ref lv), (.long key), (.ref a), (.ref tr)]))
  obtain ⟨v2, T2, L2, X2, Q2, st2⟩ := Con.static (own_rmprz l Z a0 hw [] a key lv ka la ac ta qa kc lc qc wa wc wv h0 n0 Z0 E_a G_a F_a_key F_a_level F_a_left F_a_right F_a_height F_a_quantity E_ac G_ac F_ac_key F_ac_level F_ac_left F_ac_right F_ac_height F_ac_quantity E_la G_la F_la_quantity E_lc G_lc F_lc_quantity E_lv G_lv F_lv_quantity ne_a_ac ne_a_la ne_a_lc ne_a_lv ne_ac_la ne_ac_lc ne_ac_lv ne_la_lc ne_la_lv ne_lc_lv hk hk2) X1 hx hZ (W := 1) hown (own_g hw 33 rfl) (own_g hw 34 rfl) (own_g hw 16 rfl) (own_g hw 35 rfl) (by decide) (by decide) (by decide) (by decide) (by decide) e1 (g := (mkF m 7 #[oR tr, oJ key, oS, oR lv] [(.ref lv), (.long key), (.ref a), (.ref tr)])) rfl (by rw [hml]; rfl) (argsL := [(.ref a), (.long key), (.ref lv)]) (rest := [(.ref tr)]) rfl (lenOf own_pd_6 rfl) rfl (by show 2 * 0 + _ ≤ _; exact Nat.le_of_eq rfl) (hb hby own_d5_7)
  obtain ⟨H2, e2⟩ : ∃ z, T2.heap = z := ⟨_, rfl⟩
  rw [e2] at Q2
  obtain ⟨d2, rfl, Nq2, Kq2, Fp2_0, Fp2_1, Fp2_2, Fp2_3, Fp2_4, Fp2_5, Fp2_6, Fp2_7, Fp2_8, Fp2_9, Fp2_10, Fp2_11, Fp2_12, Fp2_13, Fp2_14, Fp2_15, Fp2_16, Fp2_17, Fp2_18, Fp2_19⟩ := Q2
  have N2 := Fr.app N0 Nq2
  have ntrd2 : tr ≠ d2 := Nat.ne_of_lt (Nat.lt_of_lt_of_le E_tr.lt Fp2_12)
  have nad2 : a ≠ d2 := Nat.ne_of_lt (Nat.lt_of_lt_of_le E_a.lt Fp2_12)
  have nacd2 : ac ≠ d2 := Nat.ne_of_lt (Nat.lt_of_lt_of_le E_ac.lt Fp2_12)
  have nlad2 : la ≠ d2 := Nat.ne_of_lt (Nat.lt_of_lt_of_le E_la.lt Fp2_12)
  have nlcd2 : lc ≠ d2 := Nat.ne_of_lt (Nat.lt_of_lt_of_le E_lc.lt Fp2_12)
  have nlvd2 : lv ≠ d2 := Nat.ne_of_lt (Nat.lt_of_lt_of_le E_lv.lt Fp2_12)
  have G_d2 : n0 ≤ d2 := Nat.le_trans Z0 Fp2_12
  have SZ_d2 : h0.size ≤ d2 := Nat.le_trans (Keep.refl h0 [tr, a, ac]).1 Fp2_12
  have Zs2 := Nat.le_trans Z0 Kq2.1
  have f3 := Exa.keep E_tr Kq2
  have f4 := Fld.keep F_tr_root Kq2 (ninS ne_tr_a (ninS ne_tr_ac nin0))
  have f5 := Fld.keep F_tr_size Kq2 (ninS ne_tr_a (ninS ne_tr_ac nin0))
  have f6 := Exa.keep E_a Kq2
  have f13 := Exa.keep E_ac Kq2
  have f20 := Exa.keep E_la Kq2
  have f21 := Fld.keep F_la_quantity Kq2 (ninS (Ne.symm ne_a_la) (ninS (Ne.symm ne_ac_la) nin0))
  have f22 := Exa.keep E_lc Kq2
  have f23 := Fld.keep F_lc_quantity Kq2 (ninS (Ne.symm ne_a_lc) (ninS (Ne.symm ne_ac_lc) nin0))
  have f24 := Exa.keep E_lv Kq2
  have f25 := Fld.keep F_lv_quantity Kq2 (ninS (Ne.symm ne_a_lv) (ninS (Ne.symm ne_ac_lv) nin0))
  have K2 := (Keep.refl h0 [tr, a, ac]).trans Kq2 (allS (Or.inl (List.mem_of_getElem? (i := 1) rfl)) (allS (Or.inl (List.mem_of_getElem? (i := 2) rfl)) all0))
  refine Go.s (fun {t} => st2) ?_
  show Go p.tables e below P (T2.setTop (mkF m 10 #[oR tr, oJ key, oS, oR lv] [(.ref d2), (.ref tr)]))
  obtain ⟨T26, H26, X26, e26, W26, st26⟩ := putF X2 hx hZ hown (host := "") (Or.inl (own_g hw 26 rfl)) Via.refl e2 f4 f3 (Or.inl (own_g hw 27 rfl)) (own_g hw 15 rfl) (ty := (.object oN)) (by decide) rfl rfl (g := (mkF m 10 #[oR tr, oJ key, oS, oR lv] [(.ref d2), (.ref tr)])) rfl rfl (hb hby own_d5_10)
  refine Go.s (fun {t} => st26 t) ?_
  have Fw26 := Fld.same W26 f4
  have f27 := Exa.wr W26 f3
  have f29 := Fld.other W26 f5 (Or.inr (slot_ne (Or.inl (own_g hw 54 rfl)) (Or.inl (own_g hw 27 rfl)) (by decide) (t := .int) (t' := (.object oN)) (by decide) (by decide)))
  have f30 := Exa.wr W26 f6
  have f31 := Exa.wr W26 f13
  have f32 := Exa.wr W26 f20
  have f33 := Fld.other W26 f21 (Or.inl (Ne.symm ne_tr_la))
  have f34 := Exa.wr W26 f22
  have f35 := Fld.other W26 f23 (Or.inl (Ne.symm ne_tr_lc))
  have f36 := Exa.wr W26 f24
  have f37 := Fld.other W26 f25 (Or.inl (Ne.symm ne_tr_lv))
  have f38 := Fld.other W26 Fp2_0 (Or.inl (Ne.symm ne_tr_a))
  have f39 := Fld.other W26 Fp2_1 (Or.inl (Ne.symm ne_tr_a))
  have f40 := Fld.other W26 Fp2_2 (Or.inl (Ne.symm ne_tr_a))
  have f41 := Fld.other W26 Fp2_3 (Or.inl (Ne.symm ne_tr_a))
  have f42 := Fld.other W26 Fp2_4 (Or.inl (Ne.symm ne_tr_a))
  have f43 := Fld.other W26 Fp2_5 (Or.inl (Ne.symm ne_tr_a))
  have f44 := Fld.other W26 Fp2_6 (Or.inl (Ne.symm ne_tr_ac))
  have f45 := Fld.other W26 Fp2_7 (Or.inl (Ne.symm ne_tr_ac))
  have f46 := Fld.other W26 Fp2_8 (Or.inl (Ne.symm ne_tr_ac))
  have f47 := Fld.other W26 Fp2_9 (Or.inl (Ne.symm ne_tr_ac))
  have f48 := Fld.other W26 Fp2_10 (Or.inl (Ne.symm ne_tr_ac))
  have f49 := Fld.other W26 Fp2_11 (Or.inl (Ne.symm ne_tr_ac))
  have f50 := Exa.wr W26 Fp2_13
  have f51 := Fld.other W26 Fp2_14 (Or.inl (Ne.symm ntrd2))
  have f52 := Fld.other W26 Fp2_15 (Or.inl (Ne.symm ntrd2))
  have f53 := Fld.other W26 Fp2_16 (Or.inl (Ne.symm ntrd2))
  have f54 := Fld.other W26 Fp2_17 (Or.inl (Ne.symm ntrd2))
  have f55 := Fld.other W26 Fp2_18 (Or.inl (Ne.symm ntrd2))
  have f56 := Fld.other W26 Fp2_19 (Or.inl (Ne.symm ntrd2))
  have N26 := Fr.snoc X26 N2 G_tr
  have Zs26 := Nat.le_trans Zs2 (Keep.of_wr W26).1
  have K26 : Keep h0 H26 [tr, a, ac] := K2.wr W26 (Or.inl (List.mem_of_getElem? (i := 0) rfl))
  refine Go.s (fun kz => XS.aloadN X26.here hx rfl (hb hby own_d5_13) rfl rfl kz) ?_
  refine Go.s (fun kz => XS.dup X26.here hx rfl (hb hby own_d5_14) rfl rfl kz) ?_
  show Go p.tables e below P (T26.setTop (mkF m 15 #[oR tr, oJ key, oS, oR lv] [(.ref tr), (.ref tr)]))
  obtain ⟨T57, X57, e57, st57⟩ := getF X26 hx hZ hown (host := "") (Or.inl (own_g hw 53 rfl)) Via.refl e26 f29 (g := (mkF m 15 #[oR tr, oJ key, oS, oR lv] [(.ref tr), (.ref tr)])) rfl rfl (hb hby own_d5_15)
  refine Go.s (fun {t} => st57 t) ?_
  refine Go.s (fun kz => XS.iconst X57.here hx rfl (hb hby own_d5_18) kz) ?_
  refine Go.s (fun kz => XS.iadd X57.here hx rfl (hb hby own_d5_19) rfl kz) ?_
  show Go p.tables e below P (T57.setTop (mkF m 20 #[oR tr, oJ key, oS, oR lv] [(.int (sz + (1 : Int32))), (.ref tr)]))
  obtain ⟨T58, H58, X58, e58, W58, st58⟩ := putF X57 hx hZ hown (host := "") (Or.inl (own_g hw 53 rfl)) Via.refl e57 f29 f27 (Or.inl (own_g hw 54 rfl)) (own_g hw 15 rfl) (ty := .int) (by decide) rfl rfl (g := (mkF m 20 #[oR tr, oJ key, oS, oR lv] [(.int (sz + (1 : Int32))), (.ref tr)])) rfl rfl (hb hby own_d5_20)
  refine Go.s (fun {t} => st58 t) ?_
  have Fw58 := Fld.same W58 f29
  have f59 := Exa.wr W58 f27
  have f61 := Exa.wr W58 f30
  have f62 := Exa.wr W58 f31
  have f63 := Exa.wr W58 f32
  have f64 := Fld.other W58 f33 (Or.inl (Ne.symm ne_tr_la))
  have f65 := Exa.wr W58 f34
  have f66 := Fld.other W58 f35 (Or.inl (Ne.symm ne_tr_lc))
  have f67 := Exa.wr W58 f36
  have f68 := Fld.other W58 f37 (Or.inl (Ne.symm ne_tr_lv))
  have f69 := Fld.other W58 f38 (Or.inl (Ne.symm ne_tr_a))
  have f70 := Fld.other W58 f39 (Or.inl (Ne.symm ne_tr_a))
  have f71 := Fld.other W58 f40 (Or.inl (Ne.symm ne_tr_a))
  have f72 := Fld.other W58 f41 (Or.inl (Ne.symm ne_tr_a))
  have f73 := Fld.other W58 f42 (Or.inl (Ne.symm ne_tr_a))
  have f74 := Fld.other W58 f43 (Or.inl (Ne.symm ne_tr_a))
  have f75 := Fld.other W58 f44 (Or.inl (Ne.symm ne_tr_ac))
  have f76 := Fld.other W58 f45 (Or.inl (Ne.symm ne_tr_ac))
  have f77 := Fld.other W58 f46 (Or.inl (Ne.symm ne_tr_ac))
  have f78 := Fld.other W58 f47 (Or.inl (Ne.symm ne_tr_ac))
  have f79 := Fld.other W58 f48 (Or.inl (Ne.symm ne_tr_ac))
  have f80 := Fld.other W58 f49 (Or.inl (Ne.symm ne_tr_ac))
  have f81 := Exa.wr W58 f50
  have f82 := Fld.other W58 f51 (Or.inl (Ne.symm ntrd2))
  have f83 := Fld.other W58 f52 (Or.inl (Ne.symm ntrd2))
  have f84 := Fld.other W58 f53 (Or.inl (Ne.symm ntrd2))
  have f85 := Fld.other W58 f54 (Or.inl (Ne.symm ntrd2))
  have f86 := Fld.other W58 f55 (Or.inl (Ne.symm ntrd2))
  have f87 := Fld.other W58 f56 (Or.inl (Ne.symm ntrd2))
  have f88 := Fld.other W58 Fw26 (Or.inr (slot_ne (Or.inl (own_g hw 27 rfl)) (Or.inl (own_g hw 54 rfl)) (by decide) (t := (.object oN)) (t' := .int) (by decide) (by decide)))
  have N58 := Fr.snoc X58 N26 G_tr
  have Zs58 := Nat.le_trans Zs26 (Keep.of_wr W58).1
  have K58 : Keep h0 H58 [tr, a, ac] := K26.wr W58 (Or.inl (List.mem_of_getElem? (i := 0) rfl))
  show Go p.tables e below P (T58.setTop (mkF m 23 #[oR tr, oJ key, oS, oR lv] []))
  exact Go.retV X58 hx hlk hret (hb hby own_d5_23) (fun U hU hF => hP U _ _ (by rw [hU, e58]; exact ⟨d2, rfl, N58, K58, f88, Fw58, f69, f70, f71, f72, f73, f74, f75, f76, f77, f78, f79, f80, SZ_d2, f81, f82, f83, f84, f85, f86, f87⟩) ⟨hF.1, hF.2.1, hF.2.2.mono (by decide) (by decide)⟩)
theorem own_efjplo (m : MethodId) (tr : Addr) (key : Int64) (lv : Addr) : entryFrame m #[(.ref tr), (.long key), (.ref lv)] 4 = mkF m 0 #[oR tr, oJ key, oS, oR lv] [] := by
  (first | (simp [entryFrame, mkF, argsToLocals, Value.category]; done) | rfl)
set_option maxRecDepth 65536 in
set_option maxHeartbeats 40000000 in
theorem own_rmjplo (l : Launch) (Z : State) (a0 : Array Value) (hw : ∀ d ∈ tables_1, d.before a0 Z = true) (ws : List Jvm.Cond) (tr : Nat) (key : Int64) (lv : Nat) (a : Nat) (sz : Int32) (ka : Int64) (la : Nat) (ac : Nat) (ta : Int32) (qa : Int64) (kc : Int64) (lc : Nat) (qc : Int64) (wa : Int64) (wc : Int64) (wv : Int64) (h0 : Heap) (n0 : Nat) (Z0 : n0 ≤ h0.size) (E_tr : Exa Z h0 tr oT) (G_tr : n0 ≤ tr) (F_tr_root : Fld Z h0 tr oT "root" oNd (.ref a)) (F_tr_size : Fld Z h0 tr oT "size" "I" (.int sz)) (E_a : Exa Z h0 a oN) (G_a : n0 ≤ a) (F_a_key : Fld Z h0 a oN "key" "J" (.long ka)) (F_a_level : Fld Z h0 a oN "level" oLd (.ref la)) (F_a_left : Fld Z h0 a oN "left" oNd (.ref ac)) (F_a_right : Fld Z h0 a oN "right" oNd .null) (F_a_height : Fld Z h0 a oN "height" "I" (.int ta)) (F_a_quantity : Fld Z h0 a oN "quantity" "J" (.long qa)) (E_ac : Exa Z h0 ac oN) (G_ac : n0 ≤ ac) (F_ac_key : Fld Z h0 ac oN "key" "J" (.long kc)) (F_ac_level : Fld Z h0 ac oN "level" oLd (.ref lc)) (F_ac_left : Fld Z h0 ac oN "left" oNd .null) (F_ac_right : Fld Z h0 ac oN "right" oNd .null) (F_ac_height : Fld Z h0 ac oN "height" "I" (.int (1 : Int32))) (F_ac_quantity : Fld Z h0 ac oN "quantity" "J" (.long qc)) (E_la : Exa Z h0 la oL) (G_la : n0 ≤ la) (F_la_quantity : Fld Z h0 la oL "quantity" "J" (.long wa)) (E_lc : Exa Z h0 lc oL) (G_lc : n0 ≤ lc) (F_lc_quantity : Fld Z h0 lc oL "quantity" "J" (.long wc)) (E_lv : Exa Z h0 lv oL) (G_lv : n0 ≤ lv) (F_lv_quantity : Fld Z h0 lv oL "quantity" "J" (.long wv)) (ne_tr_a : tr ≠ a) (ne_tr_ac : tr ≠ ac) (ne_tr_la : tr ≠ la) (ne_tr_lc : tr ≠ lc) (ne_tr_lv : tr ≠ lv) (ne_a_ac : a ≠ ac) (ne_a_la : a ≠ la) (ne_a_lc : a ≠ lc) (ne_a_lv : a ≠ lv) (ne_ac_la : ac ≠ la) (ne_ac_lc : ac ≠ lc) (ne_ac_lv : ac ≠ lv) (ne_la_lc : la ≠ lc) (ne_la_lv : la ≠ lv) (ne_lc_lv : lc ≠ lv) (hk : key < ka) (hk2 : key < kc) :
    Con l Z (⟨oT, "put", "(JLcom/example/rotunda/rotunda/BookSide$Level;)V"⟩ : MethodName) prog_29_method_5_code 4 none ws ({ frames := 5, cells := 1, slots := 6, locals := 76 } : Room) #[(.ref tr), (.long key), (.ref lv)] h0 (fun v h L => ∃ d2 : Nat, v = none ∧ Fr n0 L ∧ Keep h0 h [tr, a, ac] ∧ Fld Z h tr oT "root" oNd (.ref ac) ∧ Fld Z h tr oT "size" "I" (.int (sz + (1 : Int32))) ∧ Fld Z h a oN "height" "I" (.int (1 : Int32)) ∧ Fld Z h a oN "key" "J" (.long ka) ∧ Fld Z h a oN "left" oNd .null ∧ Fld Z h a oN "level" oLd (.ref la) ∧ Fld Z h a oN "quantity" "J" (.long (((0 : Int64) + wa) + (0 : Int64))) ∧ Fld Z h a oN "right" oNd .null ∧ Fld Z h ac oN "height" "I" (.int ((own_f11 (1 : Int32) ((own_f11 (0 : Int32) (0 : Int32)) + (1 : Int32))) + (1 : Int32))) ∧ Fld Z h ac oN "key" "J" (.long kc) ∧ Fld Z h ac oN "left" oNd (.ref d2) ∧ Fld Z h ac oN "level" oLd (.ref lc) ∧ Fld Z h ac oN "quantity" "J" (.long ((wv + wc) + (((0 : Int64) + wa) + (0 : Int64)))) ∧ Fld Z h ac oN "right" oNd (.ref a) ∧ h0.size ≤ d2 ∧ Exa Z h d2 oN ∧ Fld Z h d2 oN "height" "I" (.int (1 : Int32)) ∧ Fld Z h d2 oN "key" "J" (.long key) ∧ Fld Z h d2 oN "left" oNd .null ∧ Fld Z h d2 oN "level" oLd (.ref lv) ∧ Fld Z h d2 oN "quantity" "J" (.long wv) ∧ Fld Z h d2 oN "right" oNd .null) := by
  refine Con.intro (plainFor_of_name own_pn_0) ?_
  intro p e s m below meth c s₁ P hx hby hml hown hnm hret hlk hZ X0 e0 hP
  have N0 := Fr.nil n0
  have hown : s.vm.findClass oT = some m.cls := hown
  refine Go.cast (own_efjplo m tr key lv) ?_
  show Go p.tables e below P (s₁.setTop (mkF m 0 #[oR tr, oJ key, oS, oR lv] []))
  refine Go.s (fun kz => XS.aloadN X0.here hx rfl (hb hby own_d5_0) rfl rfl kz) ?_
  refine Go.s (fun kz => XS.aloadN X0.here hx rfl (hb hby own_d5_1) rfl rfl kz) ?_
  show Go p.tables e below P (s₁.setTop (mkF m 2 #[oR tr, oJ key, oS, oR lv] [(.ref tr), (.ref tr)]))
  obtain ⟨T1, X1, e1, st1⟩ := getF X0 hx hZ hown (host := "") (Or.inl (own_g hw 26 rfl)) Via.refl e0 F_tr_root (g := (mkF m 2 #[oR tr, oJ key, oS, oR lv] [(.ref tr), (.ref tr)])) rfl rfl (hb hby own_d5_2)
  refine Go.s (fun {t} => st1 t) ?_
  refine Go.s (fun kz => XT.lloadN X1.here hx rfl (hb hby own_d5_5) rfl kz) ?_
  refine Go.s (fun kz => XS.aloadN X1.here hx rfl (hb hby own_d5_6) rfl rfl kz) ?_
  show Go p.tables e below P (T1.setTop (mkF m 7 #[oR tr, oJ key, oS, oR lv] [(.ref lv), (.long key), (.ref a), (.ref tr)]))
  obtain ⟨v2, T2, L2, X2, Q2, st2⟩ := Con.static (own_rmplo l Z a0 hw [] a key lv ka la ac ta qa kc lc qc wa wc wv h0 n0 Z0 E_a G_a F_a_key F_a_level F_a_left F_a_right F_a_height F_a_quantity E_ac G_ac F_ac_key F_ac_level F_ac_left F_ac_right F_ac_height F_ac_quantity E_la G_la F_la_quantity E_lc G_lc F_lc_quantity E_lv G_lv F_lv_quantity ne_a_ac ne_a_la ne_a_lc ne_a_lv ne_ac_la ne_ac_lc ne_ac_lv ne_la_lc ne_la_lv ne_lc_lv hk hk2) X1 hx hZ (W := 1) hown (own_g hw 33 rfl) (own_g hw 34 rfl) (own_g hw 16 rfl) (own_g hw 35 rfl) (by decide) (by decide) (by decide) (by decide) (by decide) e1 (g := (mkF m 7 #[oR tr, oJ key, oS, oR lv] [(.ref lv), (.long key), (.ref a), (.ref tr)])) rfl (by rw [hml]; rfl) (argsL := [(.ref a), (.long key), (.ref lv)]) (rest := [(.ref tr)]) rfl (lenOf own_pd_6 rfl) rfl (by show 2 * 0 + _ ≤ _; exact Nat.le_of_eq rfl) (hb hby own_d5_7)
  obtain ⟨H2, e2⟩ : ∃ z, T2.heap = z := ⟨_, rfl⟩
  rw [e2] at Q2
  obtain ⟨d2, rfl, Nq2, Kq2, Fp2_0, Fp2_1, Fp2_2, Fp2_3, Fp2_4, Fp2_5, Fp2_6, Fp2_7, Fp2_8, Fp2_9, Fp2_10, Fp2_11, Fp2_12, Fp2_13, Fp2_14, Fp2_15, Fp2_16, Fp2_17, Fp2_18, Fp2_19⟩ := Q2
  have N2 := Fr.app N0 Nq2
  have ntrd2 : tr ≠ d2 := Nat.ne_of_lt (Nat.lt_of_lt_of_le E_tr.lt Fp2_12)
  have nad2 : a ≠ d2 := Nat.ne_of_lt (Nat.lt_of_lt_of_le E_a.lt Fp2_12)
  have nacd2 : ac ≠ d2 := Nat.ne_of_lt (Nat.lt_of_lt_of_le E_ac.lt Fp2_12)
  have nlad2 : la ≠ d2 := Nat.ne_of_lt (Nat.lt_of_lt_of_le E_la.lt Fp2_12)
  have nlcd2 : lc ≠ d2 := Nat.ne_of_lt (Nat.lt_of_lt_of_le E_lc.lt Fp2_12)
  have nlvd2 : lv ≠ d2 := Nat.ne_of_lt (Nat.lt_of_lt_of_le E_lv.lt Fp2_12)
  have G_d2 : n0 ≤ d2 := Nat.le_trans Z0 Fp2_12
  have SZ_d2 : h0.size ≤ d2 := Nat.le_trans (Keep.refl h0 [tr, a, ac]).1 Fp2_12
  have Zs2 := Nat.le_trans Z0 Kq2.1
  have f3 := Exa.keep E_tr Kq2
  have f4 := Fld.keep F_tr_root Kq2 (ninS ne_tr_a (ninS ne_tr_ac nin0))
  have f5 := Fld.keep F_tr_size Kq2 (ninS ne_tr_a (ninS ne_tr_ac nin0))
  have f6 := Exa.keep E_a Kq2
  have f13 := Exa.keep E_ac Kq2
  have f20 := Exa.keep E_la Kq2
  have f21 := Fld.keep F_la_quantity Kq2 (ninS (Ne.symm ne_a_la) (ninS (Ne.symm ne_ac_la) nin0))
  have f22 := Exa.keep E_lc Kq2
  have f23 := Fld.keep F_lc_quantity Kq2 (ninS (Ne.symm ne_a_lc) (ninS (Ne.symm ne_ac_lc) nin0))
  have f24 := Exa.keep E_lv Kq2
  have f25 := Fld.keep F_lv_quantity Kq2 (ninS (Ne.symm ne_a_lv) (ninS (Ne.symm ne_ac_lv) nin0))
  have K2 := (Keep.refl h0 [tr, a, ac]).trans Kq2 (allS (Or.inl (List.mem_of_getElem? (i := 1) rfl)) (allS (Or.inl (List.mem_of_getElem? (i := 2) rfl)) all0))
  refine Go.s (fun {t} => st2) ?_
  show Go p.tables e below P (T2.setTop (mkF m 10 #[oR tr, oJ key, oS, oR lv] [(.ref ac), (.ref tr)]))
  obtain ⟨T26, H26, X26, e26, W26, st26⟩ := putF X2 hx hZ hown (host := "") (Or.inl (own_g hw 26 rfl)) Via.refl e2 f4 f3 (Or.inl (own_g hw 27 rfl)) (own_g hw 15 rfl) (ty := (.object oN)) (by decide) rfl rfl (g := (mkF m 10 #[oR tr, oJ key, oS, oR lv] [(.ref ac), (.ref tr)])) rfl rfl (hb hby own_d5_10)
  refine Go.s (fun {t} => st26 t) ?_
  have Fw26 := Fld.same W26 f4
  have f27 := Exa.wr W26 f3
  have f29 := Fld.other W26 f5 (Or.inr (slot_ne (Or.inl (own_g hw 54 rfl)) (Or.inl (own_g hw 27 rfl)) (by decide) (t := .int) (t' := (.object oN)) (by decide) (by decide)))
  have f30 := Exa.wr W26 f6
  have f31 := Exa.wr W26 f13
  have f32 := Exa.wr W26 f20
  have f33 := Fld.other W26 f21 (Or.inl (Ne.symm ne_tr_la))
  have f34 := Exa.wr W26 f22
  have f35 := Fld.other W26 f23 (Or.inl (Ne.symm ne_tr_lc))
  have f36 := Exa.wr W26 f24
  have f37 := Fld.other W26 f25 (Or.inl (Ne.symm ne_tr_lv))
  have f38 := Fld.other W26 Fp2_0 (Or.inl (Ne.symm ne_tr_a))
  have f39 := Fld.other W26 Fp2_1 (Or.inl (Ne.symm ne_tr_a))
  have f40 := Fld.other W26 Fp2_2 (Or.inl (Ne.symm ne_tr_a))
  have f41 := Fld.other W26 Fp2_3 (Or.inl (Ne.symm ne_tr_a))
  have f42 := Fld.other W26 Fp2_4 (Or.inl (Ne.symm ne_tr_a))
  have f43 := Fld.other W26 Fp2_5 (Or.inl (Ne.symm ne_tr_a))
  have f44 := Fld.other W26 Fp2_6 (Or.inl (Ne.symm ne_tr_ac))
  have f45 := Fld.other W26 Fp2_7 (Or.inl (Ne.symm ne_tr_ac))
  have f46 := Fld.other W26 Fp2_8 (Or.inl (Ne.symm ne_tr_ac))
  have f47 := Fld.other W26 Fp2_9 (Or.inl (Ne.symm ne_tr_ac))
  have f48 := Fld.other W26 Fp2_10 (Or.inl (Ne.symm ne_tr_ac))
  have f49 := Fld.other W26 Fp2_11 (Or.inl (Ne.symm ne_tr_ac))
  have f50 := Exa.wr W26 Fp2_13
  have f51 := Fld.other W26 Fp2_14 (Or.inl (Ne.symm ntrd2))
  have f52 := Fld.other W26 Fp2_15 (Or.inl (Ne.symm ntrd2))
  have f53 := Fld.other W26 Fp2_16 (Or.inl (Ne.symm ntrd2))
  have f54 := Fld.other W26 Fp2_17 (Or.inl (Ne.symm ntrd2))
  have f55 := Fld.other W26 Fp2_18 (Or.inl (Ne.symm ntrd2))
  have f56 := Fld.other W26 Fp2_19 (Or.inl (Ne.symm ntrd2))
  have N26 := Fr.snoc X26 N2 G_tr
  have Zs26 := Nat.le_trans Zs2 (Keep.of_wr W26).1
  have K26 : Keep h0 H26 [tr, a, ac] := K2.wr W26 (Or.inl (List.mem_of_getElem? (i := 0) rfl))
  refine Go.s (fun kz => XS.aloadN X26.here hx rfl (hb hby own_d5_13) rfl rfl kz) ?_
  refine Go.s (fun kz => XS.dup X26.here hx rfl (hb hby own_d5_14) rfl rfl kz) ?_
  show Go p.tables e below P (T26.setTop (mkF m 15 #[oR tr, oJ key, oS, oR lv] [(.ref tr), (.ref tr)]))
  obtain ⟨T57, X57, e57, st57⟩ := getF X26 hx hZ hown (host := "") (Or.inl (own_g hw 53 rfl)) Via.refl e26 f29 (g := (mkF m 15 #[oR tr, oJ key, oS, oR lv] [(.ref tr), (.ref tr)])) rfl rfl (hb hby own_d5_15)
  refine Go.s (fun {t} => st57 t) ?_
  refine Go.s (fun kz => XS.iconst X57.here hx rfl (hb hby own_d5_18) kz) ?_
  refine Go.s (fun kz => XS.iadd X57.here hx rfl (hb hby own_d5_19) rfl kz) ?_
  show Go p.tables e below P (T57.setTop (mkF m 20 #[oR tr, oJ key, oS, oR lv] [(.int (sz + (1 : Int32))), (.ref tr)]))
  obtain ⟨T58, H58, X58, e58, W58, st58⟩ := putF X57 hx hZ hown (host := "") (Or.inl (own_g hw 53 rfl)) Via.refl e57 f29 f27 (Or.inl (own_g hw 54 rfl)) (own_g hw 15 rfl) (ty := .int) (by decide) rfl rfl (g := (mkF m 20 #[oR tr, oJ key, oS, oR lv] [(.int (sz + (1 : Int32))), (.ref tr)])) rfl rfl (hb hby own_d5_20)
  refine Go.s (fun {t} => st58 t) ?_
  have Fw58 := Fld.same W58 f29
  have f59 := Exa.wr W58 f27
  have f61 := Exa.wr W58 f30
  have f62 := Exa.wr W58 f31
  have f63 := Exa.wr W58 f32
  have f64 := Fld.other W58 f33 (Or.inl (Ne.symm ne_tr_la))
  have f65 := Exa.wr W58 f34
  have f66 := Fld.other W58 f35 (Or.inl (Ne.symm ne_tr_lc))
  have f67 := Exa.wr W58 f36
  have f68 := Fld.other W58 f37 (Or.inl (Ne.symm ne_tr_lv))
  have f69 := Fld.other W58 f38 (Or.inl (Ne.symm ne_tr_a))
  have f70 := Fld.other W58 f39 (Or.inl (Ne.symm ne_tr_a))
  have f71 := Fld.other W58 f40 (Or.inl (Ne.symm ne_tr_a))
  have f72 := Fld.other W58 f41 (Or.inl (Ne.symm ne_tr_a))
  have f73 := Fld.other W58 f42 (Or.inl (Ne.symm ne_tr_a))
  have f74 := Fld.other W58 f43 (Or.inl (Ne.symm ne_tr_a))
  have f75 := Fld.other W58 f44 (Or.inl (Ne.symm ne_tr_ac))
  have f76 := Fld.other W58 f45 (Or.inl (Ne.symm ne_tr_ac))
  have f77 := Fld.other W58 f46 (Or.inl (Ne.symm ne_tr_ac))
  have f78 := Fld.other W58 f47 (Or.inl (Ne.symm ne_tr_ac))
  have f79 := Fld.other W58 f48 (Or.inl (Ne.symm ne_tr_ac))
  have f80 := Fld.other W58 f49 (Or.inl (Ne.symm ne_tr_ac))
  have f81 := Exa.wr W58 f50
  have f82 := Fld.other W58 f51 (Or.inl (Ne.symm ntrd2))
  have f83 := Fld.other W58 f52 (Or.inl (Ne.symm ntrd2))
  have f84 := Fld.other W58 f53 (Or.inl (Ne.symm ntrd2))
  have f85 := Fld.other W58 f54 (Or.inl (Ne.symm ntrd2))
  have f86 := Fld.other W58 f55 (Or.inl (Ne.symm ntrd2))
  have f87 := Fld.other W58 f56 (Or.inl (Ne.symm ntrd2))
  have f88 := Fld.other W58 Fw26 (Or.inr (slot_ne (Or.inl (own_g hw 27 rfl)) (Or.inl (own_g hw 54 rfl)) (by decide) (t := (.object oN)) (t' := .int) (by decide) (by decide)))
  have N58 := Fr.snoc X58 N26 G_tr
  have Zs58 := Nat.le_trans Zs26 (Keep.of_wr W58).1
  have K58 : Keep h0 H58 [tr, a, ac] := K26.wr W58 (Or.inl (List.mem_of_getElem? (i := 0) rfl))
  show Go p.tables e below P (T58.setTop (mkF m 23 #[oR tr, oJ key, oS, oR lv] []))
  exact Go.retV X58 hx hlk hret (hb hby own_d5_23) (fun U hU hF => hP U _ _ (by rw [hU, e58]; exact ⟨d2, rfl, N58, K58, f88, Fw58, f69, f70, f71, f72, f73, f74, f75, f76, f77, f78, f79, f80, SZ_d2, f81, f82, f83, f84, f85, f86, f87⟩) ⟨hF.1, hF.2.1, hF.2.2.mono (by decide) (by decide)⟩)
theorem own_efjplz (m : MethodId) (tr : Addr) (key : Int64) (lv : Addr) : entryFrame m #[(.ref tr), (.long key), (.ref lv)] 4 = mkF m 0 #[oR tr, oJ key, oS, oR lv] [] := by
  (first | (simp [entryFrame, mkF, argsToLocals, Value.category]; done) | rfl)
set_option maxRecDepth 65536 in
set_option maxHeartbeats 40000000 in
theorem own_rmjplz (l : Launch) (Z : State) (a0 : Array Value) (hw : ∀ d ∈ tables_1, d.before a0 Z = true) (ws : List Jvm.Cond) (tr : Nat) (key : Int64) (lv : Nat) (a : Nat) (sz : Int32) (ka : Int64) (la : Nat) (ac : Nat) (ta : Int32) (qa : Int64) (kc : Int64) (lc : Nat) (qc : Int64) (wa : Int64) (wc : Int64) (wv : Int64) (h0 : Heap) (n0 : Nat) (Z0 : n0 ≤ h0.size) (E_tr : Exa Z h0 tr oT) (G_tr : n0 ≤ tr) (F_tr_root : Fld Z h0 tr oT "root" oNd (.ref a)) (F_tr_size : Fld Z h0 tr oT "size" "I" (.int sz)) (E_a : Exa Z h0 a oN) (G_a : n0 ≤ a) (F_a_key : Fld Z h0 a oN "key" "J" (.long ka)) (F_a_level : Fld Z h0 a oN "level" oLd (.ref la)) (F_a_left : Fld Z h0 a oN "left" oNd (.ref ac)) (F_a_right : Fld Z h0 a oN "right" oNd .null) (F_a_height : Fld Z h0 a oN "height" "I" (.int ta)) (F_a_quantity : Fld Z h0 a oN "quantity" "J" (.long qa)) (E_ac : Exa Z h0 ac oN) (G_ac : n0 ≤ ac) (F_ac_key : Fld Z h0 ac oN "key" "J" (.long kc)) (F_ac_level : Fld Z h0 ac oN "level" oLd (.ref lc)) (F_ac_left : Fld Z h0 ac oN "left" oNd .null) (F_ac_right : Fld Z h0 ac oN "right" oNd .null) (F_ac_height : Fld Z h0 ac oN "height" "I" (.int (1 : Int32))) (F_ac_quantity : Fld Z h0 ac oN "quantity" "J" (.long qc)) (E_la : Exa Z h0 la oL) (G_la : n0 ≤ la) (F_la_quantity : Fld Z h0 la oL "quantity" "J" (.long wa)) (E_lc : Exa Z h0 lc oL) (G_lc : n0 ≤ lc) (F_lc_quantity : Fld Z h0 lc oL "quantity" "J" (.long wc)) (E_lv : Exa Z h0 lv oL) (G_lv : n0 ≤ lv) (F_lv_quantity : Fld Z h0 lv oL "quantity" "J" (.long wv)) (ne_tr_a : tr ≠ a) (ne_tr_ac : tr ≠ ac) (ne_tr_la : tr ≠ la) (ne_tr_lc : tr ≠ lc) (ne_tr_lv : tr ≠ lv) (ne_a_ac : a ≠ ac) (ne_a_la : a ≠ la) (ne_a_lc : a ≠ lc) (ne_a_lv : a ≠ lv) (ne_ac_la : ac ≠ la) (ne_ac_lc : ac ≠ lc) (ne_ac_lv : ac ≠ lv) (ne_la_lc : la ≠ lc) (ne_la_lv : la ≠ lv) (ne_lc_lv : lc ≠ lv) (hk : key < ka) (hk2 : ¬ key < kc) :
    Con l Z (⟨oT, "put", "(JLcom/example/rotunda/rotunda/BookSide$Level;)V"⟩ : MethodName) prog_29_method_5_code 4 none ws ({ frames := 5, cells := 1, slots := 6, locals := 76 } : Room) #[(.ref tr), (.long key), (.ref lv)] h0 (fun v h L => ∃ d2 : Nat, v = none ∧ Fr n0 L ∧ Keep h0 h [tr, a, ac] ∧ Fld Z h tr oT "root" oNd (.ref d2) ∧ Fld Z h tr oT "size" "I" (.int (sz + (1 : Int32))) ∧ Fld Z h a oN "height" "I" (.int (1 : Int32)) ∧ Fld Z h a oN "key" "J" (.long ka) ∧ Fld Z h a oN "left" oNd .null ∧ Fld Z h a oN "level" oLd (.ref la) ∧ Fld Z h a oN "quantity" "J" (.long (((0 : Int64) + wa) + (0 : Int64))) ∧ Fld Z h a oN "right" oNd .null ∧ Fld Z h ac oN "height" "I" (.int (1 : Int32)) ∧ Fld Z h ac oN "key" "J" (.long kc) ∧ Fld Z h ac oN "left" oNd .null ∧ Fld Z h ac oN "level" oLd (.ref lc) ∧ Fld Z h ac oN "quantity" "J" (.long (((0 : Int64) + wc) + (0 : Int64))) ∧ Fld Z h ac oN "right" oNd .null ∧ h0.size ≤ d2 ∧ Exa Z h d2 oN ∧ Fld Z h d2 oN "height" "I" (.int ((own_f11 ((own_f11 (0 : Int32) (0 : Int32)) + (1 : Int32)) ((own_f11 (0 : Int32) (0 : Int32)) + (1 : Int32))) + (1 : Int32))) ∧ Fld Z h d2 oN "key" "J" (.long key) ∧ Fld Z h d2 oN "left" oNd (.ref ac) ∧ Fld Z h d2 oN "level" oLd (.ref lv) ∧ Fld Z h d2 oN "quantity" "J" (.long (((((0 : Int64) + wc) + (0 : Int64)) + wv) + (((0 : Int64) + wa) + (0 : Int64)))) ∧ Fld Z h d2 oN "right" oNd (.ref a)) := by
  refine Con.intro (plainFor_of_name own_pn_0) ?_
  intro p e s m below meth c s₁ P hx hby hml hown hnm hret hlk hZ X0 e0 hP
  have N0 := Fr.nil n0
  have hown : s.vm.findClass oT = some m.cls := hown
  refine Go.cast (own_efjplz m tr key lv) ?_
  show Go p.tables e below P (s₁.setTop (mkF m 0 #[oR tr, oJ key, oS, oR lv] []))
  refine Go.s (fun kz => XS.aloadN X0.here hx rfl (hb hby own_d5_0) rfl rfl kz) ?_
  refine Go.s (fun kz => XS.aloadN X0.here hx rfl (hb hby own_d5_1) rfl rfl kz) ?_
  show Go p.tables e below P (s₁.setTop (mkF m 2 #[oR tr, oJ key, oS, oR lv] [(.ref tr), (.ref tr)]))
  obtain ⟨T1, X1, e1, st1⟩ := getF X0 hx hZ hown (host := "") (Or.inl (own_g hw 26 rfl)) Via.refl e0 F_tr_root (g := (mkF m 2 #[oR tr, oJ key, oS, oR lv] [(.ref tr), (.ref tr)])) rfl rfl (hb hby own_d5_2)
  refine Go.s (fun {t} => st1 t) ?_
  refine Go.s (fun kz => XT.lloadN X1.here hx rfl (hb hby own_d5_5) rfl kz) ?_
  refine Go.s (fun kz => XS.aloadN X1.here hx rfl (hb hby own_d5_6) rfl rfl kz) ?_
  show Go p.tables e below P (T1.setTop (mkF m 7 #[oR tr, oJ key, oS, oR lv] [(.ref lv), (.long key), (.ref a), (.ref tr)]))
  obtain ⟨v2, T2, L2, X2, Q2, st2⟩ := Con.static (own_rmplz l Z a0 hw [] a key lv ka la ac ta qa kc lc qc wa wc wv h0 n0 Z0 E_a G_a F_a_key F_a_level F_a_left F_a_right F_a_height F_a_quantity E_ac G_ac F_ac_key F_ac_level F_ac_left F_ac_right F_ac_height F_ac_quantity E_la G_la F_la_quantity E_lc G_lc F_lc_quantity E_lv G_lv F_lv_quantity ne_a_ac ne_a_la ne_a_lc ne_a_lv ne_ac_la ne_ac_lc ne_ac_lv ne_la_lc ne_la_lv ne_lc_lv hk hk2) X1 hx hZ (W := 1) hown (own_g hw 33 rfl) (own_g hw 34 rfl) (own_g hw 16 rfl) (own_g hw 35 rfl) (by decide) (by decide) (by decide) (by decide) (by decide) e1 (g := (mkF m 7 #[oR tr, oJ key, oS, oR lv] [(.ref lv), (.long key), (.ref a), (.ref tr)])) rfl (by rw [hml]; rfl) (argsL := [(.ref a), (.long key), (.ref lv)]) (rest := [(.ref tr)]) rfl (lenOf own_pd_6 rfl) rfl (by show 2 * 0 + _ ≤ _; exact Nat.le_of_eq rfl) (hb hby own_d5_7)
  obtain ⟨H2, e2⟩ : ∃ z, T2.heap = z := ⟨_, rfl⟩
  rw [e2] at Q2
  obtain ⟨d2, rfl, Nq2, Kq2, Fp2_0, Fp2_1, Fp2_2, Fp2_3, Fp2_4, Fp2_5, Fp2_6, Fp2_7, Fp2_8, Fp2_9, Fp2_10, Fp2_11, Fp2_12, Fp2_13, Fp2_14, Fp2_15, Fp2_16, Fp2_17, Fp2_18, Fp2_19⟩ := Q2
  have N2 := Fr.app N0 Nq2
  have ntrd2 : tr ≠ d2 := Nat.ne_of_lt (Nat.lt_of_lt_of_le E_tr.lt Fp2_12)
  have nad2 : a ≠ d2 := Nat.ne_of_lt (Nat.lt_of_lt_of_le E_a.lt Fp2_12)
  have nacd2 : ac ≠ d2 := Nat.ne_of_lt (Nat.lt_of_lt_of_le E_ac.lt Fp2_12)
  have nlad2 : la ≠ d2 := Nat.ne_of_lt (Nat.lt_of_lt_of_le E_la.lt Fp2_12)
  have nlcd2 : lc ≠ d2 := Nat.ne_of_lt (Nat.lt_of_lt_of_le E_lc.lt Fp2_12)
  have nlvd2 : lv ≠ d2 := Nat.ne_of_lt (Nat.lt_of_lt_of_le E_lv.lt Fp2_12)
  have G_d2 : n0 ≤ d2 := Nat.le_trans Z0 Fp2_12
  have SZ_d2 : h0.size ≤ d2 := Nat.le_trans (Keep.refl h0 [tr, a, ac]).1 Fp2_12
  have Zs2 := Nat.le_trans Z0 Kq2.1
  have f3 := Exa.keep E_tr Kq2
  have f4 := Fld.keep F_tr_root Kq2 (ninS ne_tr_a (ninS ne_tr_ac nin0))
  have f5 := Fld.keep F_tr_size Kq2 (ninS ne_tr_a (ninS ne_tr_ac nin0))
  have f6 := Exa.keep E_a Kq2
  have f13 := Exa.keep E_ac Kq2
  have f20 := Exa.keep E_la Kq2
  have f21 := Fld.keep F_la_quantity Kq2 (ninS (Ne.symm ne_a_la) (ninS (Ne.symm ne_ac_la) nin0))
  have f22 := Exa.keep E_lc Kq2
  have f23 := Fld.keep F_lc_quantity Kq2 (ninS (Ne.symm ne_a_lc) (ninS (Ne.symm ne_ac_lc) nin0))
  have f24 := Exa.keep E_lv Kq2
  have f25 := Fld.keep F_lv_quantity Kq2 (ninS (Ne.symm ne_a_lv) (ninS (Ne.symm ne_ac_lv) nin0))
  have K2 := (Keep.refl h0 [tr, a, ac]).trans Kq2 (allS (Or.inl (List.mem_of_getElem? (i := 1) rfl)) (allS (Or.inl (List.mem_of_getElem? (i := 2) rfl)) all0))
  refine Go.s (fun {t} => st2) ?_
  show Go p.tables e below P (T2.setTop (mkF m 10 #[oR tr, oJ key, oS, oR lv] [(.ref d2), (.ref tr)]))
  obtain ⟨T26, H26, X26, e26, W26, st26⟩ := putF X2 hx hZ hown (host := "") (Or.inl (own_g hw 26 rfl)) Via.refl e2 f4 f3 (Or.inl (own_g hw 27 rfl)) (own_g hw 15 rfl) (ty := (.object oN)) (by decide) rfl rfl (g := (mkF m 10 #[oR tr, oJ key, oS, oR lv] [(.ref d2), (.ref tr)])) rfl rfl (hb hby own_d5_10)
  refine Go.s (fun {t} => st26 t) ?_
  have Fw26 := Fld.same W26 f4
  have f27 := Exa.wr W26 f3
  have f29 := Fld.other W26 f5 (Or.inr (slot_ne (Or.inl (own_g hw 54 rfl)) (Or.inl (own_g hw 27 rfl)) (by decide) (t := .int) (t' := (.object oN)) (by decide) (by decide)))
  have f30 := Exa.wr W26 f6
  have f31 := Exa.wr W26 f13
  have f32 := Exa.wr W26 f20
  have f33 := Fld.other W26 f21 (Or.inl (Ne.symm ne_tr_la))
  have f34 := Exa.wr W26 f22
  have f35 := Fld.other W26 f23 (Or.inl (Ne.symm ne_tr_lc))
  have f36 := Exa.wr W26 f24
  have f37 := Fld.other W26 f25 (Or.inl (Ne.symm ne_tr_lv))
  have f38 := Fld.other W26 Fp2_0 (Or.inl (Ne.symm ne_tr_a))
  have f39 := Fld.other W26 Fp2_1 (Or.inl (Ne.symm ne_tr_a))
  have f40 := Fld.other W26 Fp2_2 (Or.inl (Ne.symm ne_tr_a))
  have f41 := Fld.other W26 Fp2_3 (Or.inl (Ne.symm ne_tr_a))
  have f42 := Fld.other W26 Fp2_4 (Or.inl (Ne.symm ne_tr_a))
  have f43 := Fld.other W26 Fp2_5 (Or.inl (Ne.symm ne_tr_a))
  have f44 := Fld.other W26 Fp2_6 (Or.inl (Ne.symm ne_tr_ac))
  have f45 := Fld.other W26 Fp2_7 (Or.inl (Ne.symm ne_tr_ac))
  have f46 := Fld.other W26 Fp2_8 (Or.inl (Ne.symm ne_tr_ac))
  have f47 := Fld.other W26 Fp2_9 (Or.inl (Ne.symm ne_tr_ac))
  have f48 := Fld.other W26 Fp2_10 (Or.inl (Ne.symm ne_tr_ac))
  have f49 := Fld.other W26 Fp2_11 (Or.inl (Ne.symm ne_tr_ac))
  have f50 := Exa.wr W26 Fp2_13
  have f51 := Fld.other W26 Fp2_14 (Or.inl (Ne.symm ntrd2))
  have f52 := Fld.other W26 Fp2_15 (Or.inl (Ne.symm ntrd2))
  have f53 := Fld.other W26 Fp2_16 (Or.inl (Ne.symm ntrd2))
  have f54 := Fld.other W26 Fp2_17 (Or.inl (Ne.symm ntrd2))
  have f55 := Fld.other W26 Fp2_18 (Or.inl (Ne.symm ntrd2))
  have f56 := Fld.other W26 Fp2_19 (Or.inl (Ne.symm ntrd2))
  have N26 := Fr.snoc X26 N2 G_tr
  have Zs26 := Nat.le_trans Zs2 (Keep.of_wr W26).1
  have K26 : Keep h0 H26 [tr, a, ac] := K2.wr W26 (Or.inl (List.mem_of_getElem? (i := 0) rfl))
  refine Go.s (fun kz => XS.aloadN X26.here hx rfl (hb hby own_d5_13) rfl rfl kz) ?_
  refine Go.s (fun kz => XS.dup X26.here hx rfl (hb hby own_d5_14) rfl rfl kz) ?_
  show Go p.tables e below P (T26.setTop (mkF m 15 #[oR tr, oJ key, oS, oR lv] [(.ref tr), (.ref tr)]))
  obtain ⟨T57, X57, e57, st57⟩ := getF X26 hx hZ hown (host := "") (Or.inl (own_g hw 53 rfl)) Via.refl e26 f29 (g := (mkF m 15 #[oR tr, oJ key, oS, oR lv] [(.ref tr), (.ref tr)])) rfl rfl (hb hby own_d5_15)
  refine Go.s (fun {t} => st57 t) ?_
  refine Go.s (fun kz => XS.iconst X57.here hx rfl (hb hby own_d5_18) kz) ?_
  refine Go.s (fun kz => XS.iadd X57.here hx rfl (hb hby own_d5_19) rfl kz) ?_
  show Go p.tables e below P (T57.setTop (mkF m 20 #[oR tr, oJ key, oS, oR lv] [(.int (sz + (1 : Int32))), (.ref tr)]))
  obtain ⟨T58, H58, X58, e58, W58, st58⟩ := putF X57 hx hZ hown (host := "") (Or.inl (own_g hw 53 rfl)) Via.refl e57 f29 f27 (Or.inl (own_g hw 54 rfl)) (own_g hw 15 rfl) (ty := .int) (by decide) rfl rfl (g := (mkF m 20 #[oR tr, oJ key, oS, oR lv] [(.int (sz + (1 : Int32))), (.ref tr)])) rfl rfl (hb hby own_d5_20)
  refine Go.s (fun {t} => st58 t) ?_
  have Fw58 := Fld.same W58 f29
  have f59 := Exa.wr W58 f27
  have f61 := Exa.wr W58 f30
  have f62 := Exa.wr W58 f31
  have f63 := Exa.wr W58 f32
  have f64 := Fld.other W58 f33 (Or.inl (Ne.symm ne_tr_la))
  have f65 := Exa.wr W58 f34
  have f66 := Fld.other W58 f35 (Or.inl (Ne.symm ne_tr_lc))
  have f67 := Exa.wr W58 f36
  have f68 := Fld.other W58 f37 (Or.inl (Ne.symm ne_tr_lv))
  have f69 := Fld.other W58 f38 (Or.inl (Ne.symm ne_tr_a))
  have f70 := Fld.other W58 f39 (Or.inl (Ne.symm ne_tr_a))
  have f71 := Fld.other W58 f40 (Or.inl (Ne.symm ne_tr_a))
  have f72 := Fld.other W58 f41 (Or.inl (Ne.symm ne_tr_a))
  have f73 := Fld.other W58 f42 (Or.inl (Ne.symm ne_tr_a))
  have f74 := Fld.other W58 f43 (Or.inl (Ne.symm ne_tr_a))
  have f75 := Fld.other W58 f44 (Or.inl (Ne.symm ne_tr_ac))
  have f76 := Fld.other W58 f45 (Or.inl (Ne.symm ne_tr_ac))
  have f77 := Fld.other W58 f46 (Or.inl (Ne.symm ne_tr_ac))
  have f78 := Fld.other W58 f47 (Or.inl (Ne.symm ne_tr_ac))
  have f79 := Fld.other W58 f48 (Or.inl (Ne.symm ne_tr_ac))
  have f80 := Fld.other W58 f49 (Or.inl (Ne.symm ne_tr_ac))
  have f81 := Exa.wr W58 f50
  have f82 := Fld.other W58 f51 (Or.inl (Ne.symm ntrd2))
  have f83 := Fld.other W58 f52 (Or.inl (Ne.symm ntrd2))
  have f84 := Fld.other W58 f53 (Or.inl (Ne.symm ntrd2))
  have f85 := Fld.other W58 f54 (Or.inl (Ne.symm ntrd2))
  have f86 := Fld.other W58 f55 (Or.inl (Ne.symm ntrd2))
  have f87 := Fld.other W58 f56 (Or.inl (Ne.symm ntrd2))
  have f88 := Fld.other W58 Fw26 (Or.inr (slot_ne (Or.inl (own_g hw 27 rfl)) (Or.inl (own_g hw 54 rfl)) (by decide) (t := (.object oN)) (t' := .int) (by decide) (by decide)))
  have N58 := Fr.snoc X58 N26 G_tr
  have Zs58 := Nat.le_trans Zs26 (Keep.of_wr W58).1
  have K58 : Keep h0 H58 [tr, a, ac] := K26.wr W58 (Or.inl (List.mem_of_getElem? (i := 0) rfl))
  show Go p.tables e below P (T58.setTop (mkF m 23 #[oR tr, oJ key, oS, oR lv] []))
  exact Go.retV X58 hx hlk hret (hb hby own_d5_23) (fun U hU hF => hP U _ _ (by rw [hU, e58]; exact ⟨d2, rfl, N58, K58, f88, Fw58, f69, f70, f71, f72, f73, f74, f75, f76, f77, f78, f79, f80, SZ_d2, f81, f82, f83, f84, f85, f86, f87⟩) ⟨hF.1, hF.2.1, hF.2.2.mono (by decide) (by decide)⟩)
abbrev oKV := List (Int64 × Nat)
def own_N (Z : State) (h : Heap) (n0 a : Nat) (k : Int64) (lv : Nat) (L R : Value) (t : Int32) (q : Int64) : Prop :=
  Exa Z h a oN ∧ n0 ≤ a ∧ Fld Z h a oN "key" "J" (.long k) ∧ Fld Z h a oN "level" oLd (.ref lv) ∧ Fld Z h a oN "left" oNd L ∧ Fld Z h a oN "right" oNd R ∧ Fld Z h a oN "height" "I" (.int t) ∧ Fld Z h a oN "quantity" "J" (.long q)
def own_L (Z : State) (h : Heap) (n0 a : Nat) : Prop := Exa Z h a oL ∧ n0 ≤ a ∧ ∃ w : Int64, Fld Z h a oL "quantity" "J" (.long w)
theorem own_L.keep {Z : State} {h h' : Heap} {n0 a : Nat} {ws : List Nat} (q : own_L Z h n0 a) (K : Keep h h' ws) (n : a ∉ ws) : own_L Z h' n0 a := by
  obtain ⟨e, g, w, f⟩ := q
  exact ⟨Exa.keep e K, g, w, Fld.keep f K n⟩
def own_Sh (Z : State) (h : Heap) (n0 : Nat) (v : Value) (xs : oKV) (as : List Nat) : Prop :=
  (v = .null ∧ xs = [] ∧ as = []) ∨
  (∃ (a : Nat) (ka : Int64) (la : Nat) (qa : Int64), v = .ref a ∧ xs = [(ka, la)] ∧ as = [a] ∧ own_N Z h n0 a ka la .null .null 1 qa ∧ own_L Z h n0 la) ∨
  (∃ (a : Nat) (ka : Int64) (la : Nat) (qa : Int64) (ac : Nat) (kc : Int64) (lc : Nat) (qc : Int64), v = .ref a ∧ xs = [(kc, lc), (ka, la)] ∧ as = [a, ac] ∧ own_N Z h n0 a ka la (.ref ac) .null 2 qa ∧ own_N Z h n0 ac kc lc .null .null 1 qc ∧ own_L Z h n0 la ∧ own_L Z h n0 lc ∧ kc < ka) ∨
  (∃ (a : Nat) (ka : Int64) (la : Nat) (qa : Int64) (ac : Nat) (kc : Int64) (lc : Nat) (qc : Int64), v = .ref a ∧ xs = [(ka, la), (kc, lc)] ∧ as = [a, ac] ∧ own_N Z h n0 a ka la .null (.ref ac) 2 qa ∧ own_N Z h n0 ac kc lc .null .null 1 qc ∧ own_L Z h n0 la ∧ own_L Z h n0 lc ∧ ka < kc) ∨
  (∃ (a : Nat) (ka : Int64) (la : Nat) (qa : Int64) (ac : Nat) (kc : Int64) (lc : Nat) (qc : Int64) (ad : Nat) (kd : Int64) (ld : Nat) (qd : Int64), v = .ref a ∧ xs = [(kc, lc), (ka, la), (kd, ld)] ∧ as = [a, ac, ad] ∧ own_N Z h n0 a ka la (.ref ac) (.ref ad) 2 qa ∧ own_N Z h n0 ac kc lc .null .null 1 qc ∧ own_N Z h n0 ad kd ld .null .null 1 qd ∧ own_L Z h n0 la ∧ own_L Z h n0 lc ∧ own_L Z h n0 ld ∧ kc < ka ∧ ka < kd)
def own_Inv (Z : State) (h : Heap) (n0 hB tr : Nat) (xs : oKV) (as : List Nat) : Prop := ∃ (v : Value) (sz : Int32), Exa Z h tr oT ∧ n0 ≤ tr ∧ Fld Z h tr oT "root" oNd v ∧ Fld Z h tr oT "size" "I" (.int sz) ∧ own_Sh Z h n0 v xs as ∧ (tr :: (as ++ xs.map Prod.snd)).Nodup ∧ (∀ z ∈ as, hB ≤ z)
def own_G (Z : State) (h : Heap) : Nat → Value → oKV → Prop
  | 0, v, xs => v = .null ∧ xs = []
  | n + 1, v, xs => (v = .null ∧ xs = []) ∨ ∃ (a : Nat) (k : Int64) (lv : Nat) (L R : Value) (xl xr : oKV), v = .ref a ∧ Fld Z h a oN "key" "J" (.long k) ∧ Fld Z h a oN "level" oLd (.ref lv) ∧ Fld Z h a oN "left" oNd L ∧ Fld Z h a oN "right" oNd R ∧ own_G Z h n L xl ∧ own_G Z h n R xr ∧ xs = xl ++ (k, lv) :: xr ∧ (∀ y ∈ xl, y.1 < k) ∧ (∀ y ∈ xr, k < y.1)
theorem own_G.isRef {Z : State} {h : Heap} {n : Nat} {v : Value} {xs : oKV} (g : own_G Z h n v xs) : v.isRef = true := by
  cases n with
  | zero => rw [g.1]; rfl
  | succ n => rcases g with ⟨rfl, -⟩ | ⟨a, k, lv, L, R, xl, xr, rfl, -⟩ <;> rfl
theorem own_ne {L : List Nat} {a b : Nat} (q : L.Nodup) (i j : Nat) (hi : L[i]? = some a) (hj : L[j]? = some b) (hij : i ≠ j) : a ≠ b := by
  rintro rfl
  obtain ⟨h1, e1⟩ := List.getElem?_eq_some_iff.mp hi
  obtain ⟨h2, e2⟩ := List.getElem?_eq_some_iff.mp hj
  exact hij ((List.getElem_inj q).mp (e1.trans e2.symm))
theorem own_nd {a : Nat} {L : List Nat} (q : a ∉ L) (r : L.Nodup) : (a :: L).Nodup := List.nodup_cons.mpr ⟨q, r⟩
theorem own_gt {a b : Int64} (h : ¬ a < b) (n : b ≠ a) : b < a := by
  rw [Int64.lt_iff_toInt_lt] at h ⊢
  have : b.toInt ≠ a.toInt := fun q => n (Int64.toInt_inj.mp q)
  omega
theorem own_a0 {P : Int64 × Nat → Prop} : ∀ y ∈ ([] : oKV), P y := fun _ q => nomatch q
theorem own_aS {P : Int64 × Nat → Prop} {y : Int64 × Nat} {L : oKV} (q : P y) (r : ∀ x ∈ L, P x) : ∀ x ∈ y :: L, P x := fun x z => (List.mem_cons.mp z).elim (fun u => u ▸ q) (r x)
theorem own_ins (l1 l2 : oKV) (y : Int64 × Nat) : (l1 ++ y :: l2).Perm (y :: (l1 ++ l2)) := List.perm_middle
set_option maxHeartbeats 40000000 in
theorem own_put1 (l : Launch) (Z : State) (a0 : Array Value) (hw : ∀ d ∈ tables_1, d.before a0 Z = true) (tr : Nat) (key : Int64) (lv : Nat) (xs : oKV) (as : List Nat) (h0 : Heap) (n0 : Nat) (Z0 : n0 ≤ h0.size) (hB : Nat) (hBs : hB ≤ h0.size) (I : own_Inv Z h0 n0 hB tr xs as) (Lv : own_L Z h0 n0 lv) (hN : (tr :: lv :: (as ++ xs.map Prod.snd)).Nodup) (hK : ∀ y ∈ xs, y.1 ≠ key) (hlen : xs.length ≤ 2) :
    Con l Z (⟨oT, "put", "(JLcom/example/rotunda/rotunda/BookSide$Level;)V"⟩ : MethodName) prog_29_method_5_code 4 none [] ({ frames := 5, cells := 1, slots := 6, locals := 76 } : Room) #[(.ref tr), (.long key), (.ref lv)] h0 (fun o h L => ∃ (xs' : oKV) (as' : List Nat), o = none ∧ Fr n0 L ∧ Keep h0 h (tr :: as) ∧ own_Inv Z h n0 hB tr xs' as' ∧ xs'.Perm ((key, lv) :: xs)) := by
  obtain ⟨v, sz, E_tr, G_tr, F_root, F_size, Sh, -, hBa⟩ := I
  obtain ⟨E_lv, G_lv, wv, F_lv⟩ := Lv
  have N0 := Fr.nil n0
  rcases Sh with ⟨rfl, rfl, rfl⟩ | ⟨a, ka, la, qa, rfl, rfl, rfl, ⟨E_a, G_a, F_a_key, F_a_level, F_a_left, F_a_right, F_a_height, F_a_quantity⟩, ⟨E_la, G_la, wa, F_la⟩⟩ | ⟨a, ka, la, qa, ac, kc, lc, qc, rfl, rfl, rfl, ⟨E_a, G_a, F_a_key, F_a_level, F_a_left, F_a_right, F_a_height, F_a_quantity⟩, ⟨E_ac, G_ac, F_ac_key, F_ac_level, F_ac_left, F_ac_right, F_ac_height, F_ac_quantity⟩, ⟨E_la, G_la, wa, F_la⟩, ⟨E_lc, G_lc, wc, F_lc⟩, o1⟩ | ⟨a, ka, la, qa, ac, kc, lc, qc, rfl, rfl, rfl, ⟨E_a, G_a, F_a_key, F_a_level, F_a_left, F_a_right, F_a_height, F_a_quantity⟩, ⟨E_ac, G_ac, F_ac_key, F_ac_level, F_ac_left, F_ac_right, F_ac_height, F_ac_quantity⟩, ⟨E_la, G_la, wa, F_la⟩, ⟨E_lc, G_lc, wc, F_lc⟩, o1⟩ | ⟨a, ka, la, qa, ac, kc, lc, qc, ad, kd, ld, qd, rfl, rfl, rfl, ⟨E_a, G_a, F_a_key, F_a_level, F_a_left, F_a_right, F_a_height, F_a_quantity⟩, ⟨E_ac, G_ac, F_ac_key, F_ac_level, F_ac_left, F_ac_right, F_ac_height, F_ac_quantity⟩, ⟨E_ad, G_ad, F_ad_key, F_ad_level, F_ad_left, F_ad_right, F_ad_height, F_ad_quantity⟩, ⟨E_la, G_la, wa, F_la⟩, ⟨E_lc, G_lc, wc, F_lc⟩, ⟨E_ld, G_ld, wd, F_ld⟩, o1, o2⟩
  · skip
    refine Con.mono (own_rmjp0 l Z a0 hw [] tr key lv sz wv h0 n0 Z0 E_tr G_tr F_root F_size E_lv G_lv F_lv (own_ne hN 0 1 rfl rfl (by decide))) ?_
    intro v1 H1 L1 Q1
    obtain ⟨d1, rfl, Nq1, Kq1, Fp1_0, Fp1_1, Fp1_2, Fp1_3, Fp1_4, Fp1_5, Fp1_6, Fp1_7, Fp1_8, Fp1_9⟩ := Q1
    have N1 := Fr.app N0 Nq1
    have ntrd1 : tr ≠ d1 := Nat.ne_of_lt (Nat.lt_of_lt_of_le E_tr.lt Fp1_2)
    have nlvd1 : lv ≠ d1 := Nat.ne_of_lt (Nat.lt_of_lt_of_le E_lv.lt Fp1_2)
    have G_d1 : n0 ≤ d1 := Nat.le_trans Z0 Fp1_2
    have Zs1 := Nat.le_trans Z0 Kq1.1
    have f2 := Exa.keep E_tr Kq1
    have f5 := Exa.keep E_lv Kq1
    have f6 := Fld.keep F_lv Kq1 (ninS (Ne.symm (own_ne hN 0 1 rfl rfl (by decide))) nin0)
    exact ⟨[(key, lv)], [d1], rfl, Nq1, (Keep.refl h0 _).trans Kq1 (allS (Or.inl (List.mem_of_getElem? (i := 0) rfl)) all0), ⟨_, _, f2, G_tr, Fp1_0, Fp1_1, Or.inr (Or.inl ⟨d1, _, _, _, rfl, rfl, rfl, ⟨Fp1_3, G_d1, Fp1_5, Fp1_7, Fp1_6, Fp1_9, Fp1_4, Fp1_8⟩, ⟨f5, G_lv, _, f6⟩⟩), (own_nd (ninS ntrd1 (ninS (own_ne hN 0 1 rfl rfl (by decide)) nin0)) (own_nd (ninS (Ne.symm nlvd1) nin0) (own_nd nin0 List.nodup_nil))), (allS (Nat.le_trans hBs Fp1_2) all0)⟩, own_ins [] [] (key, lv)⟩
  · skip
    have kna : ka ≠ key := hK _ (List.mem_of_getElem? (i := 0) rfl)
    by_cases hk : key < ka
    · skip
      refine Con.mono (own_rmjpl l Z a0 hw [] tr key lv a sz ka la .null (1 : Int32) qa wa wv (0 : Int32) (0 : Int64) h0 n0 Z0 HQ.null E_tr G_tr F_root F_size E_a G_a F_a_key F_a_level F_a_left F_a_right F_a_height F_a_quantity E_la G_la F_la E_lv G_lv F_lv (own_ne hN 0 2 rfl rfl (by decide)) (own_ne hN 0 3 rfl rfl (by decide)) (own_ne hN 0 1 rfl rfl (by decide)) (own_ne hN 2 3 rfl rfl (by decide)) (Ne.symm (own_ne hN 1 2 rfl rfl (by decide))) (Ne.symm (own_ne hN 1 3 rfl rfl (by decide))) (fun q => by cases q) (fun q => by cases q) (fun q => by cases q) (fun q => by cases q) hk (by decide) (by decide)) ?_
      intro v1 H1 L1 Q1
      obtain ⟨d1, rfl, Nq1, Kq1, Fp1_0, Fp1_1, Fp1_2, Fp1_3, Fp1_4, Fp1_5, Fp1_6, Fp1_7, Fp1_8, Fp1_9, Fp1_10, Fp1_11, Fp1_12, Fp1_13, Fp1_14, Fp1_15⟩ := Q1
      have N1 := Fr.app N0 Nq1
      have ntrd1 : tr ≠ d1 := Nat.ne_of_lt (Nat.lt_of_lt_of_le E_tr.lt Fp1_8)
      have nlvd1 : lv ≠ d1 := Nat.ne_of_lt (Nat.lt_of_lt_of_le E_lv.lt Fp1_8)
      have nad1 : a ≠ d1 := Nat.ne_of_lt (Nat.lt_of_lt_of_le E_a.lt Fp1_8)
      have nlad1 : la ≠ d1 := Nat.ne_of_lt (Nat.lt_of_lt_of_le E_la.lt Fp1_8)
      have G_d1 : n0 ≤ d1 := Nat.le_trans Z0 Fp1_8
      have Zs1 := Nat.le_trans Z0 Kq1.1
      have f2 := Exa.keep E_tr Kq1
      have f5 := Exa.keep E_lv Kq1
      have f6 := Fld.keep F_lv Kq1 (ninS (Ne.symm (own_ne hN 0 1 rfl rfl (by decide))) (ninS (own_ne hN 1 2 rfl rfl (by decide)) nin0))
      have f7 := Exa.keep E_a Kq1
      have f14 := Exa.keep E_la Kq1
      have f15 := Fld.keep F_la Kq1 (ninS (Ne.symm (own_ne hN 0 3 rfl rfl (by decide))) (ninS (Ne.symm (own_ne hN 2 3 rfl rfl (by decide))) nin0))
      rw [show ((own_f11 (1 : Int32) (0 : Int32)) + (1 : Int32)) = (2 : Int32) from by decide] at Fp1_2
      exact ⟨[(key, lv), (ka, la)], [a, d1], rfl, Nq1, (Keep.refl h0 _).trans Kq1 (allS (Or.inl (List.mem_of_getElem? (i := 0) rfl)) (allS (Or.inl (List.mem_of_getElem? (i := 1) rfl)) all0)), ⟨_, _, f2, G_tr, Fp1_0, Fp1_1, Or.inr (Or.inr (Or.inl ⟨a, _, _, _, d1, _, _, _, rfl, rfl, rfl, ⟨f7, G_a, Fp1_3, Fp1_5, Fp1_4, Fp1_7, Fp1_2, Fp1_6⟩, ⟨Fp1_9, G_d1, Fp1_11, Fp1_13, Fp1_12, Fp1_15, Fp1_10, Fp1_14⟩, ⟨f14, G_la, _, f15⟩, ⟨f5, G_lv, _, f6⟩, hk⟩)), (own_nd (ninS (own_ne hN 0 2 rfl rfl (by decide)) (ninS ntrd1 (ninS (own_ne hN 0 1 rfl rfl (by decide)) (ninS (own_ne hN 0 3 rfl rfl (by decide)) nin0)))) (own_nd (ninS nad1 (ninS (Ne.symm (own_ne hN 1 2 rfl rfl (by decide))) (ninS (own_ne hN 2 3 rfl rfl (by decide)) nin0))) (own_nd (ninS (Ne.symm nlvd1) (ninS (Ne.symm nlad1) nin0)) (own_nd (ninS (own_ne hN 1 3 rfl rfl (by decide)) nin0) (own_nd nin0 List.nodup_nil))))), (allS (hBa _ (List.mem_of_getElem? (i := 0) rfl)) (allS (Nat.le_trans hBs Fp1_8) all0))⟩, own_ins [] [(ka, la)] (key, lv)⟩
    · skip
      refine Con.mono (own_rmjpr l Z a0 hw [] tr key lv a sz ka la .null (1 : Int32) qa wa wv (0 : Int32) (0 : Int64) h0 n0 Z0 HQ.null E_tr G_tr F_root F_size E_a G_a F_a_key F_a_level F_a_left F_a_right F_a_height F_a_quantity E_la G_la F_la E_lv G_lv F_lv (own_ne hN 0 2 rfl rfl (by decide)) (own_ne hN 0 3 rfl rfl (by decide)) (own_ne hN 0 1 rfl rfl (by decide)) (own_ne hN 2 3 rfl rfl (by decide)) (Ne.symm (own_ne hN 1 2 rfl rfl (by decide))) (Ne.symm (own_ne hN 1 3 rfl rfl (by decide))) (fun q => by cases q) (fun q => by cases q) (fun q => by cases q) (fun q => by cases q) hk (by decide) (by decide)) ?_
      intro v16 H16 L16 Q16
      obtain ⟨d16, rfl, Nq16, Kq16, Fp16_0, Fp16_1, Fp16_2, Fp16_3, Fp16_4, Fp16_5, Fp16_6, Fp16_7, Fp16_8, Fp16_9, Fp16_10, Fp16_11, Fp16_12, Fp16_13, Fp16_14, Fp16_15⟩ := Q16
      have N16 := Fr.app N0 Nq16
      have ntrd16 : tr ≠ d16 := Nat.ne_of_lt (Nat.lt_of_lt_of_le E_tr.lt Fp16_8)
      have nlvd16 : lv ≠ d16 := Nat.ne_of_lt (Nat.lt_of_lt_of_le E_lv.lt Fp16_8)
      have nad16 : a ≠ d16 := Nat.ne_of_lt (Nat.lt_of_lt_of_le E_a.lt Fp16_8)
      have nlad16 : la ≠ d16 := Nat.ne_of_lt (Nat.lt_of_lt_of_le E_la.lt Fp16_8)
      have G_d16 : n0 ≤ d16 := Nat.le_trans Z0 Fp16_8
      have Zs16 := Nat.le_trans Z0 Kq16.1
      have f17 := Exa.keep E_tr Kq16
      have f20 := Exa.keep E_lv Kq16
      have f21 := Fld.keep F_lv Kq16 (ninS (Ne.symm (own_ne hN 0 1 rfl rfl (by decide))) (ninS (own_ne hN 1 2 rfl rfl (by decide)) nin0))
      have f22 := Exa.keep E_a Kq16
      have f29 := Exa.keep E_la Kq16
      have f30 := Fld.keep F_la Kq16 (ninS (Ne.symm (own_ne hN 0 3 rfl rfl (by decide))) (ninS (Ne.symm (own_ne hN 2 3 rfl rfl (by decide))) nin0))
      rw [show ((own_f11 (0 : Int32) (1 : Int32)) + (1 : Int32)) = (2 : Int32) from by decide] at Fp16_2
      exact ⟨[(ka, la), (key, lv)], [a, d16], rfl, Nq16, (Keep.refl h0 _).trans Kq16 (allS (Or.inl (List.mem_of_getElem? (i := 0) rfl)) (allS (Or.inl (List.mem_of_getElem? (i := 1) rfl)) all0)), ⟨_, _, f17, G_tr, Fp16_0, Fp16_1, Or.inr (Or.inr (Or.inr (Or.inl ⟨a, _, _, _, d16, _, _, _, rfl, rfl, rfl, ⟨f22, G_a, Fp16_3, Fp16_5, Fp16_4, Fp16_7, Fp16_2, Fp16_6⟩, ⟨Fp16_9, G_d16, Fp16_11, Fp16_13, Fp16_12, Fp16_15, Fp16_10, Fp16_14⟩, ⟨f29, G_la, _, f30⟩, ⟨f20, G_lv, _, f21⟩, (own_gt hk kna)⟩))), (own_nd (ninS (own_ne hN 0 2 rfl rfl (by decide)) (ninS ntrd16 (ninS (own_ne hN 0 3 rfl rfl (by decide)) (ninS (own_ne hN 0 1 rfl rfl (by decide)) nin0)))) (own_nd (ninS nad16 (ninS (own_ne hN 2 3 rfl rfl (by decide)) (ninS (Ne.symm (own_ne hN 1 2 rfl rfl (by decide))) nin0))) (own_nd (ninS (Ne.symm nlad16) (ninS (Ne.symm nlvd16) nin0)) (own_nd (ninS (Ne.symm (own_ne hN 1 3 rfl rfl (by decide))) nin0) (own_nd nin0 List.nodup_nil))))), (allS (hBa _ (List.mem_of_getElem? (i := 0) rfl)) (allS (Nat.le_trans hBs Fp16_8) all0))⟩, own_ins [(ka, la)] [] (key, lv)⟩
  · skip
    have knc : kc ≠ key := hK _ (List.mem_of_getElem? (i := 0) rfl)
    have kna : ka ≠ key := hK _ (List.mem_of_getElem? (i := 1) rfl)
    by_cases hk : key < ka
    · skip
      by_cases hk2 : key < kc
      · skip
        refine Con.mono (own_rmjplo l Z a0 hw [] tr key lv a sz ka la ac (2 : Int32) qa kc lc qc wa wc wv h0 n0 Z0 E_tr G_tr F_root F_size E_a G_a F_a_key F_a_level F_a_left F_a_right F_a_height F_a_quantity E_ac G_ac F_ac_key F_ac_level F_ac_left F_ac_right F_ac_height F_ac_quantity E_la G_la F_la E_lc G_lc F_lc E_lv G_lv F_lv (own_ne hN 0 2 rfl rfl (by decide)) (own_ne hN 0 3 rfl rfl (by decide)) (own_ne hN 0 5 rfl rfl (by decide)) (own_ne hN 0 4 rfl rfl (by decide)) (own_ne hN 0 1 rfl rfl (by decide)) (own_ne hN 2 3 rfl rfl (by decide)) (own_ne hN 2 5 rfl rfl (by decide)) (own_ne hN 2 4 rfl rfl (by decide)) (Ne.symm (own_ne hN 1 2 rfl rfl (by decide))) (own_ne hN 3 5 rfl rfl (by decide)) (own_ne hN 3 4 rfl rfl (by decide)) (Ne.symm (own_ne hN 1 3 rfl rfl (by decide))) (Ne.symm (own_ne hN 4 5 rfl rfl (by decide))) (Ne.symm (own_ne hN 1 5 rfl rfl (by decide))) (Ne.symm (own_ne hN 1 4 rfl rfl (by decide))) hk hk2) ?_
        intro v1 H1 L1 Q1
        obtain ⟨d1, rfl, Nq1, Kq1, Fp1_0, Fp1_1, Fp1_2, Fp1_3, Fp1_4, Fp1_5, Fp1_6, Fp1_7, Fp1_8, Fp1_9, Fp1_10, Fp1_11, Fp1_12, Fp1_13, Fp1_14, Fp1_15, Fp1_16, Fp1_17, Fp1_18, Fp1_19, Fp1_20, Fp1_21⟩ := Q1
        have N1 := Fr.app N0 Nq1
        have ntrd1 : tr ≠ d1 := Nat.ne_of_lt (Nat.lt_of_lt_of_le E_tr.lt Fp1_14)
        have nlvd1 : lv ≠ d1 := Nat.ne_of_lt (Nat.lt_of_lt_of_le E_lv.lt Fp1_14)
        have nad1 : a ≠ d1 := Nat.ne_of_lt (Nat.lt_of_lt_of_le E_a.lt Fp1_14)
        have nlad1 : la ≠ d1 := Nat.ne_of_lt (Nat.lt_of_lt_of_le E_la.lt Fp1_14)
        have nacd1 : ac ≠ d1 := Nat.ne_of_lt (Nat.lt_of_lt_of_le E_ac.lt Fp1_14)
        have nlcd1 : lc ≠ d1 := Nat.ne_of_lt (Nat.lt_of_lt_of_le E_lc.lt Fp1_14)
        have G_d1 : n0 ≤ d1 := Nat.le_trans Z0 Fp1_14
        have Zs1 := Nat.le_trans Z0 Kq1.1
        have f2 := Exa.keep E_tr Kq1
        have f5 := Exa.keep E_lv Kq1
        have f6 := Fld.keep F_lv Kq1 (ninS (Ne.symm (own_ne hN 0 1 rfl rfl (by decide))) (ninS (own_ne hN 1 2 rfl rfl (by decide)) (ninS (own_ne hN 1 3 rfl rfl (by decide)) nin0)))
        have f7 := Exa.keep E_a Kq1
        have f14 := Exa.keep E_la Kq1
        have f15 := Fld.keep F_la Kq1 (ninS (Ne.symm (own_ne hN 0 5 rfl rfl (by decide))) (ninS (Ne.symm (own_ne hN 2 5 rfl rfl (by decide))) (ninS (Ne.symm (own_ne hN 3 5 rfl rfl (by decide))) nin0)))
        have f16 := Exa.keep E_ac Kq1
        have f23 := Exa.keep E_lc Kq1
        have f24 := Fld.keep F_lc Kq1 (ninS (Ne.symm (own_ne hN 0 4 rfl rfl (by decide))) (ninS (Ne.symm (own_ne hN 2 4 rfl rfl (by decide))) (ninS (Ne.symm (own_ne hN 3 4 rfl rfl (by decide))) nin0)))
        exact ⟨[(key, lv), (kc, lc), (ka, la)], [ac, d1, a], rfl, Nq1, (Keep.refl h0 _).trans Kq1 (allS (Or.inl (List.mem_of_getElem? (i := 0) rfl)) (allS (Or.inl (List.mem_of_getElem? (i := 1) rfl)) (allS (Or.inl (List.mem_of_getElem? (i := 2) rfl)) all0))), ⟨_, _, f2, G_tr, Fp1_0, Fp1_1, Or.inr (Or.inr (Or.inr (Or.inr ⟨ac, _, _, _, d1, _, _, _, a, _, _, _, rfl, rfl, rfl, ⟨f16, G_ac, Fp1_9, Fp1_11, Fp1_10, Fp1_13, Fp1_8, Fp1_12⟩, ⟨Fp1_15, G_d1, Fp1_17, Fp1_19, Fp1_18, Fp1_21, Fp1_16, Fp1_20⟩, ⟨f7, G_a, Fp1_3, Fp1_5, Fp1_4, Fp1_7, Fp1_2, Fp1_6⟩, ⟨f23, G_lc, _, f24⟩, ⟨f5, G_lv, _, f6⟩, ⟨f14, G_la, _, f15⟩, hk2, o1⟩))), (own_nd (ninS (own_ne hN 0 3 rfl rfl (by decide)) (ninS ntrd1 (ninS (own_ne hN 0 2 rfl rfl (by decide)) (ninS (own_ne hN 0 1 rfl rfl (by decide)) (ninS (own_ne hN 0 4 rfl rfl (by decide)) (ninS (own_ne hN 0 5 rfl rfl (by decide)) nin0)))))) (own_nd (ninS nacd1 (ninS (Ne.symm (own_ne hN 2 3 rfl rfl (by decide))) (ninS (Ne.symm (own_ne hN 1 3 rfl rfl (by decide))) (ninS (own_ne hN 3 4 rfl rfl (by decide)) (ninS (own_ne hN 3 5 rfl rfl (by decide)) nin0))))) (own_nd (ninS (Ne.symm nad1) (ninS (Ne.symm nlvd1) (ninS (Ne.symm nlcd1) (ninS (Ne.symm nlad1) nin0)))) (own_nd (ninS (Ne.symm (own_ne hN 1 2 rfl rfl (by decide))) (ninS (own_ne hN 2 4 rfl rfl (by decide)) (ninS (own_ne hN 2 5 rfl rfl (by decide)) nin0))) (own_nd (ninS (own_ne hN 1 4 rfl rfl (by decide)) (ninS (own_ne hN 1 5 rfl rfl (by decide)) nin0)) (own_nd (ninS (own_ne hN 4 5 rfl rfl (by decide)) nin0) (own_nd nin0 List.nodup_nil))))))), (allS (hBa _ (List.mem_of_getElem? (i := 1) rfl)) (allS (Nat.le_trans hBs Fp1_14) (allS (hBa _ (List.mem_of_getElem? (i := 0) rfl)) all0)))⟩, own_ins [] [(kc, lc), (ka, la)] (key, lv)⟩
      · skip
        refine Con.mono (own_rmjplz l Z a0 hw [] tr key lv a sz ka la ac (2 : Int32) qa kc lc qc wa wc wv h0 n0 Z0 E_tr G_tr F_root F_size E_a G_a F_a_key F_a_level F_a_left F_a_right F_a_height F_a_quantity E_ac G_ac F_ac_key F_ac_level F_ac_left F_ac_right F_ac_height F_ac_quantity E_la G_la F_la E_lc G_lc F_lc E_lv G_lv F_lv (own_ne hN 0 2 rfl rfl (by decide)) (own_ne hN 0 3 rfl rfl (by decide)) (own_ne hN 0 5 rfl rfl (by decide)) (own_ne hN 0 4 rfl rfl (by decide)) (own_ne hN 0 1 rfl rfl (by decide)) (own_ne hN 2 3 rfl rfl (by decide)) (own_ne hN 2 5 rfl rfl (by decide)) (own_ne hN 2 4 rfl rfl (by decide)) (Ne.symm (own_ne hN 1 2 rfl rfl (by decide))) (own_ne hN 3 5 rfl rfl (by decide)) (own_ne hN 3 4 rfl rfl (by decide)) (Ne.symm (own_ne hN 1 3 rfl rfl (by decide))) (Ne.symm (own_ne hN 4 5 rfl rfl (by decide))) (Ne.symm (own_ne hN 1 5 rfl rfl (by decide))) (Ne.symm (own_ne hN 1 4 rfl rfl (by decide))) hk hk2) ?_
        intro v25 H25 L25 Q25
        obtain ⟨d25, rfl, Nq25, Kq25, Fp25_0, Fp25_1, Fp25_2, Fp25_3, Fp25_4, Fp25_5, Fp25_6, Fp25_7, Fp25_8, Fp25_9, Fp25_10, Fp25_11, Fp25_12, Fp25_13, Fp25_14, Fp25_15, Fp25_16, Fp25_17, Fp25_18, Fp25_19, Fp25_20, Fp25_21⟩ := Q25
        have N25 := Fr.app N0 Nq25
        have ntrd25 : tr ≠ d25 := Nat.ne_of_lt (Nat.lt_of_lt_of_le E_tr.lt Fp25_14)
        have nlvd25 : lv ≠ d25 := Nat.ne_of_lt (Nat.lt_of_lt_of_le E_lv.lt Fp25_14)
        have nad25 : a ≠ d25 := Nat.ne_of_lt (Nat.lt_of_lt_of_le E_a.lt Fp25_14)
        have nlad25 : la ≠ d25 := Nat.ne_of_lt (Nat.lt_of_lt_of_le E_la.lt Fp25_14)
        have nacd25 : ac ≠ d25 := Nat.ne_of_lt (Nat.lt_of_lt_of_le E_ac.lt Fp25_14)
        have nlcd25 : lc ≠ d25 := Nat.ne_of_lt (Nat.lt_of_lt_of_le E_lc.lt Fp25_14)
        have G_d25 : n0 ≤ d25 := Nat.le_trans Z0 Fp25_14
        have Zs25 := Nat.le_trans Z0 Kq25.1
        have f26 := Exa.keep E_tr Kq25
        have f29 := Exa.keep E_lv Kq25
        have f30 := Fld.keep F_lv Kq25 (ninS (Ne.symm (own_ne hN 0 1 rfl rfl (by decide))) (ninS (own_ne hN 1 2 rfl rfl (by decide)) (ninS (own_ne hN 1 3 rfl rfl (by decide)) nin0)))
        have f31 := Exa.keep E_a Kq25
        have f38 := Exa.keep E_la Kq25
        have f39 := Fld.keep F_la Kq25 (ninS (Ne.symm (own_ne hN 0 5 rfl rfl (by decide))) (ninS (Ne.symm (own_ne hN 2 5 rfl rfl (by decide))) (ninS (Ne.symm (own_ne hN 3 5 rfl rfl (by decide))) nin0)))
        have f40 := Exa.keep E_ac Kq25
        have f47 := Exa.keep E_lc Kq25
        have f48 := Fld.keep F_lc Kq25 (ninS (Ne.symm (own_ne hN 0 4 rfl rfl (by decide))) (ninS (Ne.symm (own_ne hN 2 4 rfl rfl (by decide))) (ninS (Ne.symm (own_ne hN 3 4 rfl rfl (by decide))) nin0)))
        exact ⟨[(kc, lc), (key, lv), (ka, la)], [d25, ac, a], rfl, Nq25, (Keep.refl h0 _).trans Kq25 (allS (Or.inl (List.mem_of_getElem? (i := 0) rfl)) (allS (Or.inl (List.mem_of_getElem? (i := 1) rfl)) (allS (Or.inl (List.mem_of_getElem? (i := 2) rfl)) all0))), ⟨_, _, f26, G_tr, Fp25_0, Fp25_1, Or.inr (Or.inr (Or.inr (Or.inr ⟨d25, _, _, _, ac, _, _, _, a, _, _, _, rfl, rfl, rfl, ⟨Fp25_15, G_d25, Fp25_17, Fp25_19, Fp25_18, Fp25_21, Fp25_16, Fp25_20⟩, ⟨f40, G_ac, Fp25_9, Fp25_11, Fp25_10, Fp25_13, Fp25_8, Fp25_12⟩, ⟨f31, G_a, Fp25_3, Fp25_5, Fp25_4, Fp25_7, Fp25_2, Fp25_6⟩, ⟨f29, G_lv, _, f30⟩, ⟨f47, G_lc, _, f48⟩, ⟨f38, G_la, _, f39⟩, (own_gt hk2 knc), hk⟩))), (own_nd (ninS ntrd25 (ninS (own_ne hN 0 3 rfl rfl (by decide)) (ninS (own_ne hN 0 2 rfl rfl (by decide)) (ninS (own_ne hN 0 4 rfl rfl (by decide)) (ninS (own_ne hN 0 1 rfl rfl (by decide)) (ninS (own_ne hN 0 5 rfl rfl (by decide)) nin0)))))) (own_nd (ninS (Ne.symm nacd25) (ninS (Ne.symm nad25) (ninS (Ne.symm nlcd25) (ninS (Ne.symm nlvd25) (ninS (Ne.symm nlad25) nin0))))) (own_nd (ninS (Ne.symm (own_ne hN 2 3 rfl rfl (by decide))) (ninS (own_ne hN 3 4 rfl rfl (by decide)) (ninS (Ne.symm (own_ne hN 1 3 rfl rfl (by decide))) (ninS (own_ne hN 3 5 rfl rfl (by decide)) nin0)))) (own_nd (ninS (own_ne hN 2 4 rfl rfl (by decide)) (ninS (Ne.symm (own_ne hN 1 2 rfl rfl (by decide))) (ninS (own_ne hN 2 5 rfl rfl (by decide)) nin0))) (own_nd (ninS (Ne.symm (own_ne hN 1 4 rfl rfl (by decide))) (ninS (own_ne hN 4 5 rfl rfl (by decide)) nin0)) (own_nd (ninS (own_ne hN 1 5 rfl rfl (by decide)) nin0) (own_nd nin0 List.nodup_nil))))))), (allS (Nat.le_trans hBs Fp25_14) (allS (hBa _ (List.mem_of_getElem? (i := 1) rfl)) (allS (hBa _ (List.mem_of_getElem? (i := 0) rfl)) all0)))⟩, own_ins [(kc, lc)] [(ka, la)] (key, lv)⟩
    · skip
      refine Con.mono (own_rmjpr l Z a0 hw [] tr key lv a sz ka la (.ref ac) (2 : Int32) qa wa wv (1 : Int32) qc h0 n0 Z0 (Or.inr ⟨ac, rfl, F_ac_height, F_ac_quantity⟩) E_tr G_tr F_root F_size E_a G_a F_a_key F_a_level F_a_left F_a_right F_a_height F_a_quantity E_la G_la F_la E_lv G_lv F_lv (own_ne hN 0 2 rfl rfl (by decide)) (own_ne hN 0 5 rfl rfl (by decide)) (own_ne hN 0 1 rfl rfl (by decide)) (own_ne hN 2 5 rfl rfl (by decide)) (Ne.symm (own_ne hN 1 2 rfl rfl (by decide))) (Ne.symm (own_ne hN 1 5 rfl rfl (by decide))) (fun q => (Ne.symm (own_ne hN 0 3 rfl rfl (by decide))) (Value.ref.inj q)) (fun q => (Ne.symm (own_ne hN 2 3 rfl rfl (by decide))) (Value.ref.inj q)) (fun q => (own_ne hN 3 5 rfl rfl (by decide)) (Value.ref.inj q)) (fun q => (Ne.symm (own_ne hN 1 3 rfl rfl (by decide))) (Value.ref.inj q)) hk (by decide) (by decide)) ?_
      intro v49 H49 L49 Q49
      obtain ⟨d49, rfl, Nq49, Kq49, Fp49_0, Fp49_1, Fp49_2, Fp49_3, Fp49_4, Fp49_5, Fp49_6, Fp49_7, Fp49_8, Fp49_9, Fp49_10, Fp49_11, Fp49_12, Fp49_13, Fp49_14, Fp49_15⟩ := Q49
      have N49 := Fr.app N0 Nq49
      have ntrd49 : tr ≠ d49 := Nat.ne_of_lt (Nat.lt_of_lt_of_le E_tr.lt Fp49_8)
      have nlvd49 : lv ≠ d49 := Nat.ne_of_lt (Nat.lt_of_lt_of_le E_lv.lt Fp49_8)
      have nad49 : a ≠ d49 := Nat.ne_of_lt (Nat.lt_of_lt_of_le E_a.lt Fp49_8)
      have nlad49 : la ≠ d49 := Nat.ne_of_lt (Nat.lt_of_lt_of_le E_la.lt Fp49_8)
      have nacd49 : ac ≠ d49 := Nat.ne_of_lt (Nat.lt_of_lt_of_le E_ac.lt Fp49_8)
      have nlcd49 : lc ≠ d49 := Nat.ne_of_lt (Nat.lt_of_lt_of_le E_lc.lt Fp49_8)
      have G_d49 : n0 ≤ d49 := Nat.le_trans Z0 Fp49_8
      have Zs49 := Nat.le_trans Z0 Kq49.1
      have f50 := Exa.keep E_tr Kq49
      have f53 := Exa.keep E_lv Kq49
      have f54 := Fld.keep F_lv Kq49 (ninS (Ne.symm (own_ne hN 0 1 rfl rfl (by decide))) (ninS (own_ne hN 1 2 rfl rfl (by decide)) nin0))
      have f55 := Exa.keep E_a Kq49
      have f62 := Exa.keep E_la Kq49
      have f63 := Fld.keep F_la Kq49 (ninS (Ne.symm (own_ne hN 0 5 rfl rfl (by decide))) (ninS (Ne.symm (own_ne hN 2 5 rfl rfl (by decide))) nin0))
      have f64 := Exa.keep E_ac Kq49
      have f65 := Fld.keep F_ac_key Kq49 (ninS (Ne.symm (own_ne hN 0 3 rfl rfl (by decide))) (ninS (Ne.symm (own_ne hN 2 3 rfl rfl (by decide))) nin0))
      have f66 := Fld.keep F_ac_level Kq49 (ninS (Ne.symm (own_ne hN 0 3 rfl rfl (by decide))) (ninS (Ne.symm (own_ne hN 2 3 rfl rfl (by decide))) nin0))
      have f67 := Fld.keep F_ac_left Kq49 (ninS (Ne.symm (own_ne hN 0 3 rfl rfl (by decide))) (ninS (Ne.symm (own_ne hN 2 3 rfl rfl (by decide))) nin0))
      have f68 := Fld.keep F_ac_right Kq49 (ninS (Ne.symm (own_ne hN 0 3 rfl rfl (by decide))) (ninS (Ne.symm (own_ne hN 2 3 rfl rfl (by decide))) nin0))
      have f69 := Fld.keep F_ac_height Kq49 (ninS (Ne.symm (own_ne hN 0 3 rfl rfl (by decide))) (ninS (Ne.symm (own_ne hN 2 3 rfl rfl (by decide))) nin0))
      have f70 := Fld.keep F_ac_quantity Kq49 (ninS (Ne.symm (own_ne hN 0 3 rfl rfl (by decide))) (ninS (Ne.symm (own_ne hN 2 3 rfl rfl (by decide))) nin0))
      have f71 := Exa.keep E_lc Kq49
      have f72 := Fld.keep F_lc Kq49 (ninS (Ne.symm (own_ne hN 0 4 rfl rfl (by decide))) (ninS (Ne.symm (own_ne hN 2 4 rfl rfl (by decide))) nin0))
      rw [show ((own_f11 (1 : Int32) (1 : Int32)) + (1 : Int32)) = (2 : Int32) from by decide] at Fp49_2
      exact ⟨[(kc, lc), (ka, la), (key, lv)], [a, ac, d49], rfl, Nq49, (Keep.refl h0 _).trans Kq49 (allS (Or.inl (List.mem_of_getElem? (i := 0) rfl)) (allS (Or.inl (List.mem_of_getElem? (i := 1) rfl)) all0)), ⟨_, _, f50, G_tr, Fp49_0, Fp49_1, Or.inr (Or.inr (Or.inr (Or.inr ⟨a, _, _, _, ac, _, _, _, d49, _, _, _, rfl, rfl, rfl, ⟨f55, G_a, Fp49_3, Fp49_5, Fp49_4, Fp49_7, Fp49_2, Fp49_6⟩, ⟨f64, G_ac, f65, f66, f67, f68, f69, f70⟩, ⟨Fp49_9, G_d49, Fp49_11, Fp49_13, Fp49_12, Fp49_15, Fp49_10, Fp49_14⟩, ⟨f62, G_la, _, f63⟩, ⟨f71, G_lc, _, f72⟩, ⟨f53, G_lv, _, f54⟩, o1, (own_gt hk kna)⟩))), (own_nd (ninS (own_ne hN 0 2 rfl rfl (by decide)) (ninS (own_ne hN 0 3 rfl rfl (by decide)) (ninS ntrd49 (ninS (own_ne hN 0 4 rfl rfl (by decide)) (ninS (own_ne hN 0 5 rfl rfl (by decide)) (ninS (own_ne hN 0 1 rfl rfl (by decide)) nin0)))))) (own_nd (ninS (own_ne hN 2 3 rfl rfl (by decide)) (ninS nad49 (ninS (own_ne hN 2 4 rfl rfl (by decide)) (ninS (own_ne hN 2 5 rfl rfl (by decide)) (ninS (Ne.symm (own_ne hN 1 2 rfl rfl (by decide))) nin0))))) (own_nd (ninS nacd49 (ninS (own_ne hN 3 4 rfl rfl (by decide)) (ninS (own_ne hN 3 5 rfl rfl (by decide)) (ninS (Ne.symm (own_ne hN 1 3 rfl rfl (by decide))) nin0)))) (own_nd (ninS (Ne.symm nlcd49) (ninS (Ne.symm nlad49) (ninS (Ne.symm nlvd49) nin0))) (own_nd (ninS (own_ne hN 4 5 rfl rfl (by decide)) (ninS (Ne.symm (own_ne hN 1 4 rfl rfl (by decide))) nin0)) (own_nd (ninS (Ne.symm (own_ne hN 1 5 rfl rfl (by decide))) nin0) (own_nd nin0 List.nodup_nil))))))), (allS (hBa _ (List.mem_of_getElem? (i := 0) rfl)) (allS (hBa _ (List.mem_of_getElem? (i := 1) rfl)) (allS (Nat.le_trans hBs Fp49_8) all0)))⟩, own_ins [(kc, lc), (ka, la)] [] (key, lv)⟩
  · skip
    have kna : ka ≠ key := hK _ (List.mem_of_getElem? (i := 0) rfl)
    have knc : kc ≠ key := hK _ (List.mem_of_getElem? (i := 1) rfl)
    by_cases hk : key < ka
    · skip
      refine Con.mono (own_rmjpl l Z a0 hw [] tr key lv a sz ka la (.ref ac) (2 : Int32) qa wa wv (1 : Int32) qc h0 n0 Z0 (Or.inr ⟨ac, rfl, F_ac_height, F_ac_quantity⟩) E_tr G_tr F_root F_size E_a G_a F_a_key F_a_level F_a_left F_a_right F_a_height F_a_quantity E_la G_la F_la E_lv G_lv F_lv (own_ne hN 0 2 rfl rfl (by decide)) (own_ne hN 0 4 rfl rfl (by decide)) (own_ne hN 0 1 rfl rfl (by decide)) (own_ne hN 2 4 rfl rfl (by decide)) (Ne.symm (own_ne hN 1 2 rfl rfl (by decide))) (Ne.symm (own_ne hN 1 4 rfl rfl (by decide))) (fun q => (Ne.symm (own_ne hN 0 3 rfl rfl (by decide))) (Value.ref.inj q)) (fun q => (Ne.symm (own_ne hN 2 3 rfl rfl (by decide))) (Value.ref.inj q)) (fun q => (own_ne hN 3 4 rfl rfl (by decide)) (Value.ref.inj q)) (fun q => (Ne.symm (own_ne hN 1 3 rfl rfl (by decide))) (Value.ref.inj q)) hk (by decide) (by decide)) ?_
      intro v1 H1 L1 Q1
      obtain ⟨d1, rfl, Nq1, Kq1, Fp1_0, Fp1_1, Fp1_2, Fp1_3, Fp1_4, Fp1_5, Fp1_6, Fp1_7, Fp1_8, Fp1_9, Fp1_10, Fp1_11, Fp1_12, Fp1_13, Fp1_14, Fp1_15⟩ := Q1
      have N1 := Fr.app N0 Nq1
      have ntrd1 : tr ≠ d1 := Nat.ne_of_lt (Nat.lt_of_lt_of_le E_tr.lt Fp1_8)
      have nlvd1 : lv ≠ d1 := Nat.ne_of_lt (Nat.lt_of_lt_of_le E_lv.lt Fp1_8)
      have nad1 : a ≠ d1 := Nat.ne_of_lt (Nat.lt_of_lt_of_le E_a.lt Fp1_8)
      have nlad1 : la ≠ d1 := Nat.ne_of_lt (Nat.lt_of_lt_of_le E_la.lt Fp1_8)
      have nacd1 : ac ≠ d1 := Nat.ne_of_lt (Nat.lt_of_lt_of_le E_ac.lt Fp1_8)
      have nlcd1 : lc ≠ d1 := Nat.ne_of_lt (Nat.lt_of_lt_of_le E_lc.lt Fp1_8)
      have G_d1 : n0 ≤ d1 := Nat.le_trans Z0 Fp1_8
      have Zs1 := Nat.le_trans Z0 Kq1.1
      have f2 := Exa.keep E_tr Kq1
      have f5 := Exa.keep E_lv Kq1
      have f6 := Fld.keep F_lv Kq1 (ninS (Ne.symm (own_ne hN 0 1 rfl rfl (by decide))) (ninS (own_ne hN 1 2 rfl rfl (by decide)) nin0))
      have f7 := Exa.keep E_a Kq1
      have f14 := Exa.keep E_la Kq1
      have f15 := Fld.keep F_la Kq1 (ninS (Ne.symm (own_ne hN 0 4 rfl rfl (by decide))) (ninS (Ne.symm (own_ne hN 2 4 rfl rfl (by decide))) nin0))
      have f16 := Exa.keep E_ac Kq1
      have f17 := Fld.keep F_ac_key Kq1 (ninS (Ne.symm (own_ne hN 0 3 rfl rfl (by decide))) (ninS (Ne.symm (own_ne hN 2 3 rfl rfl (by decide))) nin0))
      have f18 := Fld.keep F_ac_level Kq1 (ninS (Ne.symm (own_ne hN 0 3 rfl rfl (by decide))) (ninS (Ne.symm (own_ne hN 2 3 rfl rfl (by decide))) nin0))
      have f19 := Fld.keep F_ac_left Kq1 (ninS (Ne.symm (own_ne hN 0 3 rfl rfl (by decide))) (ninS (Ne.symm (own_ne hN 2 3 rfl rfl (by decide))) nin0))
      have f20 := Fld.keep F_ac_right Kq1 (ninS (Ne.symm (own_ne hN 0 3 rfl rfl (by decide))) (ninS (Ne.symm (own_ne hN 2 3 rfl rfl (by decide))) nin0))
      have f21 := Fld.keep F_ac_height Kq1 (ninS (Ne.symm (own_ne hN 0 3 rfl rfl (by decide))) (ninS (Ne.symm (own_ne hN 2 3 rfl rfl (by decide))) nin0))
      have f22 := Fld.keep F_ac_quantity Kq1 (ninS (Ne.symm (own_ne hN 0 3 rfl rfl (by decide))) (ninS (Ne.symm (own_ne hN 2 3 rfl rfl (by decide))) nin0))
      have f23 := Exa.keep E_lc Kq1
      have f24 := Fld.keep F_lc Kq1 (ninS (Ne.symm (own_ne hN 0 5 rfl rfl (by decide))) (ninS (Ne.symm (own_ne hN 2 5 rfl rfl (by decide))) nin0))
      rw [show ((own_f11 (1 : Int32) (1 : Int32)) + (1 : Int32)) = (2 : Int32) from by decide] at Fp1_2
      exact ⟨[(key, lv), (ka, la), (kc, lc)], [a, d1, ac], rfl, Nq1, (Keep.refl h0 _).trans Kq1 (allS (Or.inl (List.mem_of_getElem? (i := 0) rfl)) (allS (Or.inl (List.mem_of_getElem? (i := 1) rfl)) all0)), ⟨_, _, f2, G_tr, Fp1_0, Fp1_1, Or.inr (Or.inr (Or.inr (Or.inr ⟨a, _, _, _, d1, _, _, _, ac, _, _, _, rfl, rfl, rfl, ⟨f7, G_a, Fp1_3, Fp1_5, Fp1_4, Fp1_7, Fp1_2, Fp1_6⟩, ⟨Fp1_9, G_d1, Fp1_11, Fp1_13, Fp1_12, Fp1_15, Fp1_10, Fp1_14⟩, ⟨f16, G_ac, f17, f18, f19, f20, f21, f22⟩, ⟨f14, G_la, _, f15⟩, ⟨f5, G_lv, _, f6⟩, ⟨f23, G_lc, _, f24⟩, hk, o1⟩))), (own_nd (ninS (own_ne hN 0 2 rfl rfl (by decide)) (ninS ntrd1 (ninS (own_ne hN 0 3 rfl rfl (by decide)) (ninS (own_ne hN 0 1 rfl rfl (by decide)) (ninS (own_ne hN 0 4 rfl rfl (by decide)) (ninS (own_ne hN 0 5 rfl rfl (by decide)) nin0)))))) (own_nd (ninS nad1 (ninS (own_ne hN 2 3 rfl rfl (by decide)) (ninS (Ne.symm (own_ne hN 1 2 rfl rfl (by decide))) (ninS (own_ne hN 2 4 rfl rfl (by decide)) (ninS (own_ne hN 2 5 rfl rfl (by decide)) nin0))))) (own_nd (ninS (Ne.symm nacd1) (ninS (Ne.symm nlvd1) (ninS (Ne.symm nlad1) (ninS (Ne.symm nlcd1) nin0)))) (own_nd (ninS (Ne.symm (own_ne hN 1 3 rfl rfl (by decide))) (ninS (own_ne hN 3 4 rfl rfl (by decide)) (ninS (own_ne hN 3 5 rfl rfl (by decide)) nin0))) (own_nd (ninS (own_ne hN 1 4 rfl rfl (by decide)) (ninS (own_ne hN 1 5 rfl rfl (by decide)) nin0)) (own_nd (ninS (own_ne hN 4 5 rfl rfl (by decide)) nin0) (own_nd nin0 List.nodup_nil))))))), (allS (hBa _ (List.mem_of_getElem? (i := 0) rfl)) (allS (Nat.le_trans hBs Fp1_8) (allS (hBa _ (List.mem_of_getElem? (i := 1) rfl)) all0)))⟩, own_ins [] [(ka, la), (kc, lc)] (key, lv)⟩
    · skip
      by_cases hk2 : key < kc
      · skip
        refine Con.mono (own_rmjprz l Z a0 hw [] tr key lv a sz ka la ac (2 : Int32) qa kc lc qc wa wc wv h0 n0 Z0 E_tr G_tr F_root F_size E_a G_a F_a_key F_a_level F_a_left F_a_right F_a_height F_a_quantity E_ac G_ac F_ac_key F_ac_level F_ac_left F_ac_right F_ac_height F_ac_quantity E_la G_la F_la E_lc G_lc F_lc E_lv G_lv F_lv (own_ne hN 0 2 rfl rfl (by decide)) (own_ne hN 0 3 rfl rfl (by decide)) (own_ne hN 0 4 rfl rfl (by decide)) (own_ne hN 0 5 rfl rfl (by decide)) (own_ne hN 0 1 rfl rfl (by decide)) (own_ne hN 2 3 rfl rfl (by decide)) (own_ne hN 2 4 rfl rfl (by decide)) (own_ne hN 2 5 rfl rfl (by decide)) (Ne.symm (own_ne hN 1 2 rfl rfl (by decide))) (own_ne hN 3 4 rfl rfl (by decide)) (own_ne hN 3 5 rfl rfl (by decide)) (Ne.symm (own_ne hN 1 3 rfl rfl (by decide))) (own_ne hN 4 5 rfl rfl (by decide)) (Ne.symm (own_ne hN 1 4 rfl rfl (by decide))) (Ne.symm (own_ne hN 1 5 rfl rfl (by decide))) hk hk2) ?_
        intro v25 H25 L25 Q25
        obtain ⟨d25, rfl, Nq25, Kq25, Fp25_0, Fp25_1, Fp25_2, Fp25_3, Fp25_4, Fp25_5, Fp25_6, Fp25_7, Fp25_8, Fp25_9, Fp25_10, Fp25_11, Fp25_12, Fp25_13, Fp25_14, Fp25_15, Fp25_16, Fp25_17, Fp25_18, Fp25_19, Fp25_20, Fp25_21⟩ := Q25
        have N25 := Fr.app N0 Nq25
        have ntrd25 : tr ≠ d25 := Nat.ne_of_lt (Nat.lt_of_lt_of_le E_tr.lt Fp25_14)
        have nlvd25 : lv ≠ d25 := Nat.ne_of_lt (Nat.lt_of_lt_of_le E_lv.lt Fp25_14)
        have nad25 : a ≠ d25 := Nat.ne_of_lt (Nat.lt_of_lt_of_le E_a.lt Fp25_14)
        have nlad25 : la ≠ d25 := Nat.ne_of_lt (Nat.lt_of_lt_of_le E_la.lt Fp25_14)
        have nacd25 : ac ≠ d25 := Nat.ne_of_lt (Nat.lt_of_lt_of_le E_ac.lt Fp25_14)
        have nlcd25 : lc ≠ d25 := Nat.ne_of_lt (Nat.lt_of_lt_of_le E_lc.lt Fp25_14)
        have G_d25 : n0 ≤ d25 := Nat.le_trans Z0 Fp25_14
        have Zs25 := Nat.le_trans Z0 Kq25.1
        have f26 := Exa.keep E_tr Kq25
        have f29 := Exa.keep E_lv Kq25
        have f30 := Fld.keep F_lv Kq25 (ninS (Ne.symm (own_ne hN 0 1 rfl rfl (by decide))) (ninS (own_ne hN 1 2 rfl rfl (by decide)) (ninS (own_ne hN 1 3 rfl rfl (by decide)) nin0)))
        have f31 := Exa.keep E_a Kq25
        have f38 := Exa.keep E_la Kq25
        have f39 := Fld.keep F_la Kq25 (ninS (Ne.symm (own_ne hN 0 4 rfl rfl (by decide))) (ninS (Ne.symm (own_ne hN 2 4 rfl rfl (by decide))) (ninS (Ne.symm (own_ne hN 3 4 rfl rfl (by decide))) nin0)))
        have f40 := Exa.keep E_ac Kq25
        have f47 := Exa.keep E_lc Kq25
        have f48 := Fld.keep F_lc Kq25 (ninS (Ne.symm (own_ne hN 0 5 rfl rfl (by decide))) (ninS (Ne.symm (own_ne hN 2 5 rfl rfl (by decide))) (ninS (Ne.symm (own_ne hN 3 5 rfl rfl (by decide))) nin0)))
        exact ⟨[(ka, la), (key, lv), (kc, lc)], [d25, a, ac], rfl, Nq25, (Keep.refl h0 _).trans Kq25 (allS (Or.inl (List.mem_of_getElem? (i := 0) rfl)) (allS (Or.inl (List.mem_of_getElem? (i := 1) rfl)) (allS (Or.inl (List.mem_of_getElem? (i := 2) rfl)) all0))), ⟨_, _, f26, G_tr, Fp25_0, Fp25_1, Or.inr (Or.inr (Or.inr (Or.inr ⟨d25, _, _, _, a, _, _, _, ac, _, _, _, rfl, rfl, rfl, ⟨Fp25_15, G_d25, Fp25_17, Fp25_19, Fp25_18, Fp25_21, Fp25_16, Fp25_20⟩, ⟨f31, G_a, Fp25_3, Fp25_5, Fp25_4, Fp25_7, Fp25_2, Fp25_6⟩, ⟨f40, G_ac, Fp25_9, Fp25_11, Fp25_10, Fp25_13, Fp25_8, Fp25_12⟩, ⟨f29, G_lv, _, f30⟩, ⟨f38, G_la, _, f39⟩, ⟨f47, G_lc, _, f48⟩, (own_gt hk kna), hk2⟩))), (own_nd (ninS ntrd25 (ninS (own_ne hN 0 2 rfl rfl (by decide)) (ninS (own_ne hN 0 3 rfl rfl (by decide)) (ninS (own_ne hN 0 4 rfl rfl (by decide)) (ninS (own_ne hN 0 1 rfl rfl (by decide)) (ninS (own_ne hN 0 5 rfl rfl (by decide)) nin0)))))) (own_nd (ninS (Ne.symm nad25) (ninS (Ne.symm nacd25) (ninS (Ne.symm nlad25) (ninS (Ne.symm nlvd25) (ninS (Ne.symm nlcd25) nin0))))) (own_nd (ninS (own_ne hN 2 3 rfl rfl (by decide)) (ninS (own_ne hN 2 4 rfl rfl (by decide)) (ninS (Ne.symm (own_ne hN 1 2 rfl rfl (by decide))) (ninS (own_ne hN 2 5 rfl rfl (by decide)) nin0)))) (own_nd (ninS (own_ne hN 3 4 rfl rfl (by decide)) (ninS (Ne.symm (own_ne hN 1 3 rfl rfl (by decide))) (ninS (own_ne hN 3 5 rfl rfl (by decide)) nin0))) (own_nd (ninS (Ne.symm (own_ne hN 1 4 rfl rfl (by decide))) (ninS (own_ne hN 4 5 rfl rfl (by decide)) nin0)) (own_nd (ninS (own_ne hN 1 5 rfl rfl (by decide)) nin0) (own_nd nin0 List.nodup_nil))))))), (allS (Nat.le_trans hBs Fp25_14) (allS (hBa _ (List.mem_of_getElem? (i := 0) rfl)) (allS (hBa _ (List.mem_of_getElem? (i := 1) rfl)) all0)))⟩, own_ins [(ka, la)] [(kc, lc)] (key, lv)⟩
      · skip
        refine Con.mono (own_rmjpro l Z a0 hw [] tr key lv a sz ka la ac (2 : Int32) qa kc lc qc wa wc wv h0 n0 Z0 E_tr G_tr F_root F_size E_a G_a F_a_key F_a_level F_a_left F_a_right F_a_height F_a_quantity E_ac G_ac F_ac_key F_ac_level F_ac_left F_ac_right F_ac_height F_ac_quantity E_la G_la F_la E_lc G_lc F_lc E_lv G_lv F_lv (own_ne hN 0 2 rfl rfl (by decide)) (own_ne hN 0 3 rfl rfl (by decide)) (own_ne hN 0 4 rfl rfl (by decide)) (own_ne hN 0 5 rfl rfl (by decide)) (own_ne hN 0 1 rfl rfl (by decide)) (own_ne hN 2 3 rfl rfl (by decide)) (own_ne hN 2 4 rfl rfl (by decide)) (own_ne hN 2 5 rfl rfl (by decide)) (Ne.symm (own_ne hN 1 2 rfl rfl (by decide))) (own_ne hN 3 4 rfl rfl (by decide)) (own_ne hN 3 5 rfl rfl (by decide)) (Ne.symm (own_ne hN 1 3 rfl rfl (by decide))) (own_ne hN 4 5 rfl rfl (by decide)) (Ne.symm (own_ne hN 1 4 rfl rfl (by decide))) (Ne.symm (own_ne hN 1 5 rfl rfl (by decide))) hk hk2) ?_
        intro v49 H49 L49 Q49
        obtain ⟨d49, rfl, Nq49, Kq49, Fp49_0, Fp49_1, Fp49_2, Fp49_3, Fp49_4, Fp49_5, Fp49_6, Fp49_7, Fp49_8, Fp49_9, Fp49_10, Fp49_11, Fp49_12, Fp49_13, Fp49_14, Fp49_15, Fp49_16, Fp49_17, Fp49_18, Fp49_19, Fp49_20, Fp49_21⟩ := Q49
        have N49 := Fr.app N0 Nq49
        have ntrd49 : tr ≠ d49 := Nat.ne_of_lt (Nat.lt_of_lt_of_le E_tr.lt Fp49_14)
        have nlvd49 : lv ≠ d49 := Nat.ne_of_lt (Nat.lt_of_lt_of_le E_lv.lt Fp49_14)
        have nad49 : a ≠ d49 := Nat.ne_of_lt (Nat.lt_of_lt_of_le E_a.lt Fp49_14)
        have nlad49 : la ≠ d49 := Nat.ne_of_lt (Nat.lt_of_lt_of_le E_la.lt Fp49_14)
        have nacd49 : ac ≠ d49 := Nat.ne_of_lt (Nat.lt_of_lt_of_le E_ac.lt Fp49_14)
        have nlcd49 : lc ≠ d49 := Nat.ne_of_lt (Nat.lt_of_lt_of_le E_lc.lt Fp49_14)
        have G_d49 : n0 ≤ d49 := Nat.le_trans Z0 Fp49_14
        have Zs49 := Nat.le_trans Z0 Kq49.1
        have f50 := Exa.keep E_tr Kq49
        have f53 := Exa.keep E_lv Kq49
        have f54 := Fld.keep F_lv Kq49 (ninS (Ne.symm (own_ne hN 0 1 rfl rfl (by decide))) (ninS (own_ne hN 1 2 rfl rfl (by decide)) (ninS (own_ne hN 1 3 rfl rfl (by decide)) nin0)))
        have f55 := Exa.keep E_a Kq49
        have f62 := Exa.keep E_la Kq49
        have f63 := Fld.keep F_la Kq49 (ninS (Ne.symm (own_ne hN 0 4 rfl rfl (by decide))) (ninS (Ne.symm (own_ne hN 2 4 rfl rfl (by decide))) (ninS (Ne.symm (own_ne hN 3 4 rfl rfl (by decide))) nin0)))
        have f64 := Exa.keep E_ac Kq49
        have f71 := Exa.keep E_lc Kq49
        have f72 := Fld.keep F_lc Kq49 (ninS (Ne.symm (own_ne hN 0 5 rfl rfl (by decide))) (ninS (Ne.symm (own_ne hN 2 5 rfl rfl (by decide))) (ninS (Ne.symm (own_ne hN 3 5 rfl rfl (by decide))) nin0)))
        exact ⟨[(ka, la), (kc, lc), (key, lv)], [ac, a, d49], rfl, Nq49, (Keep.refl h0 _).trans Kq49 (allS (Or.inl (List.mem_of_getElem? (i := 0) rfl)) (allS (Or.inl (List.mem_of_getElem? (i := 1) rfl)) (allS (Or.inl (List.mem_of_getElem? (i := 2) rfl)) all0))), ⟨_, _, f50, G_tr, Fp49_0, Fp49_1, Or.inr (Or.inr (Or.inr (Or.inr ⟨ac, _, _, _, a, _, _, _, d49, _, _, _, rfl, rfl, rfl, ⟨f64, G_ac, Fp49_9, Fp49_11, Fp49_10, Fp49_13, Fp49_8, Fp49_12⟩, ⟨f55, G_a, Fp49_3, Fp49_5, Fp49_4, Fp49_7, Fp49_2, Fp49_6⟩, ⟨Fp49_15, G_d49, Fp49_17, Fp49_19, Fp49_18, Fp49_21, Fp49_16, Fp49_20⟩, ⟨f71, G_lc, _, f72⟩, ⟨f62, G_la, _, f63⟩, ⟨f53, G_lv, _, f54⟩, o1, (own_gt hk2 knc)⟩))), (own_nd (ninS (own_ne hN 0 3 rfl rfl (by decide)) (ninS (own_ne hN 0 2 rfl rfl (by decide)) (ninS ntrd49 (ninS (own_ne hN 0 4 rfl rfl (by decide)) (ninS (own_ne hN 0 5 rfl rfl (by decide)) (ninS (own_ne hN 0 1 rfl rfl (by decide)) nin0)))))) (own_nd (ninS (Ne.symm (own_ne hN 2 3 rfl rfl (by decide))) (ninS nacd49 (ninS (own_ne hN 3 4 rfl rfl (by decide)) (ninS (own_ne hN 3 5 rfl rfl (by decide)) (ninS (Ne.symm (own_ne hN 1 3 rfl rfl (by decide))) nin0))))) (own_nd (ninS nad49 (ninS (own_ne hN 2 4 rfl rfl (by decide)) (ninS (own_ne hN 2 5 rfl rfl (by decide)) (ninS (Ne.symm (own_ne hN 1 2 rfl rfl (by decide))) nin0)))) (own_nd (ninS (Ne.symm nlad49) (ninS (Ne.symm nlcd49) (ninS (Ne.symm nlvd49) nin0))) (own_nd (ninS (own_ne hN 4 5 rfl rfl (by decide)) (ninS (Ne.symm (own_ne hN 1 4 rfl rfl (by decide))) nin0)) (own_nd (ninS (Ne.symm (own_ne hN 1 5 rfl rfl (by decide))) nin0) (own_nd nin0 List.nodup_nil))))))), (allS (hBa _ (List.mem_of_getElem? (i := 1) rfl)) (allS (hBa _ (List.mem_of_getElem? (i := 0) rfl)) (allS (Nat.le_trans hBs Fp49_14) all0)))⟩, own_ins [(ka, la), (kc, lc)] [] (key, lv)⟩
  · skip
    exact absurd hlen (show ¬ 3 ≤ 2 by decide)
theorem own_ShG {Z : State} {h : Heap} {n0 : Nat} {v : Value} {xs : oKV} {as : List Nat} (Sh : own_Sh Z h n0 v xs as) : own_G Z h 3 v xs := by
  rcases Sh with ⟨rfl, rfl, rfl⟩ | ⟨a, ka, la, qa, rfl, rfl, rfl, ⟨E_a, G_a, F_a_key, F_a_level, F_a_left, F_a_right, F_a_height, F_a_quantity⟩, ⟨E_la, G_la, wa, F_la⟩⟩ | ⟨a, ka, la, qa, ac, kc, lc, qc, rfl, rfl, rfl, ⟨E_a, G_a, F_a_key, F_a_level, F_a_left, F_a_right, F_a_height, F_a_quantity⟩, ⟨E_ac, G_ac, F_ac_key, F_ac_level, F_ac_left, F_ac_right, F_ac_height, F_ac_quantity⟩, ⟨E_la, G_la, wa, F_la⟩, ⟨E_lc, G_lc, wc, F_lc⟩, o1⟩ | ⟨a, ka, la, qa, ac, kc, lc, qc, rfl, rfl, rfl, ⟨E_a, G_a, F_a_key, F_a_level, F_a_left, F_a_right, F_a_height, F_a_quantity⟩, ⟨E_ac, G_ac, F_ac_key, F_ac_level, F_ac_left, F_ac_right, F_ac_height, F_ac_quantity⟩, ⟨E_la, G_la, wa, F_la⟩, ⟨E_lc, G_lc, wc, F_lc⟩, o1⟩ | ⟨a, ka, la, qa, ac, kc, lc, qc, ad, kd, ld, qd, rfl, rfl, rfl, ⟨E_a, G_a, F_a_key, F_a_level, F_a_left, F_a_right, F_a_height, F_a_quantity⟩, ⟨E_ac, G_ac, F_ac_key, F_ac_level, F_ac_left, F_ac_right, F_ac_height, F_ac_quantity⟩, ⟨E_ad, G_ad, F_ad_key, F_ad_level, F_ad_left, F_ad_right, F_ad_height, F_ad_quantity⟩, ⟨E_la, G_la, wa, F_la⟩, ⟨E_lc, G_lc, wc, F_lc⟩, ⟨E_ld, G_ld, wd, F_ld⟩, o1, o2⟩
  · exact (Or.inl ⟨rfl, rfl⟩)
  · exact (Or.inr ⟨a, ka, la, .null, .null, [], [], rfl, F_a_key, F_a_level, F_a_left, F_a_right, (Or.inl ⟨rfl, rfl⟩), (Or.inl ⟨rfl, rfl⟩), rfl, own_a0, own_a0⟩)
  · exact (Or.inr ⟨a, ka, la, (.ref ac), .null, [(kc, lc)], [], rfl, F_a_key, F_a_level, F_a_left, F_a_right, (Or.inr ⟨ac, kc, lc, .null, .null, [], [], rfl, F_ac_key, F_ac_level, F_ac_left, F_ac_right, (Or.inl ⟨rfl, rfl⟩), (Or.inl ⟨rfl, rfl⟩), rfl, own_a0, own_a0⟩), (Or.inl ⟨rfl, rfl⟩), rfl, (own_aS o1 own_a0), own_a0⟩)
  · exact (Or.inr ⟨a, ka, la, .null, (.ref ac), [], [(kc, lc)], rfl, F_a_key, F_a_level, F_a_left, F_a_right, (Or.inl ⟨rfl, rfl⟩), (Or.inr ⟨ac, kc, lc, .null, .null, [], [], rfl, F_ac_key, F_ac_level, F_ac_left, F_ac_right, (Or.inl ⟨rfl, rfl⟩), (Or.inl ⟨rfl, rfl⟩), rfl, own_a0, own_a0⟩), rfl, own_a0, (own_aS o1 own_a0)⟩)
  · exact (Or.inr ⟨a, ka, la, (.ref ac), (.ref ad), [(kc, lc)], [(kd, ld)], rfl, F_a_key, F_a_level, F_a_left, F_a_right, (Or.inr ⟨ac, kc, lc, .null, .null, [], [], rfl, F_ac_key, F_ac_level, F_ac_left, F_ac_right, (Or.inl ⟨rfl, rfl⟩), (Or.inl ⟨rfl, rfl⟩), rfl, own_a0, own_a0⟩), (Or.inr ⟨ad, kd, ld, .null, .null, [], [], rfl, F_ad_key, F_ad_level, F_ad_left, F_ad_right, (Or.inl ⟨rfl, rfl⟩), (Or.inl ⟨rfl, rfl⟩), rfl, own_a0, own_a0⟩), rfl, (own_aS o1 own_a0), (own_aS o2 own_a0)⟩)
set_option maxHeartbeats 40000000 in
theorem own_put2 (l : Launch) (Z : State) (a0 : Array Value) (hw : ∀ d ∈ tables_1, d.before a0 Z = true) (tr : Nat) (key : Int64) (lv : Nat) (xs : oKV) (as : List Nat) (h0 : Heap) (n0 : Nat) (Z0 : n0 ≤ h0.size) (hB : Nat) (hBs : hB ≤ h0.size) (I : own_Inv Z h0 n0 hB tr xs as) (Lv : own_L Z h0 n0 lv) (hN : (tr :: lv :: (as ++ xs.map Prod.snd)).Nodup) (hK : ∀ y ∈ xs, y.1 ≠ key) :
    Con l Z (⟨oT, "put", "(JLcom/example/rotunda/rotunda/BookSide$Level;)V"⟩ : MethodName) prog_29_method_5_code 4 none [] ({ frames := 5, cells := 1, slots := 6, locals := 76 } : Room) #[(.ref tr), (.long key), (.ref lv)] h0 (fun o h L => ∃ (v : Value) (xs' : oKV), o = none ∧ Fr n0 L ∧ Exa Z h tr oT ∧ Fld Z h tr oT "root" oNd v ∧ own_G Z h 3 v xs' ∧ xs'.Perm ((key, lv) :: xs)) := by
  by_cases hlen : xs.length ≤ 2
  · refine Con.mono (own_put1 l Z a0 hw tr key lv xs as h0 n0 Z0 hB hBs I Lv hN hK hlen) ?_
    rintro o h L ⟨xs', as', rfl, N, K, ⟨v, sz, e, g, f, f2, sh, -, -⟩, pm⟩
    exact ⟨v, xs', rfl, N, e, f, own_ShG sh, pm⟩
  obtain ⟨v, sz, E_tr, G_tr, F_root, F_size, Sh, -, hBa⟩ := I
  obtain ⟨E_lv, G_lv, wv, F_lv⟩ := Lv
  have N0 := Fr.nil n0
  rcases Sh with ⟨rfl, rfl, rfl⟩ | ⟨a, ka, la, qa, rfl, rfl, rfl, ⟨E_a, G_a, F_a_key, F_a_level, F_a_left, F_a_right, F_a_height, F_a_quantity⟩, ⟨E_la, G_la, wa, F_la⟩⟩ | ⟨a, ka, la, qa, ac, kc, lc, qc, rfl, rfl, rfl, ⟨E_a, G_a, F_a_key, F_a_level, F_a_left, F_a_right, F_a_height, F_a_quantity⟩, ⟨E_ac, G_ac, F_ac_key, F_ac_level, F_ac_left, F_ac_right, F_ac_height, F_ac_quantity⟩, ⟨E_la, G_la, wa, F_la⟩, ⟨E_lc, G_lc, wc, F_lc⟩, o1⟩ | ⟨a, ka, la, qa, ac, kc, lc, qc, rfl, rfl, rfl, ⟨E_a, G_a, F_a_key, F_a_level, F_a_left, F_a_right, F_a_height, F_a_quantity⟩, ⟨E_ac, G_ac, F_ac_key, F_ac_level, F_ac_left, F_ac_right, F_ac_height, F_ac_quantity⟩, ⟨E_la, G_la, wa, F_la⟩, ⟨E_lc, G_lc, wc, F_lc⟩, o1⟩ | ⟨a, ka, la, qa, ac, kc, lc, qc, ad, kd, ld, qd, rfl, rfl, rfl, ⟨E_a, G_a, F_a_key, F_a_level, F_a_left, F_a_right, F_a_height, F_a_quantity⟩, ⟨E_ac, G_ac, F_ac_key, F_ac_level, F_ac_left, F_ac_right, F_ac_height, F_ac_quantity⟩, ⟨E_ad, G_ad, F_ad_key, F_ad_level, F_ad_left, F_ad_right, F_ad_height, F_ad_quantity⟩, ⟨E_la, G_la, wa, F_la⟩, ⟨E_lc, G_lc, wc, F_lc⟩, ⟨E_ld, G_ld, wd, F_ld⟩, o1, o2⟩
  · skip
    exact absurd (show 0 ≤ 2 by decide) hlen
  · skip
    exact absurd (show 1 ≤ 2 by decide) hlen
  · skip
    exact absurd (show 2 ≤ 2 by decide) hlen
  · skip
    exact absurd (show 2 ≤ 2 by decide) hlen
  · skip
    have knc : kc ≠ key := hK _ (List.mem_of_getElem? (i := 0) rfl)
    have kna : ka ≠ key := hK _ (List.mem_of_getElem? (i := 1) rfl)
    have knd : kd ≠ key := hK _ (List.mem_of_getElem? (i := 2) rfl)
    by_cases hk : key < ka
    · skip
      by_cases hk2 : key < kc
      · skip
        refine Con.mono (own_rmjpll l Z a0 hw [] tr key lv a sz ka la ac (.ref ad) (2 : Int32) qa kc lc qc wa wc wv (1 : Int32) qd h0 n0 Z0 (Or.inr ⟨ad, rfl, F_ad_height, F_ad_quantity⟩) E_tr G_tr F_root F_size E_a G_a F_a_key F_a_level F_a_left F_a_right F_a_height F_a_quantity E_ac G_ac F_ac_key F_ac_level F_ac_left F_ac_right F_ac_height F_ac_quantity E_la G_la F_la E_lc G_lc F_lc E_lv G_lv F_lv (own_ne hN 0 2 rfl rfl (by decide)) (own_ne hN 0 3 rfl rfl (by decide)) (own_ne hN 0 6 rfl rfl (by decide)) (own_ne hN 0 5 rfl rfl (by decide)) (own_ne hN 0 1 rfl rfl (by decide)) (own_ne hN 2 3 rfl rfl (by decide)) (own_ne hN 2 6 rfl rfl (by decide)) (own_ne hN 2 5 rfl rfl (by decide)) (Ne.symm (own_ne hN 1 2 rfl rfl (by decide))) (own_ne hN 3 6 rfl rfl (by decide)) (own_ne hN 3 5 rfl rfl (by decide)) (Ne.symm (own_ne hN 1 3 rfl rfl (by decide))) (Ne.symm (own_ne hN 5 6 rfl rfl (by decide))) (Ne.symm (own_ne hN 1 6 rfl rfl (by decide))) (Ne.symm (own_ne hN 1 5 rfl rfl (by decide))) (fun q => (Ne.symm (own_ne hN 0 4 rfl rfl (by decide))) (Value.ref.inj q)) (fun q => (Ne.symm (own_ne hN 2 4 rfl rfl (by decide))) (Value.ref.inj q)) (fun q => (Ne.symm (own_ne hN 3 4 rfl rfl (by decide))) (Value.ref.inj q)) (fun q => (own_ne hN 4 6 rfl rfl (by decide)) (Value.ref.inj q)) (fun q => (own_ne hN 4 5 rfl rfl (by decide)) (Value.ref.inj q)) (fun q => (Ne.symm (own_ne hN 1 4 rfl rfl (by decide))) (Value.ref.inj q)) hk hk2 (by decide) (by decide)) ?_
        intro v1 H1 L1 Q1
        obtain ⟨d1, rfl, Nq1, Kq1, Fp1_0, Fp1_1, Fp1_2, Fp1_3, Fp1_4, Fp1_5, Fp1_6, Fp1_7, Fp1_8, Fp1_9, Fp1_10, Fp1_11, Fp1_12, Fp1_13, Fp1_14, Fp1_15, Fp1_16, Fp1_17, Fp1_18, Fp1_19, Fp1_20, Fp1_21⟩ := Q1
        have N1 := Fr.app N0 Nq1
        have ntrd1 : tr ≠ d1 := Nat.ne_of_lt (Nat.lt_of_lt_of_le E_tr.lt Fp1_14)
        have nlvd1 : lv ≠ d1 := Nat.ne_of_lt (Nat.lt_of_lt_of_le E_lv.lt Fp1_14)
        have nad1 : a ≠ d1 := Nat.ne_of_lt (Nat.lt_of_lt_of_le E_a.lt Fp1_14)
        have nlad1 : la ≠ d1 := Nat.ne_of_lt (Nat.lt_of_lt_of_le E_la.lt Fp1_14)
        have nacd1 : ac ≠ d1 := Nat.ne_of_lt (Nat.lt_of_lt_of_le E_ac.lt Fp1_14)
        have nlcd1 : lc ≠ d1 := Nat.ne_of_lt (Nat.lt_of_lt_of_le E_lc.lt Fp1_14)
        have nadd1 : ad ≠ d1 := Nat.ne_of_lt (Nat.lt_of_lt_of_le E_ad.lt Fp1_14)
        have nldd1 : ld ≠ d1 := Nat.ne_of_lt (Nat.lt_of_lt_of_le E_ld.lt Fp1_14)
        have G_d1 : n0 ≤ d1 := Nat.le_trans Z0 Fp1_14
        have Zs1 := Nat.le_trans Z0 Kq1.1
        have f2 := Exa.keep E_tr Kq1
        have f5 := Exa.keep E_lv Kq1
        have f6 := Fld.keep F_lv Kq1 (ninS (Ne.symm (own_ne hN 0 1 rfl rfl (by decide))) (ninS (own_ne hN 1 2 rfl rfl (by decide)) (ninS (own_ne hN 1 3 rfl rfl (by decide)) nin0)))
        have f7 := Exa.keep E_a Kq1
        have f14 := Exa.keep E_la Kq1
        have f15 := Fld.keep F_la Kq1 (ninS (Ne.symm (own_ne hN 0 6 rfl rfl (by decide))) (ninS (Ne.symm (own_ne hN 2 6 rfl rfl (by decide))) (ninS (Ne.symm (own_ne hN 3 6 rfl rfl (by decide))) nin0)))
        have f16 := Exa.keep E_ac Kq1
        have f23 := Exa.keep E_lc Kq1
        have f24 := Fld.keep F_lc Kq1 (ninS (Ne.symm (own_ne hN 0 5 rfl rfl (by decide))) (ninS (Ne.symm (own_ne hN 2 5 rfl rfl (by decide))) (ninS (Ne.symm (own_ne hN 3 5 rfl rfl (by decide))) nin0)))
        have f25 := Exa.keep E_ad Kq1
        have f26 := Fld.keep F_ad_key Kq1 (ninS (Ne.symm (own_ne hN 0 4 rfl rfl (by decide))) (ninS (Ne.symm (own_ne hN 2 4 rfl rfl (by decide))) (ninS (Ne.symm (own_ne hN 3 4 rfl rfl (by decide))) nin0)))
        have f27 := Fld.keep F_ad_level Kq1 (ninS (Ne.symm (own_ne hN 0 4 rfl rfl (by decide))) (ninS (Ne.symm (own_ne hN 2 4 rfl rfl (by decide))) (ninS (Ne.symm (own_ne hN 3 4 rfl rfl (by decide))) nin0)))
        have f28 := Fld.keep F_ad_left Kq1 (ninS (Ne.symm (own_ne hN 0 4 rfl rfl (by decide))) (ninS (Ne.symm (own_ne hN 2 4 rfl rfl (by decide))) (ninS (Ne.symm (own_ne hN 3 4 rfl rfl (by decide))) nin0)))
        have f29 := Fld.keep F_ad_right Kq1 (ninS (Ne.symm (own_ne hN 0 4 rfl rfl (by decide))) (ninS (Ne.symm (own_ne hN 2 4 rfl rfl (by decide))) (ninS (Ne.symm (own_ne hN 3 4 rfl rfl (by decide))) nin0)))
        have f30 := Fld.keep F_ad_height Kq1 (ninS (Ne.symm (own_ne hN 0 4 rfl rfl (by decide))) (ninS (Ne.symm (own_ne hN 2 4 rfl rfl (by decide))) (ninS (Ne.symm (own_ne hN 3 4 rfl rfl (by decide))) nin0)))
        have f31 := Fld.keep F_ad_quantity Kq1 (ninS (Ne.symm (own_ne hN 0 4 rfl rfl (by decide))) (ninS (Ne.symm (own_ne hN 2 4 rfl rfl (by decide))) (ninS (Ne.symm (own_ne hN 3 4 rfl rfl (by decide))) nin0)))
        have f32 := Exa.keep E_ld Kq1
        have f33 := Fld.keep F_ld Kq1 (ninS (Ne.symm (own_ne hN 0 7 rfl rfl (by decide))) (ninS (Ne.symm (own_ne hN 2 7 rfl rfl (by decide))) (ninS (Ne.symm (own_ne hN 3 7 rfl rfl (by decide))) nin0)))
        rw [show ((own_f11 (2 : Int32) (1 : Int32)) + (1 : Int32)) = (3 : Int32) from by decide] at Fp1_2
        exact ⟨_, [(key, lv), (kc, lc), (ka, la), (kd, ld)], rfl, Nq1, f2, Fp1_0, (Or.inr ⟨a, ka, la, (.ref ac), (.ref ad), [(key, lv), (kc, lc)], [(kd, ld)], rfl, Fp1_3, Fp1_5, Fp1_4, Fp1_7, (Or.inr ⟨ac, kc, lc, (.ref d1), .null, [(key, lv)], [], rfl, Fp1_9, Fp1_11, Fp1_10, Fp1_13, (Or.inr ⟨d1, key, lv, .null, .null, [], [], rfl, Fp1_17, Fp1_19, Fp1_18, Fp1_21, ⟨rfl, rfl⟩, ⟨rfl, rfl⟩, rfl, own_a0, own_a0⟩), (Or.inl ⟨rfl, rfl⟩), rfl, (own_aS hk2 own_a0), own_a0⟩), (Or.inr ⟨ad, kd, ld, .null, .null, [], [], rfl, f26, f27, f28, f29, (Or.inl ⟨rfl, rfl⟩), (Or.inl ⟨rfl, rfl⟩), rfl, own_a0, own_a0⟩), rfl, (own_aS hk (own_aS o1 own_a0)), (own_aS o2 own_a0)⟩), own_ins [] [(kc, lc), (ka, la), (kd, ld)] (key, lv)⟩
      · skip
        refine Con.mono (own_rmjplr l Z a0 hw [] tr key lv a sz ka la ac (.ref ad) (2 : Int32) qa kc lc qc wa wc wv (1 : Int32) qd h0 n0 Z0 (Or.inr ⟨ad, rfl, F_ad_height, F_ad_quantity⟩) E_tr G_tr F_root F_size E_a G_a F_a_key F_a_level F_a_left F_a_right F_a_height F_a_quantity E_ac G_ac F_ac_key F_ac_level F_ac_left F_ac_right F_ac_height F_ac_quantity E_la G_la F_la E_lc G_lc F_lc E_lv G_lv F_lv (own_ne hN 0 2 rfl rfl (by decide)) (own_ne hN 0 3 rfl rfl (by decide)) (own_ne hN 0 6 rfl rfl (by decide)) (own_ne hN 0 5 rfl rfl (by decide)) (own_ne hN 0 1 rfl rfl (by decide)) (own_ne hN 2 3 rfl rfl (by decide)) (own_ne hN 2 6 rfl rfl (by decide)) (own_ne hN 2 5 rfl rfl (by decide)) (Ne.symm (own_ne hN 1 2 rfl rfl (by decide))) (own_ne hN 3 6 rfl rfl (by decide)) (own_ne hN 3 5 rfl rfl (by decide)) (Ne.symm (own_ne hN 1 3 rfl rfl (by decide))) (Ne.symm (own_ne hN 5 6 rfl rfl (by decide))) (Ne.symm (own_ne hN 1 6 rfl rfl (by decide))) (Ne.symm (own_ne hN 1 5 rfl rfl (by decide))) (fun q => (Ne.symm (own_ne hN 0 4 rfl rfl (by decide))) (Value.ref.inj q)) (fun q => (Ne.symm (own_ne hN 2 4 rfl rfl (by decide))) (Value.ref.inj q)) (fun q => (Ne.symm (own_ne hN 3 4 rfl rfl (by decide))) (Value.ref.inj q)) (fun q => (own_ne hN 4 6 rfl rfl (by decide)) (Value.ref.inj q)) (fun q => (own_ne hN 4 5 rfl rfl (by decide)) (Value.ref.inj q)) (fun q => (Ne.symm (own_ne hN 1 4 rfl rfl (by decide))) (Value.ref.inj q)) hk hk2 (by decide) (by decide)) ?_
        intro v34 H34 L34 Q34
        obtain ⟨d34, rfl, Nq34, Kq34, Fp34_0, Fp34_1, Fp34_2, Fp34_3, Fp34_4, Fp34_5, Fp34_6, Fp34_7, Fp34_8, Fp34_9, Fp34_10, Fp34_11, Fp34_12, Fp34_13, Fp34_14, Fp34_15, Fp34_16, Fp34_17, Fp34_18, Fp34_19, Fp34_20, Fp34_21⟩ := Q34
        have N34 := Fr.app N0 Nq34
        have ntrd34 : tr ≠ d34 := Nat.ne_of_lt (Nat.lt_of_lt_of_le E_tr.lt Fp34_14)
        have nlvd34 : lv ≠ d34 := Nat.ne_of_lt (Nat.lt_of_lt_of_le E_lv.lt Fp34_14)
        have nad34 : a ≠ d34 := Nat.ne_of_lt (Nat.lt_of_lt_of_le E_a.lt Fp34_14)
        have nlad34 : la ≠ d34 := Nat.ne_of_lt (Nat.lt_of_lt_of_le E_la.lt Fp34_14)
        have nacd34 : ac ≠ d34 := Nat.ne_of_lt (Nat.lt_of_lt_of_le E_ac.lt Fp34_14)
        have nlcd34 : lc ≠ d34 := Nat.ne_of_lt (Nat.lt_of_lt_of_le E_lc.lt Fp34_14)
        have nadd34 : ad ≠ d34 := Nat.ne_of_lt (Nat.lt_of_lt_of_le E_ad.lt Fp34_14)
        have nldd34 : ld ≠ d34 := Nat.ne_of_lt (Nat.lt_of_lt_of_le E_ld.lt Fp34_14)
        have G_d34 : n0 ≤ d34 := Nat.le_trans Z0 Fp34_14
        have Zs34 := Nat.le_trans Z0 Kq34.1
        have f35 := Exa.keep E_tr Kq34
        have f38 := Exa.keep E_lv Kq34
        have f39 := Fld.keep F_lv Kq34 (ninS (Ne.symm (own_ne hN 0 1 rfl rfl (by decide))) (ninS (own_ne hN 1 2 rfl rfl (by decide)) (ninS (own_ne hN 1 3 rfl rfl (by decide)) nin0)))
        have f40 := Exa.keep E_a Kq34
        have f47 := Exa.keep E_la Kq34
        have f48 := Fld.keep F_la Kq34 (ninS (Ne.symm (own_ne hN 0 6 rfl rfl (by decide))) (ninS (Ne.symm (own_ne hN 2 6 rfl rfl (by decide))) (ninS (Ne.symm (own_ne hN 3 6 rfl rfl (by decide))) nin0)))
        have f49 := Exa.keep E_ac Kq34
        have f56 := Exa.keep E_lc Kq34
        have f57 := Fld.keep F_lc Kq34 (ninS (Ne.symm (own_ne hN 0 5 rfl rfl (by decide))) (ninS (Ne.symm (own_ne hN 2 5 rfl rfl (by decide))) (ninS (Ne.symm (own_ne hN 3 5 rfl rfl (by decide))) nin0)))
        have f58 := Exa.keep E_ad Kq34
        have f59 := Fld.keep F_ad_key Kq34 (ninS (Ne.symm (own_ne hN 0 4 rfl rfl (by decide))) (ninS (Ne.symm (own_ne hN 2 4 rfl rfl (by decide))) (ninS (Ne.symm (own_ne hN 3 4 rfl rfl (by decide))) nin0)))
        have f60 := Fld.keep F_ad_level Kq34 (ninS (Ne.symm (own_ne hN 0 4 rfl rfl (by decide))) (ninS (Ne.symm (own_ne hN 2 4 rfl rfl (by decide))) (ninS (Ne.symm (own_ne hN 3 4 rfl rfl (by decide))) nin0)))
        have f61 := Fld.keep F_ad_left Kq34 (ninS (Ne.symm (own_ne hN 0 4 rfl rfl (by decide))) (ninS (Ne.symm (own_ne hN 2 4 rfl rfl (by decide))) (ninS (Ne.symm (own_ne hN 3 4 rfl rfl (by decide))) nin0)))
        have f62 := Fld.keep F_ad_right Kq34 (ninS (Ne.symm (own_ne hN 0 4 rfl rfl (by decide))) (ninS (Ne.symm (own_ne hN 2 4 rfl rfl (by decide))) (ninS (Ne.symm (own_ne hN 3 4 rfl rfl (by decide))) nin0)))
        have f63 := Fld.keep F_ad_height Kq34 (ninS (Ne.symm (own_ne hN 0 4 rfl rfl (by decide))) (ninS (Ne.symm (own_ne hN 2 4 rfl rfl (by decide))) (ninS (Ne.symm (own_ne hN 3 4 rfl rfl (by decide))) nin0)))
        have f64 := Fld.keep F_ad_quantity Kq34 (ninS (Ne.symm (own_ne hN 0 4 rfl rfl (by decide))) (ninS (Ne.symm (own_ne hN 2 4 rfl rfl (by decide))) (ninS (Ne.symm (own_ne hN 3 4 rfl rfl (by decide))) nin0)))
        have f65 := Exa.keep E_ld Kq34
        have f66 := Fld.keep F_ld Kq34 (ninS (Ne.symm (own_ne hN 0 7 rfl rfl (by decide))) (ninS (Ne.symm (own_ne hN 2 7 rfl rfl (by decide))) (ninS (Ne.symm (own_ne hN 3 7 rfl rfl (by decide))) nin0)))
        rw [show ((own_f11 (2 : Int32) (1 : Int32)) + (1 : Int32)) = (3 : Int32) from by decide] at Fp34_2
        exact ⟨_, [(kc, lc), (key, lv), (ka, la), (kd, ld)], rfl, Nq34, f35, Fp34_0, (Or.inr ⟨a, ka, la, (.ref ac), (.ref ad), [(kc, lc), (key, lv)], [(kd, ld)], rfl, Fp34_3, Fp34_5, Fp34_4, Fp34_7, (Or.inr ⟨ac, kc, lc, .null, (.ref d34), [], [(key, lv)], rfl, Fp34_9, Fp34_11, Fp34_10, Fp34_13, (Or.inl ⟨rfl, rfl⟩), (Or.inr ⟨d34, key, lv, .null, .null, [], [], rfl, Fp34_17, Fp34_19, Fp34_18, Fp34_21, ⟨rfl, rfl⟩, ⟨rfl, rfl⟩, rfl, own_a0, own_a0⟩), rfl, own_a0, (own_aS (own_gt hk2 knc) own_a0)⟩), (Or.inr ⟨ad, kd, ld, .null, .null, [], [], rfl, f59, f60, f61, f62, (Or.inl ⟨rfl, rfl⟩), (Or.inl ⟨rfl, rfl⟩), rfl, own_a0, own_a0⟩), rfl, (own_aS o1 (own_aS hk own_a0)), (own_aS o2 own_a0)⟩), own_ins [(kc, lc)] [(ka, la), (kd, ld)] (key, lv)⟩
    · skip
      by_cases hk2 : key < kd
      · skip
        refine Con.mono (own_rmjprl l Z a0 hw [] tr key lv a sz ka la (.ref ac) ad (2 : Int32) qa kd ld qd wa wd wv (1 : Int32) qc h0 n0 Z0 (Or.inr ⟨ac, rfl, F_ac_height, F_ac_quantity⟩) E_tr G_tr F_root F_size E_a G_a F_a_key F_a_level F_a_left F_a_right F_a_height F_a_quantity E_ad G_ad F_ad_key F_ad_level F_ad_left F_ad_right F_ad_height F_ad_quantity E_la G_la F_la E_ld G_ld F_ld E_lv G_lv F_lv (own_ne hN 0 2 rfl rfl (by decide)) (own_ne hN 0 4 rfl rfl (by decide)) (own_ne hN 0 6 rfl rfl (by decide)) (own_ne hN 0 7 rfl rfl (by decide)) (own_ne hN 0 1 rfl rfl (by decide)) (own_ne hN 2 4 rfl rfl (by decide)) (own_ne hN 2 6 rfl rfl (by decide)) (own_ne hN 2 7 rfl rfl (by decide)) (Ne.symm (own_ne hN 1 2 rfl rfl (by decide))) (own_ne hN 4 6 rfl rfl (by decide)) (own_ne hN 4 7 rfl rfl (by decide)) (Ne.symm (own_ne hN 1 4 rfl rfl (by decide))) (own_ne hN 6 7 rfl rfl (by decide)) (Ne.symm (own_ne hN 1 6 rfl rfl (by decide))) (Ne.symm (own_ne hN 1 7 rfl rfl (by decide))) (fun q => (Ne.symm (own_ne hN 0 3 rfl rfl (by decide))) (Value.ref.inj q)) (fun q => (Ne.symm (own_ne hN 2 3 rfl rfl (by decide))) (Value.ref.inj q)) (fun q => (own_ne hN 3 4 rfl rfl (by decide)) (Value.ref.inj q)) (fun q => (own_ne hN 3 6 rfl rfl (by decide)) (Value.ref.inj q)) (fun q => (own_ne hN 3 7 rfl rfl (by decide)) (Value.ref.inj q)) (fun q => (Ne.symm (own_ne hN 1 3 rfl rfl (by decide))) (Value.ref.inj q)) hk hk2 (by decide) (by decide)) ?_
        intro v67 H67 L67 Q67
        obtain ⟨d67, rfl, Nq67, Kq67, Fp67_0, Fp67_1, Fp67_2, Fp67_3, Fp67_4, Fp67_5, Fp67_6, Fp67_7, Fp67_8, Fp67_9, Fp67_10, Fp67_11, Fp67_12, Fp67_13, Fp67_14, Fp67_15, Fp67_16, Fp67_17, Fp67_18, Fp67_19, Fp67_20, Fp67_21⟩ := Q67
        have N67 := Fr.app N0 Nq67
        have ntrd67 : tr ≠ d67 := Nat.ne_of_lt (Nat.lt_of_lt_of_le E_tr.lt Fp67_14)
        have nlvd67 : lv ≠ d67 := Nat.ne_of_lt (Nat.lt_of_lt_of_le E_lv.lt Fp67_14)
        have nad67 : a ≠ d67 := Nat.ne_of_lt (Nat.lt_of_lt_of_le E_a.lt Fp67_14)
        have nlad67 : la ≠ d67 := Nat.ne_of_lt (Nat.lt_of_lt_of_le E_la.lt Fp67_14)
        have nacd67 : ac ≠ d67 := Nat.ne_of_lt (Nat.lt_of_lt_of_le E_ac.lt Fp67_14)
        have nlcd67 : lc ≠ d67 := Nat.ne_of_lt (Nat.lt_of_lt_of_le E_lc.lt Fp67_14)
        have nadd67 : ad ≠ d67 := Nat.ne_of_lt (Nat.lt_of_lt_of_le E_ad.lt Fp67_14)
        have nldd67 : ld ≠ d67 := Nat.ne_of_lt (Nat.lt_of_lt_of_le E_ld.lt Fp67_14)
        have G_d67 : n0 ≤ d67 := Nat.le_trans Z0 Fp67_14
        have Zs67 := Nat.le_trans Z0 Kq67.1
        have f68 := Exa.keep E_tr Kq67
        have f71 := Exa.keep E_lv Kq67
        have f72 := Fld.keep F_lv Kq67 (ninS (Ne.symm (own_ne hN 0 1 rfl rfl (by decide))) (ninS (own_ne hN 1 2 rfl rfl (by decide)) (ninS (own_ne hN 1 4 rfl rfl (by decide)) nin0)))
        have f73 := Exa.keep E_a Kq67
        have f80 := Exa.keep E_la Kq67
        have f81 := Fld.keep F_la Kq67 (ninS (Ne.symm (own_ne hN 0 6 rfl rfl (by decide))) (ninS (Ne.symm (own_ne hN 2 6 rfl rfl (by decide))) (ninS (Ne.symm (own_ne hN 4 6 rfl rfl (by decide))) nin0)))
        have f82 := Exa.keep E_ac Kq67
        have f83 := Fld.keep F_ac_key Kq67 (ninS (Ne.symm (own_ne hN 0 3 rfl rfl (by decide))) (ninS (Ne.symm (own_ne hN 2 3 rfl rfl (by decide))) (ninS (own_ne hN 3 4 rfl rfl (by decide)) nin0)))
        have f84 := Fld.keep F_ac_level Kq67 (ninS (Ne.symm (own_ne hN 0 3 rfl rfl (by decide))) (ninS (Ne.symm (own_ne hN 2 3 rfl rfl (by decide))) (ninS (own_ne hN 3 4 rfl rfl (by decide)) nin0)))
        have f85 := Fld.keep F_ac_left Kq67 (ninS (Ne.symm (own_ne hN 0 3 rfl rfl (by decide))) (ninS (Ne.symm (own_ne hN 2 3 rfl rfl (by decide))) (ninS (own_ne hN 3 4 rfl rfl (by decide)) nin0)))
        have f86 := Fld.keep F_ac_right Kq67 (ninS (Ne.symm (own_ne hN 0 3 rfl rfl (by decide))) (ninS (Ne.symm (own_ne hN 2 3 rfl rfl (by decide))) (ninS (own_ne hN 3 4 rfl rfl (by decide)) nin0)))
        have f87 := Fld.keep F_ac_height Kq67 (ninS (Ne.symm (own_ne hN 0 3 rfl rfl (by decide))) (ninS (Ne.symm (own_ne hN 2 3 rfl rfl (by decide))) (ninS (own_ne hN 3 4 rfl rfl (by decide)) nin0)))
        have f88 := Fld.keep F_ac_quantity Kq67 (ninS (Ne.symm (own_ne hN 0 3 rfl rfl (by decide))) (ninS (Ne.symm (own_ne hN 2 3 rfl rfl (by decide))) (ninS (own_ne hN 3 4 rfl rfl (by decide)) nin0)))
        have f89 := Exa.keep E_lc Kq67
        have f90 := Fld.keep F_lc Kq67 (ninS (Ne.symm (own_ne hN 0 5 rfl rfl (by decide))) (ninS (Ne.symm (own_ne hN 2 5 rfl rfl (by decide))) (ninS (Ne.symm (own_ne hN 4 5 rfl rfl (by decide))) nin0)))
        have f91 := Exa.keep E_ad Kq67
        have f98 := Exa.keep E_ld Kq67
        have f99 := Fld.keep F_ld Kq67 (ninS (Ne.symm (own_ne hN 0 7 rfl rfl (by decide))) (ninS (Ne.symm (own_ne hN 2 7 rfl rfl (by decide))) (ninS (Ne.symm (own_ne hN 4 7 rfl rfl (by decide))) nin0)))
        rw [show ((own_f11 (1 : Int32) (2 : Int32)) + (1 : Int32)) = (3 : Int32) from by decide] at Fp67_2
        exact ⟨_, [(kc, lc), (ka, la), (key, lv), (kd, ld)], rfl, Nq67, f68, Fp67_0, (Or.inr ⟨a, ka, la, (.ref ac), (.ref ad), [(kc, lc)], [(key, lv), (kd, ld)], rfl, Fp67_3, Fp67_5, Fp67_4, Fp67_7, (Or.inr ⟨ac, kc, lc, .null, .null, [], [], rfl, f83, f84, f85, f86, (Or.inl ⟨rfl, rfl⟩), (Or.inl ⟨rfl, rfl⟩), rfl, own_a0, own_a0⟩), (Or.inr ⟨ad, kd, ld, (.ref d67), .null, [(key, lv)], [], rfl, Fp67_9, Fp67_11, Fp67_10, Fp67_13, (Or.inr ⟨d67, key, lv, .null, .null, [], [], rfl, Fp67_17, Fp67_19, Fp67_18, Fp67_21, ⟨rfl, rfl⟩, ⟨rfl, rfl⟩, rfl, own_a0, own_a0⟩), (Or.inl ⟨rfl, rfl⟩), rfl, (own_aS hk2 own_a0), own_a0⟩), rfl, (own_aS o1 own_a0), (own_aS (own_gt hk kna) (own_aS o2 own_a0))⟩), own_ins [(kc, lc), (ka, la)] [(kd, ld)] (key, lv)⟩
      · skip
        refine Con.mono (own_rmjprr l Z a0 hw [] tr key lv a sz ka la (.ref ac) ad (2 : Int32) qa kd ld qd wa wd wv (1 : Int32) qc h0 n0 Z0 (Or.inr ⟨ac, rfl, F_ac_height, F_ac_quantity⟩) E_tr G_tr F_root F_size E_a G_a F_a_key F_a_level F_a_left F_a_right F_a_height F_a_quantity E_ad G_ad F_ad_key F_ad_level F_ad_left F_ad_right F_ad_height F_ad_quantity E_la G_la F_la E_ld G_ld F_ld E_lv G_lv F_lv (own_ne hN 0 2 rfl rfl (by decide)) (own_ne hN 0 4 rfl rfl (by decide)) (own_ne hN 0 6 rfl rfl (by decide)) (own_ne hN 0 7 rfl rfl (by decide)) (own_ne hN 0 1 rfl rfl (by decide)) (own_ne hN 2 4 rfl rfl (by decide)) (own_ne hN 2 6 rfl rfl (by decide)) (own_ne hN 2 7 rfl rfl (by decide)) (Ne.symm (own_ne hN 1 2 rfl rfl (by decide))) (own_ne hN 4 6 rfl rfl (by decide)) (own_ne hN 4 7 rfl rfl (by decide)) (Ne.symm (own_ne hN 1 4 rfl rfl (by decide))) (own_ne hN 6 7 rfl rfl (by decide)) (Ne.symm (own_ne hN 1 6 rfl rfl (by decide))) (Ne.symm (own_ne hN 1 7 rfl rfl (by decide))) (fun q => (Ne.symm (own_ne hN 0 3 rfl rfl (by decide))) (Value.ref.inj q)) (fun q => (Ne.symm (own_ne hN 2 3 rfl rfl (by decide))) (Value.ref.inj q)) (fun q => (own_ne hN 3 4 rfl rfl (by decide)) (Value.ref.inj q)) (fun q => (own_ne hN 3 6 rfl rfl (by decide)) (Value.ref.inj q)) (fun q => (own_ne hN 3 7 rfl rfl (by decide)) (Value.ref.inj q)) (fun q => (Ne.symm (own_ne hN 1 3 rfl rfl (by decide))) (Value.ref.inj q)) hk hk2 (by decide) (by decide)) ?_
        intro v100 H100 L100 Q100
        obtain ⟨d100, rfl, Nq100, Kq100, Fp100_0, Fp100_1, Fp100_2, Fp100_3, Fp100_4, Fp100_5, Fp100_6, Fp100_7, Fp100_8, Fp100_9, Fp100_10, Fp100_11, Fp100_12, Fp100_13, Fp100_14, Fp100_15, Fp100_16, Fp100_17, Fp100_18, Fp100_19, Fp100_20, Fp100_21⟩ := Q100
        have N100 := Fr.app N0 Nq100
        have ntrd100 : tr ≠ d100 := Nat.ne_of_lt (Nat.lt_of_lt_of_le E_tr.lt Fp100_14)
        have nlvd100 : lv ≠ d100 := Nat.ne_of_lt (Nat.lt_of_lt_of_le E_lv.lt Fp100_14)
        have nad100 : a ≠ d100 := Nat.ne_of_lt (Nat.lt_of_lt_of_le E_a.lt Fp100_14)
        have nlad100 : la ≠ d100 := Nat.ne_of_lt (Nat.lt_of_lt_of_le E_la.lt Fp100_14)
        have nacd100 : ac ≠ d100 := Nat.ne_of_lt (Nat.lt_of_lt_of_le E_ac.lt Fp100_14)
        have nlcd100 : lc ≠ d100 := Nat.ne_of_lt (Nat.lt_of_lt_of_le E_lc.lt Fp100_14)
        have nadd100 : ad ≠ d100 := Nat.ne_of_lt (Nat.lt_of_lt_of_le E_ad.lt Fp100_14)
        have nldd100 : ld ≠ d100 := Nat.ne_of_lt (Nat.lt_of_lt_of_le E_ld.lt Fp100_14)
        have G_d100 : n0 ≤ d100 := Nat.le_trans Z0 Fp100_14
        have Zs100 := Nat.le_trans Z0 Kq100.1
        have f101 := Exa.keep E_tr Kq100
        have f104 := Exa.keep E_lv Kq100
        have f105 := Fld.keep F_lv Kq100 (ninS (Ne.symm (own_ne hN 0 1 rfl rfl (by decide))) (ninS (own_ne hN 1 2 rfl rfl (by decide)) (ninS (own_ne hN 1 4 rfl rfl (by decide)) nin0)))
        have f106 := Exa.keep E_a Kq100
        have f113 := Exa.keep E_la Kq100
        have f114 := Fld.keep F_la Kq100 (ninS (Ne.symm (own_ne hN 0 6 rfl rfl (by decide))) (ninS (Ne.symm (own_ne hN 2 6 rfl rfl (by decide))) (ninS (Ne.symm (own_ne hN 4 6 rfl rfl (by decide))) nin0)))
        have f115 := Exa.keep E_ac Kq100
        have f116 := Fld.keep F_ac_key Kq100 (ninS (Ne.symm (own_ne hN 0 3 rfl rfl (by decide))) (ninS (Ne.symm (own_ne hN 2 3 rfl rfl (by decide))) (ninS (own_ne hN 3 4 rfl rfl (by decide)) nin0)))
        have f117 := Fld.keep F_ac_level Kq100 (ninS (Ne.symm (own_ne hN 0 3 rfl rfl (by decide))) (ninS (Ne.symm (own_ne hN 2 3 rfl rfl (by decide))) (ninS (own_ne hN 3 4 rfl rfl (by decide)) nin0)))
        have f118 := Fld.keep F_ac_left Kq100 (ninS (Ne.symm (own_ne hN 0 3 rfl rfl (by decide))) (ninS (Ne.symm (own_ne hN 2 3 rfl rfl (by decide))) (ninS (own_ne hN 3 4 rfl rfl (by decide)) nin0)))
        have f119 := Fld.keep F_ac_right Kq100 (ninS (Ne.symm (own_ne hN 0 3 rfl rfl (by decide))) (ninS (Ne.symm (own_ne hN 2 3 rfl rfl (by decide))) (ninS (own_ne hN 3 4 rfl rfl (by decide)) nin0)))
        have f120 := Fld.keep F_ac_height Kq100 (ninS (Ne.symm (own_ne hN 0 3 rfl rfl (by decide))) (ninS (Ne.symm (own_ne hN 2 3 rfl rfl (by decide))) (ninS (own_ne hN 3 4 rfl rfl (by decide)) nin0)))
        have f121 := Fld.keep F_ac_quantity Kq100 (ninS (Ne.symm (own_ne hN 0 3 rfl rfl (by decide))) (ninS (Ne.symm (own_ne hN 2 3 rfl rfl (by decide))) (ninS (own_ne hN 3 4 rfl rfl (by decide)) nin0)))
        have f122 := Exa.keep E_lc Kq100
        have f123 := Fld.keep F_lc Kq100 (ninS (Ne.symm (own_ne hN 0 5 rfl rfl (by decide))) (ninS (Ne.symm (own_ne hN 2 5 rfl rfl (by decide))) (ninS (Ne.symm (own_ne hN 4 5 rfl rfl (by decide))) nin0)))
        have f124 := Exa.keep E_ad Kq100
        have f131 := Exa.keep E_ld Kq100
        have f132 := Fld.keep F_ld Kq100 (ninS (Ne.symm (own_ne hN 0 7 rfl rfl (by decide))) (ninS (Ne.symm (own_ne hN 2 7 rfl rfl (by decide))) (ninS (Ne.symm (own_ne hN 4 7 rfl rfl (by decide))) nin0)))
        rw [show ((own_f11 (1 : Int32) (2 : Int32)) + (1 : Int32)) = (3 : Int32) from by decide] at Fp100_2
        exact ⟨_, [(kc, lc), (ka, la), (kd, ld), (key, lv)], rfl, Nq100, f101, Fp100_0, (Or.inr ⟨a, ka, la, (.ref ac), (.ref ad), [(kc, lc)], [(kd, ld), (key, lv)], rfl, Fp100_3, Fp100_5, Fp100_4, Fp100_7, (Or.inr ⟨ac, kc, lc, .null, .null, [], [], rfl, f116, f117, f118, f119, (Or.inl ⟨rfl, rfl⟩), (Or.inl ⟨rfl, rfl⟩), rfl, own_a0, own_a0⟩), (Or.inr ⟨ad, kd, ld, .null, (.ref d100), [], [(key, lv)], rfl, Fp100_9, Fp100_11, Fp100_10, Fp100_13, (Or.inl ⟨rfl, rfl⟩), (Or.inr ⟨d100, key, lv, .null, .null, [], [], rfl, Fp100_17, Fp100_19, Fp100_18, Fp100_21, ⟨rfl, rfl⟩, ⟨rfl, rfl⟩, rfl, own_a0, own_a0⟩), rfl, own_a0, (own_aS (own_gt hk2 knd) own_a0)⟩), rfl, (own_aS o1 own_a0), (own_aS o2 (own_aS (own_gt hk kna) own_a0))⟩), own_ins [(kc, lc), (ka, la), (kd, ld)] [] (key, lv)⟩
def own_look (key : Int64) : oKV → Value
  | [] => .null
  | y :: r => if y.1 = key then .ref y.2 else own_look key r
theorem own_look_no {key : Int64} : ∀ {xs : oKV}, (∀ y ∈ xs, y.1 ≠ key) → own_look key xs = .null
  | [], _ => rfl
  | y :: r, h => by
    rw [own_look, if_neg (h y List.mem_cons_self)]
    exact own_look_no fun z hz => h z (List.mem_cons_of_mem _ hz)
theorem own_look_skip {key : Int64} {r : oKV} : ∀ {xs : oKV}, (∀ y ∈ xs, y.1 ≠ key) → own_look key (xs ++ r) = own_look key r
  | [], _ => rfl
  | y :: t, h => by
    rw [List.cons_append, own_look, if_neg (h y List.mem_cons_self)]
    exact own_look_skip fun z hz => h z (List.mem_cons_of_mem _ hz)
theorem own_look_cut {key : Int64} {r : oKV} (hr : ∀ y ∈ r, y.1 ≠ key) : ∀ {xs : oKV}, own_look key (xs ++ r) = own_look key xs
  | [] => own_look_no hr
  | y :: t => by
    rw [List.cons_append, own_look, own_look]
    by_cases h : y.1 = key
    · rw [if_pos h, if_pos h]
    · rw [if_neg h, if_neg h]; exact own_look_cut hr
theorem own_lt_ne {a b : Int64} (h : a < b) : a ≠ b := by
  rintro rfl
  rw [Int64.lt_iff_toInt_lt] at h
  omega
theorem own_lt_tr {a b c : Int64} (h : a < b) (g : b < c) : a < c := by
  rw [Int64.lt_iff_toInt_lt] at h g ⊢
  omega
theorem own_g_at {key k : Int64} {lv : Nat} {xl xr : oKV} (hl : ∀ y ∈ xl, y.1 < k) (q : k = key) : own_look key (xl ++ (k, lv) :: xr) = .ref lv := by
  rw [own_look_skip fun y hy => by rw [← q]; exact own_lt_ne (hl y hy), own_look, if_pos q]
theorem own_g_lt {key k : Int64} {lv : Nat} {xl xr : oKV} (hr : ∀ y ∈ xr, k < y.1) (q : key < k) : own_look key (xl ++ (k, lv) :: xr) = own_look key xl :=
  own_look_cut fun y hy => by
    rcases List.mem_cons.mp hy with rfl | h
    · exact (own_lt_ne q).symm
    · exact (own_lt_ne (own_lt_tr q (hr y h))).symm
theorem own_g_gt {key k : Int64} {lv : Nat} {xl xr : oKV} (hl : ∀ y ∈ xl, y.1 < k) (n : ¬ k = key) (q : ¬ key < k) : own_look key (xl ++ (k, lv) :: xr) = own_look key xr := by
  have g := own_gt q n
  rw [own_look_skip fun y hy => own_lt_ne (own_lt_tr (hl y hy) g), own_look, if_neg n]
theorem own_ef4 (m : MethodId) (tr : Addr) (key : Int64) : entryFrame m #[(.ref tr), (.long key)] 4 = mkF m 0 #[oR tr, oJ key, oS, oU] [] := by
  (first | (simp [entryFrame, mkF, argsToLocals, Value.category]; done) | rfl)
theorem own_d4_0 : decode prog_29_method_4_code 0 = .ok (.aload_n 0, 1) := by decide +kernel
theorem own_d4_1 : decode prog_29_method_4_code 1 = .ok (.getfield 13, 3) := by decide +kernel
theorem own_d4_4 : decode prog_29_method_4_code 4 = .ok (.astore_n 3, 1) := by decide +kernel
theorem own_d4_5 : decode prog_29_method_4_code 5 = .ok (.aload_n 3, 1) := by decide +kernel
theorem own_d4_6 : decode prog_29_method_4_code 6 = .ok (.ifnull 36, 3) := by decide +kernel
theorem own_d4_42 : decode prog_29_method_4_code 42 = .ok (.aload_n 3, 1) := by decide +kernel
theorem own_d4_43 : decode prog_29_method_4_code 43 = .ok (.ifnonnull 7, 3) := by decide +kernel
theorem own_d4_46 : decode prog_29_method_4_code 46 = .ok (.aconst_null, 1) := by decide +kernel
theorem own_d4_47 : decode prog_29_method_4_code 47 = .ok (.goto 7, 3) := by decide +kernel
theorem own_d4_54 : decode prog_29_method_4_code 54 = .ok (.areturn, 1) := by decide +kernel
theorem own_d4_9 : decode prog_29_method_4_code 9 = .ok (.aload_n 3, 1) := by decide +kernel
theorem own_d4_10 : decode prog_29_method_4_code 10 = .ok (.getfield 17, 3) := by decide +kernel
theorem own_d4_13 : decode prog_29_method_4_code 13 = .ok (.lload_n 1, 1) := by decide +kernel
theorem own_d4_14 : decode prog_29_method_4_code 14 = .ok (.lcmp, 1) := by decide +kernel
theorem own_d4_15 : decode prog_29_method_4_code 15 = .ok (.ifCond .eq 27, 3) := by decide +kernel
theorem own_d4_50 : decode prog_29_method_4_code 50 = .ok (.aload_n 3, 1) := by decide +kernel
theorem own_d4_51 : decode prog_29_method_4_code 51 = .ok (.getfield 29, 3) := by decide +kernel
theorem own_d4_18 : decode prog_29_method_4_code 18 = .ok (.lload_n 1, 1) := by decide +kernel
theorem own_d4_19 : decode prog_29_method_4_code 19 = .ok (.aload_n 3, 1) := by decide +kernel
theorem own_d4_20 : decode prog_29_method_4_code 20 = .ok (.getfield 17, 3) := by decide +kernel
theorem own_d4_23 : decode prog_29_method_4_code 23 = .ok (.lcmp, 1) := by decide +kernel
theorem own_d4_24 : decode prog_29_method_4_code 24 = .ok (.ifCond .ge 10, 3) := by decide +kernel
theorem own_d4_27 : decode prog_29_method_4_code 27 = .ok (.aload_n 3, 1) := by decide +kernel
theorem own_d4_28 : decode prog_29_method_4_code 28 = .ok (.getfield 23, 3) := by decide +kernel
theorem own_d4_31 : decode prog_29_method_4_code 31 = .ok (.goto 7, 3) := by decide +kernel
theorem own_d4_38 : decode prog_29_method_4_code 38 = .ok (.astore_n 3, 1) := by decide +kernel
theorem own_d4_39 : decode prog_29_method_4_code 39 = .ok (.goto (-34), 3) := by decide +kernel
theorem own_d4_34 : decode prog_29_method_4_code 34 = .ok (.aload_n 3, 1) := by decide +kernel
theorem own_d4_35 : decode prog_29_method_4_code 35 = .ok (.getfield 26, 3) := by decide +kernel
set_option maxRecDepth 65536 in
set_option maxHeartbeats 40000000 in
theorem own_rm4 (l : Launch) (Z : State) (a0 : Array Value) (hw : ∀ d ∈ tables_1, d.before a0 Z = true) (ws : List Jvm.Cond) (tr : Nat) (key : Int64) (v : Value) (xs : oKV) (n : Nat) (h0 : Heap) (n0 : Nat) (Z0 : n0 ≤ h0.size) (F_root : Fld Z h0 tr oT "root" oNd v) (G : own_G Z h0 n v xs) :
    Con l Z (⟨oT, "get", "(J)Lcom/example/rotunda/rotunda/BookSide$Level;"⟩ : MethodName) prog_29_method_4_code 4 (some (.object oL)) ws ({ frames := 0, cells := 0, slots := 0, locals := 0 } : Room) #[(.ref tr), (.long key)] h0 (fun o h L => o = some (own_look key xs) ∧ Fr n0 L ∧ h = h0) := by
  refine Con.intro (plainFor_of_name own_pn_0) ?_
  intro p e s m below meth c s₁ P hx hby hml hown hnm hret hlk hZ X0 e0 hP
  have N0 := Fr.nil n0
  have hown : s.vm.findClass oT = some m.cls := hown
  refine Go.cast (own_ef4 m tr key) ?_
  show Go p.tables e below P (s₁.setTop (mkF m 0 #[oR tr, oJ key, oS, oU] []))
  refine Go.s (fun kz => XS.aloadN X0.here hx rfl (hb hby own_d4_0) rfl rfl kz) ?_
  show Go p.tables e below P (s₁.setTop (mkF m 1 #[oR tr, oJ key, oS, oU] [(.ref tr)]))
  obtain ⟨T1, X1, e1, st1⟩ := getF X0 hx hZ hown (host := "") (Or.inl (own_g hw 26 rfl)) Via.refl e0 F_root (g := (mkF m 1 #[oR tr, oJ key, oS, oU] [(.ref tr)])) rfl rfl (hb hby own_d4_1)
  refine Go.s (fun {t} => st1 t) ?_
  show Go p.tables e below P (T1.setTop (mkF m 4 #[oR tr, oJ key, oS, oU] [v]))
  refine Go.s (fun kz => XS.astoreN X1.here hx rfl (hb hby own_d4_4) rfl (own_G.isRef G) (l' := #[oR tr, oJ key, oS, oV v]) (own_store rfl (Or.inl rfl) (own_G.isRef G)) kz) ?_
  show Go p.tables e below P (T1.setTop (mkF m 5 #[oR tr, oJ key, oS, oV v] []))
  have LOOP : ∀ (n : Nat) (u : Value) (us : oKV) (T : State), Stand p l e ({ frames := 0, cells := 0, slots := 0, locals := 0 } : Room) s m #[(.ref tr), (.long key)] below meth c T [] 0 0 → T.heap = h0 → own_G Z h0 n u us → own_look key us = own_look key xs → Go p.tables e below P (T.setTop (mkF m 5 #[oR tr, oJ key, oS, oV u] [])) := by
    intro n
    induction n with
    | zero =>
      intro u us T X eT g hR
      obtain ⟨rfl, rfl⟩ := g
      · skip
        show Go p.tables e below P (T.setTop (mkF m 5 #[oR tr, oJ key, oS, oV .null] []))
        refine Go.s (fun kz => XS.aloadN X.here hx rfl (hb hby own_d4_5) rfl rfl kz) ?_
        show Go p.tables e below P (T.setTop (mkF m 6 #[oR tr, oJ key, oS, oV .null] [.null]))
        refine Go.s (fun kz => XS.ifnullYes X.here hx rfl (pc0 := 6) (pc' := 42) rfl (hb hby own_d4_6) rfl (by decide) (by decide) kz) ?_
        show Go p.tables e below P (T.setTop (mkF m 42 #[oR tr, oJ key, oS, oV .null] []))
        refine Go.s (fun kz => XS.aloadN X.here hx rfl (hb hby own_d4_42) rfl rfl kz) ?_
        show Go p.tables e below P (T.setTop (mkF m 43 #[oR tr, oJ key, oS, oV .null] [.null]))
        refine Go.s (fun kz => XT.ifnonnullNo X.here hx rfl (hb hby own_d4_43) rfl kz) ?_
        show Go p.tables e below P (T.setTop (mkF m 46 #[oR tr, oJ key, oS, oV .null] []))
        refine Go.s (fun kz => XS.aconstNull X.here hx rfl (hb hby own_d4_46) kz) ?_
        show Go p.tables e below P (T.setTop (mkF m 47 #[oR tr, oJ key, oS, oV .null] [.null]))
        refine Go.s (fun kz => XS.goto X.here hx rfl (pc0 := 47) (pc' := 54) rfl (hb hby own_d4_47) (by decide) (by decide) kz) ?_
        show Go p.tables e below P (T.setTop (mkF m 54 #[oR tr, oJ key, oS, oV .null] [.null]))
        exact Go.retR X hx hlk hret rfl rfl (hb hby own_d4_54) (fun U hU hF => hP U _ _ (by rw [hU, eT]; exact ⟨congrArg some (by rw [← hR]; rfl), N0, rfl⟩) ⟨hF.1, hF.2.1, hF.2.2.mono (by decide) (by decide)⟩)
    | succ n ih =>
      intro u us T X eT g hR
      rcases g with ⟨rfl, rfl⟩ | ⟨y0, ky, ly, gL, gR, xl, xr, rfl, F1, F2, F3, F4, gl, gr, rfl, hl, hr⟩
      · skip
        show Go p.tables e below P (T.setTop (mkF m 5 #[oR tr, oJ key, oS, oV .null] []))
        refine Go.s (fun kz => XS.aloadN X.here hx rfl (hb hby own_d4_5) rfl rfl kz) ?_
        show Go p.tables e below P (T.setTop (mkF m 6 #[oR tr, oJ key, oS, oV .null] [.null]))
        refine Go.s (fun kz => XS.ifnullYes X.here hx rfl (pc0 := 6) (pc' := 42) rfl (hb hby own_d4_6) rfl (by decide) (by decide) kz) ?_
        show Go p.tables e below P (T.setTop (mkF m 42 #[oR tr, oJ key, oS, oV .null] []))
        refine Go.s (fun kz => XS.aloadN X.here hx rfl (hb hby own_d4_42) rfl rfl kz) ?_
        show Go p.tables e below P (T.setTop (mkF m 43 #[oR tr, oJ key, oS, oV .null] [.null]))
        refine Go.s (fun kz => XT.ifnonnullNo X.here hx rfl (hb hby own_d4_43) rfl kz) ?_
        show Go p.tables e below P (T.setTop (mkF m 46 #[oR tr, oJ key, oS, oV .null] []))
        refine Go.s (fun kz => XS.aconstNull X.here hx rfl (hb hby own_d4_46) kz) ?_
        show Go p.tables e below P (T.setTop (mkF m 47 #[oR tr, oJ key, oS, oV .null] [.null]))
        refine Go.s (fun kz => XS.goto X.here hx rfl (pc0 := 47) (pc' := 54) rfl (hb hby own_d4_47) (by decide) (by decide) kz) ?_
        show Go p.tables e below P (T.setTop (mkF m 54 #[oR tr, oJ key, oS, oV .null] [.null]))
        exact Go.retR X hx hlk hret rfl rfl (hb hby own_d4_54) (fun U hU hF => hP U _ _ (by rw [hU, eT]; exact ⟨congrArg some (by rw [← hR]; rfl), N0, rfl⟩) ⟨hF.1, hF.2.1, hF.2.2.mono (by decide) (by decide)⟩)
      · skip
        show Go p.tables e below P (T.setTop (mkF m 5 #[oR tr, oJ key, oS, oR y0] []))
        refine Go.s (fun kz => XS.aloadN X.here hx rfl (hb hby own_d4_5) rfl rfl kz) ?_
        show Go p.tables e below P (T.setTop (mkF m 6 #[oR tr, oJ key, oS, oR y0] [(.ref y0)]))
        refine Go.s (fun kz => XS.ifnullNo X.here hx rfl (hb hby own_d4_6) rfl kz) ?_
        show Go p.tables e below P (T.setTop (mkF m 9 #[oR tr, oJ key, oS, oR y0] []))
        refine Go.s (fun kz => XS.aloadN X.here hx rfl (hb hby own_d4_9) rfl rfl kz) ?_
        show Go p.tables e below P (T.setTop (mkF m 10 #[oR tr, oJ key, oS, oR y0] [(.ref y0)]))
        obtain ⟨T2, X2, e2, st2⟩ := getF X hx hZ hown (host := "") (Or.inl (own_g hw 55 rfl)) Via.refl eT F1 (g := (mkF m 10 #[oR tr, oJ key, oS, oR y0] [(.ref y0)])) rfl rfl (hb hby own_d4_10)
        refine Go.s (fun {t} => st2 t) ?_
        show Go p.tables e below P (T2.setTop (mkF m 13 #[oR tr, oJ key, oS, oR y0] [(.long ky)]))
        refine Go.s (fun kz => XT.lloadN X2.here hx rfl (hb hby own_d4_13) rfl kz) ?_
        show Go p.tables e below P (T2.setTop (mkF m 14 #[oR tr, oJ key, oS, oR y0] [(.long key), (.long ky)]))
        refine Go.s (fun kz => XT.lcmp X2.here hx rfl (hb hby own_d4_14) rfl kz) ?_
        show Go p.tables e below P (T2.setTop (mkF m 15 #[oR tr, oJ key, oS, oR y0] [(.int (XT.cmpL ky key))]))
        by_cases hc15 : ky = key
        · skip
          refine Go.s (fun kz => XS.ifYes X2.here hx rfl (pc0 := 15) (pc' := 42) rfl (hb hby own_d4_15) rfl (XT.ll_eq_t hc15) (by decide) (by decide) kz) ?_
          show Go p.tables e below P (T2.setTop (mkF m 42 #[oR tr, oJ key, oS, oR y0] []))
          refine Go.s (fun kz => XS.aloadN X2.here hx rfl (hb hby own_d4_42) rfl rfl kz) ?_
          show Go p.tables e below P (T2.setTop (mkF m 43 #[oR tr, oJ key, oS, oR y0] [(.ref y0)]))
          refine Go.s (fun kz => XT.ifnonnullYes X2.here hx rfl (pc0 := 43) (pc' := 50) rfl (hb hby own_d4_43) rfl (by decide) (by decide) kz) ?_
          show Go p.tables e below P (T2.setTop (mkF m 50 #[oR tr, oJ key, oS, oR y0] []))
          refine Go.s (fun kz => XS.aloadN X2.here hx rfl (hb hby own_d4_50) rfl rfl kz) ?_
          show Go p.tables e below P (T2.setTop (mkF m 51 #[oR tr, oJ key, oS, oR y0] [(.ref y0)]))
          obtain ⟨T3, X3, e3, st3⟩ := getF X2 hx hZ hown (host := "") (Or.inl (own_g hw 86 rfl)) Via.refl e2 F2 (g := (mkF m 51 #[oR tr, oJ key, oS, oR y0] [(.ref y0)])) rfl rfl (hb hby own_d4_51)
          refine Go.s (fun {t} => st3 t) ?_
          show Go p.tables e below P (T3.setTop (mkF m 54 #[oR tr, oJ key, oS, oR y0] [(.ref ly)]))
          exact Go.retR X3 hx hlk hret rfl rfl (hb hby own_d4_54) (fun U hU hF => hP U _ _ (by rw [hU, e3]; exact ⟨congrArg some (by rw [← hR, own_g_at hl hc15]), N0, rfl⟩) ⟨hF.1, hF.2.1, hF.2.2.mono (by decide) (by decide)⟩)
        · skip
          refine Go.s (fun kz => XS.ifNo X2.here hx rfl (hb hby own_d4_15) rfl (XT.ll_eq_f hc15) kz) ?_
          show Go p.tables e below P (T2.setTop (mkF m 18 #[oR tr, oJ key, oS, oR y0] []))
          refine Go.s (fun kz => XT.lloadN X2.here hx rfl (hb hby own_d4_18) rfl kz) ?_
          show Go p.tables e below P (T2.setTop (mkF m 19 #[oR tr, oJ key, oS, oR y0] [(.long key)]))
          refine Go.s (fun kz => XS.aloadN X2.here hx rfl (hb hby own_d4_19) rfl rfl kz) ?_
          show Go p.tables e below P (T2.setTop (mkF m 20 #[oR tr, oJ key, oS, oR y0] [(.ref y0), (.long key)]))
          obtain ⟨T4, X4, e4, st4⟩ := getF X2 hx hZ hown (host := "") (Or.inl (own_g hw 55 rfl)) Via.refl e2 F1 (g := (mkF m 20 #[oR tr, oJ key, oS, oR y0] [(.ref y0), (.long key)])) rfl rfl (hb hby own_d4_20)
          refine Go.s (fun {t} => st4 t) ?_
          show Go p.tables e below P (T4.setTop (mkF m 23 #[oR tr, oJ key, oS, oR y0] [(.long ky), (.long key)]))
          refine Go.s (fun kz => XT.lcmp X4.here hx rfl (hb hby own_d4_23) rfl kz) ?_
          show Go p.tables e below P (T4.setTop (mkF m 24 #[oR tr, oJ key, oS, oR y0] [(.int (XT.cmpL key ky))]))
          by_cases hc24 : key < ky
          · skip
            refine Go.s (fun kz => XS.ifNo X4.here hx rfl (hb hby own_d4_24) rfl (XT.ll_ge_f hc24) kz) ?_
            show Go p.tables e below P (T4.setTop (mkF m 27 #[oR tr, oJ key, oS, oR y0] []))
            refine Go.s (fun kz => XS.aloadN X4.here hx rfl (hb hby own_d4_27) rfl rfl kz) ?_
            show Go p.tables e below P (T4.setTop (mkF m 28 #[oR tr, oJ key, oS, oR y0] [(.ref y0)]))
            obtain ⟨T5, X5, e5, st5⟩ := getF X4 hx hZ hown (host := "") (Or.inl (own_g hw 56 rfl)) Via.refl e4 F3 (g := (mkF m 28 #[oR tr, oJ key, oS, oR y0] [(.ref y0)])) rfl rfl (hb hby own_d4_28)
            refine Go.s (fun {t} => st5 t) ?_
            show Go p.tables e below P (T5.setTop (mkF m 31 #[oR tr, oJ key, oS, oR y0] [gL]))
            refine Go.s (fun kz => XS.goto X5.here hx rfl (pc0 := 31) (pc' := 38) rfl (hb hby own_d4_31) (by decide) (by decide) kz) ?_
            show Go p.tables e below P (T5.setTop (mkF m 38 #[oR tr, oJ key, oS, oR y0] [gL]))
            refine Go.s (fun kz => XS.astoreN X5.here hx rfl (hb hby own_d4_38) rfl (own_G.isRef gl) (l' := #[oR tr, oJ key, oS, oV gL]) (own_store rfl (Or.inr ⟨_, rfl, rfl⟩) (own_G.isRef gl)) kz) ?_
            show Go p.tables e below P (T5.setTop (mkF m 39 #[oR tr, oJ key, oS, oV gL] []))
            refine Go.s (fun kz => XS.goto X5.here hx rfl (pc0 := 39) (pc' := 5) rfl (hb hby own_d4_39) (by decide) (by decide) kz) ?_
            show Go p.tables e below P (T5.setTop (mkF m 5 #[oR tr, oJ key, oS, oV gL] []))
            exact ih _ _ T5 X5 e5 gl (by rw [← hR, own_g_lt hr hc24])
          · skip
            refine Go.s (fun kz => XS.ifYes X4.here hx rfl (pc0 := 24) (pc' := 34) rfl (hb hby own_d4_24) rfl (XT.ll_ge_t hc24) (by decide) (by decide) kz) ?_
            show Go p.tables e below P (T4.setTop (mkF m 34 #[oR tr, oJ key, oS, oR y0] []))
            refine Go.s (fun kz => XS.aloadN X4.here hx rfl (hb hby own_d4_34) rfl rfl kz) ?_
            show Go p.tables e below P (T4.setTop (mkF m 35 #[oR tr, oJ key, oS, oR y0] [(.ref y0)]))
            obtain ⟨T6, X6, e6, st6⟩ := getF X4 hx hZ hown (host := "") (Or.inl (own_g hw 58 rfl)) Via.refl e4 F4 (g := (mkF m 35 #[oR tr, oJ key, oS, oR y0] [(.ref y0)])) rfl rfl (hb hby own_d4_35)
            refine Go.s (fun {t} => st6 t) ?_
            show Go p.tables e below P (T6.setTop (mkF m 38 #[oR tr, oJ key, oS, oR y0] [gR]))
            refine Go.s (fun kz => XS.astoreN X6.here hx rfl (hb hby own_d4_38) rfl (own_G.isRef gr) (l' := #[oR tr, oJ key, oS, oV gR]) (own_store rfl (Or.inr ⟨_, rfl, rfl⟩) (own_G.isRef gr)) kz) ?_
            show Go p.tables e below P (T6.setTop (mkF m 39 #[oR tr, oJ key, oS, oV gR] []))
            refine Go.s (fun kz => XS.goto X6.here hx rfl (pc0 := 39) (pc' := 5) rfl (hb hby own_d4_39) (by decide) (by decide) kz) ?_
            show Go p.tables e below P (T6.setTop (mkF m 5 #[oR tr, oJ key, oS, oV gR] []))
            exact ih _ _ T6 X6 e6 gr (by rw [← hR, own_g_gt hl hc15 hc24])
  exact LOOP n v xs T1 X1 e1 G rfl
theorem own_full {Z : State} {h : Heap} {n0 hB tr lv : Nat} {xs ms : oKV} {as : List Nat} (I : own_Inv Z h n0 hB tr xs as) (pm : xs.Perm ms) (hm : ∀ y ∈ ms, y.2 ≠ lv) (ht : lv ≠ tr) (hb : lv < hB) : (tr :: lv :: (as ++ xs.map Prod.snd)).Nodup := by
  obtain ⟨v, sz, -, -, -, -, -, nd, ha⟩ := I
  obtain ⟨n1, n2⟩ := List.nodup_cons.mp nd
  refine own_nd ?_ (own_nd ?_ n2)
  · intro q
    rcases List.mem_cons.mp q with q | q
    · exact ht q.symm
    · exact n1 q
  · intro q
    rcases List.mem_append.mp q with q | q
    · exact absurd (ha _ q) (Nat.not_le.mpr hb)
    · obtain ⟨y, hy, e⟩ := List.mem_map.mp q
      exact hm y (pm.mem_iff.mp hy) e
theorem own_notin {Z : State} {h : Heap} {n0 hB tr b : Nat} {xs : oKV} {as : List Nat} (I : own_Inv Z h n0 hB tr xs as) (ht : b ≠ tr) (hb : b < hB) : b ∉ tr :: as := by
  obtain ⟨v, sz, -, -, -, -, -, nd, ha⟩ := I
  intro q
  rcases List.mem_cons.mp q with q | q
  · exact ht q
  · exact absurd (ha _ q) (Nat.not_le.mpr hb)
theorem own_hK {xs ms : oKV} {key : Int64} (pm : xs.Perm ms) (h : ∀ y ∈ ms, y.1 ≠ key) : ∀ y ∈ xs, y.1 ≠ key := fun y hy => h y (pm.mem_iff.mp hy)
theorem own_hl {xs ms : oKV} {n : Nat} (pm : xs.Perm ms) (h : ms.length ≤ n) : xs.length ≤ n := by rw [pm.length_eq]; exact h
def own_if (f : Int32) (y : Int64 × Nat) (ms : oKV) : oKV := if f = 0 then ms else y :: ms
theorem own_if_all {P : Int64 × Nat → Prop} {f : Int32} {y : Int64 × Nat} {ms : oKV} (h : ∀ z ∈ ms, P z) (q : ¬ f = 0 → P y) : ∀ z ∈ own_if f y ms, P z := by
  unfold own_if
  split
  · exact h
  · rename_i n; exact own_aS (q n) h
theorem own_if_len {f : Int32} {y : Int64 × Nat} {ms : oKV} {n : Nat} (h : ms.length ≤ n) : (own_if f y ms).length ≤ n + 1 := by
  unfold own_if
  split
  · omega
  · rw [List.length_cons]; omega
theorem own_if_no {f : Int32} {y : Int64 × Nat} {xs ms : oKV} (q : f = 0) (pm : xs.Perm ms) : xs.Perm (own_if f y ms) := by rw [own_if, if_pos q]; exact pm
theorem own_if_yes {f : Int32} {y : Int64 × Nat} {xs xs' ms : oKV} (q : ¬ f = 0) (pm : xs.Perm ms) (pm' : xs'.Perm (y :: xs)) : xs'.Perm (own_if f y ms) := by rw [own_if, if_neg q]; exact pm'.trans (pm.cons _)
theorem own_if_in {f : Int32} {y : Int64 × Nat} {ms : oKV} (q : ¬ f = 0) : y ∈ own_if f y ms := by rw [own_if, if_neg q]; exact List.mem_cons_self
theorem own_if_up {f : Int32} {y z : Int64 × Nat} {ms : oKV} (q : z ∈ ms) : z ∈ own_if f y ms := by
  unfold own_if
  split
  · exact q
  · exact List.mem_cons_of_mem _ q
theorem own_look_of {key : Int64} {b : Nat} : ∀ {xs : oKV}, (key, b) ∈ xs → (∀ z ∈ xs, z.1 = key → z.2 = b) → own_look key xs = .ref b
  | [], h, _ => nomatch h
  | y :: r, h, u => by
    rw [own_look]
    by_cases q : y.1 = key
    · rw [if_pos q, u y List.mem_cons_self q]
    · rw [if_neg q]
      rcases List.mem_cons.mp h with e | e
      · exact absurd (by rw [← e]) q
      · exact own_look_of e fun z hz => u z (List.mem_cons_of_mem _ hz)
theorem own_look_ref (key : Int64) : ∀ xs : oKV, (own_look key xs).isRef = true
  | [] => rfl
  | y :: r => by
    rw [own_look]
    split
    · rfl
    · exact own_look_ref key r
theorem own_exr {key : Int64} {xs : oKV} {ex : Value} (h : own_look key xs = ex) : ex.isRef = true := h ▸ own_look_ref key xs
theorem own_hit {key k : Int64} {b : Nat} {xs ms : oKV} (pm : xs.Perm ms) (i : (k, b) ∈ ms) (e : key = k) (u : ∀ z ∈ ms, z.1 = k → z.2 = b) : own_look key xs = .ref b := by
  subst e
  exact own_look_of (pm.mem_iff.mpr i) fun z hz => u z (pm.mem_iff.mp hz)
theorem own_miss {key : Int64} {xs ms : oKV} (pm : xs.Perm ms) (u : ∀ z ∈ ms, z.1 ≠ key) : own_look key xs = .null := own_look_no fun z hz => u z (pm.mem_iff.mp hz)
theorem own_ef0 (m : MethodId) (p1 : Int64) (p2 : Int64) (p3 : Int64) (p4 : Int64) (p5 : Int64) (md : Int32) : entryFrame m #[(.long p1), (.long p2), (.long p3), (.long p4), (.long p5), (.int md)] maxLocals = mkF m 0 #[oJ p1, oS, oJ p2, oS, oJ p3, oS, oJ p4, oS, oJ p5, oS, oI md, oU, oU, oU, oU, oU, oU, oU, oU, oU, oU, oU, oU, oU, oU, oU] [] := by
  (first | (simp [entryFrame, mkF, argsToLocals, Value.category, maxLocals]; done) | rfl)
theorem own_pn_3 : plainName oW = true := by first | (simp [plainName, overriddenIn]; done) | decide +kernel
theorem own_pd_7 : parseMethodDescriptor "(J)V" = some ⟨[.long], none⟩ := by decide +kernel
theorem own_pd_8 : parseMethodDescriptor "(J)Lcom/example/rotunda/rotunda/BookSide$Level;" = some ⟨[.long], some (.object oL)⟩ := by decide +kernel
set_option maxRecDepth 65536 in
set_option maxHeartbeats 40000000 in
theorem own_rm0 (l : Launch) (Z : State) (a0 : Array Value) (hw : ∀ d ∈ tables_1, d.before a0 Z = true) (ws : List Jvm.Cond) (p1 : Int64) (p2 : Int64) (p3 : Int64) (p4 : Int64) (p5 : Int64) (md : Int32) (h0 : Heap) (n0 : Nat) (Z0 : n0 ≤ h0.size)  :
    Con l Z x code maxLocals ret ws room_1 #[(.long p1), (.long p2), (.long p3), (.long p4), (.long p5), (.int md)] h0 (fun v h L => v = some (.int 1) ∧ Fr n0 L) := by
  refine Con.intro (plainFor_of_name own_pn_3) ?_
  intro p e s m below meth c s₁ P hx hby hml hown hnm hret hlk hZ X0 e0 hP
  have N0 := Fr.nil n0
  have hml : c.maxLocals = 26 := hml
  have hown : s.vm.findClass oW = some m.cls := hown
  have hret : meth.sig.returnType = some .boolean := hret
  refine Go.cast (own_ef0 m p1 p2 p3 p4 p5 md) ?_
  show Go p.tables e below P (s₁.setTop (mkF m 0 #[oJ p1, oS, oJ p2, oS, oJ p3, oS, oJ p4, oS, oJ p5, oS, oI md, oU, oU, oU, oU, oU, oU, oU, oU, oU, oU, oU, oU, oU, oU, oU] []))
  refine Go.s (fun kz => XS.iload X0.here hx rfl (hb hby at_0) rfl kz) ?_
  refine Go.s (fun kz => XS.bipush X0.here hx rfl (hb hby at_2) kz) ?_
  refine Go.s (fun kz => XS.iand X0.here hx rfl (hb hby at_4) rfl kz) ?_
  refine Go.s (fun kz => XS.istore X0.here hx rfl (hb hby at_5) rfl (l' := #[oJ p1, oS, oJ p2, oS, oJ p3, oS, oJ p4, oS, oJ p5, oS, oI md, oI (md &&& (7 : Int32)), oU, oU, oU, oU, oU, oU, oU, oU, oU, oU, oU, oU, oU, oU]) rfl kz) ?_
  refine Go.s (fun kz => XS.iload X0.here hx rfl (hb hby at_7) rfl kz) ?_
  refine Go.s (fun kz => XS.iconst X0.here hx rfl (hb hby at_9) kz) ?_
  refine Go.s (fun kz => XT.iushr X0.here hx rfl (hb hby at_10) rfl kz) ?_
  refine Go.s (fun kz => XS.iconst X0.here hx rfl (hb hby at_11) kz) ?_
  show Go p.tables e below P (s₁.setTop (mkF m 12 #[oJ p1, oS, oJ p2, oS, oJ p3, oS, oJ p4, oS, oJ p5, oS, oI md, oI (md &&& (7 : Int32)), oU, oU, oU, oU, oU, oU, oU, oU, oU, oU, oU, oU, oU, oU] [(.int (5 : Int32)), (.int (XT.ushr md (3 : Int32)))]))
  refine Go.s (fun kz => iremM X0 hx rfl (hb hby at_12) rfl (by decide) kz) ?_
  refine Go.s (fun kz => XS.istore X0.here hx rfl (hb hby at_13) rfl (l' := #[oJ p1, oS, oJ p2, oS, oJ p3, oS, oJ p4, oS, oJ p5, oS, oI md, oI (md &&& (7 : Int32)), oI ((XT.ushr md (3 : Int32)) % (5 : Int32)), oU, oU, oU, oU, oU, oU, oU, oU, oU, oU, oU, oU, oU]) rfl kz) ?_
  show Go p.tables e below P (s₁.setTop (mkF m 15 #[oJ p1, oS, oJ p2, oS, oJ p3, oS, oJ p4, oS, oJ p5, oS, oI md, oI (md &&& (7 : Int32)), oI ((XT.ushr md (3 : Int32)) % (5 : Int32)), oU, oU, oU, oU, oU, oU, oU, oU, oU, oU, oU, oU, oU] []))
  refine (?_ : ∀ nn : Int32, nn = ((XT.ushr md (3 : Int32)) % (5 : Int32)) → Go p.tables e below P (s₁.setTop (mkF m 15 #[oJ p1, oS, oJ p2, oS, oJ p3, oS, oJ p4, oS, oJ p5, oS, oI md, oI (md &&& (7 : Int32)), oI nn, oU, oU, oU, oU, oU, oU, oU, oU, oU, oU, oU, oU, oU] []))) _ rfl
  intro nn hnn
  refine Go.s (fun kz => XS.iload X0.here hx rfl (hb hby at_15) rfl kz) ?_
  refine Go.s (fun kz => XS.iconst X0.here hx rfl (hb hby at_17) kz) ?_
  show Go p.tables e below P (s₁.setTop (mkF m 18 #[oJ p1, oS, oJ p2, oS, oJ p3, oS, oJ p4, oS, oJ p5, oS, oI md, oI (md &&& (7 : Int32)), oI nn, oU, oU, oU, oU, oU, oU, oU, oU, oU, oU, oU, oU, oU] [(.int (1 : Int32)), (.int nn)]))
  have J26 : ∀ (in1 : Int32) , Go p.tables e below P (s₁.setTop (mkF m 26 #[oJ p1, oS, oJ p2, oS, oJ p3, oS, oJ p4, oS, oJ p5, oS, oI md, oI (md &&& (7 : Int32)), oI nn, oU, oU, oU, oU, oU, oU, oU, oU, oU, oU, oU, oU, oU] [(.int in1)])) := by
    intro in1
    refine Go.s (fun kz => XS.istore X0.here hx rfl (hb hby at_26) rfl (l' := #[oJ p1, oS, oJ p2, oS, oJ p3, oS, oJ p4, oS, oJ p5, oS, oI md, oI (md &&& (7 : Int32)), oI nn, oI in1, oU, oU, oU, oU, oU, oU, oU, oU, oU, oU, oU, oU]) rfl kz) ?_
    refine Go.s (fun kz => XS.iload X0.here hx rfl (hb hby at_28) rfl kz) ?_
    refine Go.s (fun kz => XS.iconst X0.here hx rfl (hb hby at_30) kz) ?_
    show Go p.tables e below P (s₁.setTop (mkF m 31 #[oJ p1, oS, oJ p2, oS, oJ p3, oS, oJ p4, oS, oJ p5, oS, oI md, oI (md &&& (7 : Int32)), oI nn, oI in1, oU, oU, oU, oU, oU, oU, oU, oU, oU, oU, oU, oU] [(.int (2 : Int32)), (.int nn)]))
    have J45 : ∀ (in2 : Int32) (q2 : ¬ in2 = 0 → ¬ p2 = p1), Go p.tables e below P (s₁.setTop (mkF m 45 #[oJ p1, oS, oJ p2, oS, oJ p3, oS, oJ p4, oS, oJ p5, oS, oI md, oI (md &&& (7 : Int32)), oI nn, oI in1, oU, oU, oU, oU, oU, oU, oU, oU, oU, oU, oU, oU] [(.int in2)])) := by
      intro in2 q2
      refine Go.s (fun kz => XS.istore X0.here hx rfl (hb hby at_45) rfl (l' := #[oJ p1, oS, oJ p2, oS, oJ p3, oS, oJ p4, oS, oJ p5, oS, oI md, oI (md &&& (7 : Int32)), oI nn, oI in1, oI in2, oU, oU, oU, oU, oU, oU, oU, oU, oU, oU, oU]) rfl kz) ?_
      refine Go.s (fun kz => XS.iload X0.here hx rfl (hb hby at_47) rfl kz) ?_
      refine Go.s (fun kz => XS.iconst X0.here hx rfl (hb hby at_49) kz) ?_
      show Go p.tables e below P (s₁.setTop (mkF m 50 #[oJ p1, oS, oJ p2, oS, oJ p3, oS, oJ p4, oS, oJ p5, oS, oI md, oI (md &&& (7 : Int32)), oI nn, oI in1, oI in2, oU, oU, oU, oU, oU, oU, oU, oU, oU, oU, oU] [(.int (3 : Int32)), (.int nn)]))
      have J72 : ∀ (in3 : Int32) (q3 : ¬ in3 = 0 → ¬ p3 = p1 ∧ ¬ p3 = p2), Go p.tables e below P (s₁.setTop (mkF m 72 #[oJ p1, oS, oJ p2, oS, oJ p3, oS, oJ p4, oS, oJ p5, oS, oI md, oI (md &&& (7 : Int32)), oI nn, oI in1, oI in2, oU, oU, oU, oU, oU, oU, oU, oU, oU, oU, oU] [(.int in3)])) := by
        intro in3 q3
        refine Go.s (fun kz => XS.istore X0.here hx rfl (hb hby at_72) rfl (l' := #[oJ p1, oS, oJ p2, oS, oJ p3, oS, oJ p4, oS, oJ p5, oS, oI md, oI (md &&& (7 : Int32)), oI nn, oI in1, oI in2, oI in3, oU, oU, oU, oU, oU, oU, oU, oU, oU, oU]) rfl kz) ?_
        refine Go.s (fun kz => XS.iload X0.here hx rfl (hb hby at_74) rfl kz) ?_
        refine Go.s (fun kz => XS.iconst X0.here hx rfl (hb hby at_76) kz) ?_
        show Go p.tables e below P (s₁.setTop (mkF m 77 #[oJ p1, oS, oJ p2, oS, oJ p3, oS, oJ p4, oS, oJ p5, oS, oI md, oI (md &&& (7 : Int32)), oI nn, oI in1, oI in2, oI in3, oU, oU, oU, oU, oU, oU, oU, oU, oU, oU] [(.int (4 : Int32)), (.int nn)]))
        have J107 : ∀ (in4 : Int32) (q4 : ¬ in4 = 0 → ¬ p4 = p1 ∧ ¬ p4 = p2 ∧ ¬ p4 = p3), Go p.tables e below P (s₁.setTop (mkF m 107 #[oJ p1, oS, oJ p2, oS, oJ p3, oS, oJ p4, oS, oJ p5, oS, oI md, oI (md &&& (7 : Int32)), oI nn, oI in1, oI in2, oI in3, oU, oU, oU, oU, oU, oU, oU, oU, oU, oU] [(.int in4)])) := by
          intro in4 q4
          refine Go.s (fun kz => XS.istore X0.here hx rfl (hb hby at_107) rfl (l' := #[oJ p1, oS, oJ p2, oS, oJ p3, oS, oJ p4, oS, oJ p5, oS, oI md, oI (md &&& (7 : Int32)), oI nn, oI in1, oI in2, oI in3, oI in4, oU, oU, oU, oU, oU, oU, oU, oU, oU]) rfl kz) ?_
          show Go p.tables e below P (s₁.setTop (mkF m 109 #[oJ p1, oS, oJ p2, oS, oJ p3, oS, oJ p4, oS, oJ p5, oS, oI md, oI (md &&& (7 : Int32)), oI nn, oI in1, oI in2, oI in3, oI in4, oU, oU, oU, oU, oU, oU, oU, oU, oU] []))
          obtain ⟨T1, H1, X1, e1, E1, A1, D1, U1, st1⟩ := newO X0 hx hZ hown (own_g hw 0 rfl) (own_g hw 1 rfl) (own_g hw 2 rfl) e0 (g := (mkF m 109 #[oJ p1, oS, oJ p2, oS, oJ p3, oS, oJ p4, oS, oJ p5, oS, oI md, oI (md &&& (7 : Int32)), oI nn, oI in1, oI in2, oI in3, oI in4, oU, oU, oU, oU, oU, oU, oU, oU, oU] [])) rfl (hb hby at_109) (by decide) (by decide)
          refine Go.s (fun {t} => st1 t) ?_
          obtain ⟨b1, g1⟩ : ∃ z, z = h0.size := ⟨_, rfl⟩
          rw [← g1] at A1 D1 U1
          rw [← g1]
          have G_b1 : n0 ≤ b1 := Nat.le_trans Z0 (Nat.le_of_eq g1.symm)
          have Zs1 := Nat.le_trans Z0 E1.1
          have Kn1 := Kn.of_new U1
          have F1_price : Fld Z H1 b1 oL "price" "J" (.long (0 : Int64)) := D1 (Or.inl (own_g hw 10 rfl)) (ty := .long) (by decide)
          have F1_quantity : Fld Z H1 b1 oL "quantity" "J" (.long (0 : Int64)) := D1 (Or.inl (own_g hw 50 rfl)) (ty := .long) (by decide)
          refine Go.s (fun kz => XS.dup X1.here hx rfl (hb hby at_112) rfl rfl kz) ?_
          refine Go.s (fun kz => XT.lconst X1.here hx rfl (hb hby at_113) kz) ?_
          show Go p.tables e below P (T1.setTop (mkF m 114 #[oJ p1, oS, oJ p2, oS, oJ p3, oS, oJ p4, oS, oJ p5, oS, oI md, oI (md &&& (7 : Int32)), oI nn, oI in1, oI in2, oI in3, oI in4, oU, oU, oU, oU, oU, oU, oU, oU, oU] [(.long (1 : Int64)), (.ref b1), (.ref b1)]))
          obtain ⟨v2, T2, L2, X2, Q2, st2⟩ := Con.special (own_rmlc l Z a0 hw [] b1 (1 : Int64) H1 n0 Zs1 A1 G_b1 F1_price F1_quantity) rfl X1 hx hZ (W := 1) hown (own_g hw 3 rfl) (own_g hw 4 rfl) (own_g hw 2 rfl) (own_g hw 5 rfl) (by decide) (by decide) (by decide) (by decide) (by decide) e1 (g := (mkF m 114 #[oJ p1, oS, oJ p2, oS, oJ p3, oS, oJ p4, oS, oJ p5, oS, oI md, oI (md &&& (7 : Int32)), oI nn, oI in1, oI in2, oI in3, oI in4, oU, oU, oU, oU, oU, oU, oU, oU, oU] [(.long (1 : Int64)), (.ref b1), (.ref b1)])) rfl (by rw [hml]; rfl) (argsL := [(.long (1 : Int64))]) (rest := [(.ref b1)]) rfl (lenOf own_pd_7 rfl) rfl (by show 2 * 0 + _ ≤ _; exact Nat.le_of_eq rfl) (hb hby at_114)
          obtain ⟨H2, e2⟩ : ∃ z, T2.heap = z := ⟨_, rfl⟩
          rw [e2] at Q2
          obtain ⟨rfl, Nq2, Kq2, Fp2_0, Fp2_1⟩ := Q2
          have N2 := Fr.app N0 Nq2
          have Zs2 := Nat.le_trans Zs1 Kq2.1
          have f3 := Exa.keep A1 Kq2
          clear A1 Kn1 F1_price F1_quantity E1
          refine Go.s (fun {t} => st2) ?_
          refine Go.s (fun kz => XS.astore X2.here hx rfl (hb hby at_117) rfl rfl (l' := #[oJ p1, oS, oJ p2, oS, oJ p3, oS, oJ p4, oS, oJ p5, oS, oI md, oI (md &&& (7 : Int32)), oI nn, oI in1, oI in2, oI in3, oI in4, oR b1, oU, oU, oU, oU, oU, oU, oU, oU]) rfl kz) ?_
          show Go p.tables e below P (T2.setTop (mkF m 119 #[oJ p1, oS, oJ p2, oS, oJ p3, oS, oJ p4, oS, oJ p5, oS, oI md, oI (md &&& (7 : Int32)), oI nn, oI in1, oI in2, oI in3, oI in4, oR b1, oU, oU, oU, oU, oU, oU, oU, oU] []))
          obtain ⟨T5, H5, X5, e5, E5, A5, D5, U5, st5⟩ := newO X2 hx hZ hown (own_g hw 0 rfl) (own_g hw 1 rfl) (own_g hw 2 rfl) e2 (g := (mkF m 119 #[oJ p1, oS, oJ p2, oS, oJ p3, oS, oJ p4, oS, oJ p5, oS, oI md, oI (md &&& (7 : Int32)), oI nn, oI in1, oI in2, oI in3, oI in4, oR b1, oU, oU, oU, oU, oU, oU, oU, oU] [])) rfl (hb hby at_119) (by decide) (by decide)
          refine Go.s (fun {t} => st5 t) ?_
          obtain ⟨b5, g5⟩ : ∃ z, z = H2.size := ⟨_, rfl⟩
          rw [← g5] at A5 D5 U5
          rw [← g5]
          have nb1b5 : b1 ≠ b5 := Nat.ne_of_lt (Nat.lt_of_lt_of_le f3.lt (Nat.le_of_eq g5.symm))
          have f6 := Exa.ext E5 f3
          have f7 := Fld.ext E5 Fp2_1
          clear f3 Fp2_0 Fp2_1 Kq2
          have G_b5 : n0 ≤ b5 := Nat.le_trans Zs2 (Nat.le_of_eq g5.symm)
          have Zs5 := Nat.le_trans Zs2 E5.1
          have Kn5 := Kn.of_new U5
          have F5_price : Fld Z H5 b5 oL "price" "J" (.long (0 : Int64)) := D5 (Or.inl (own_g hw 10 rfl)) (ty := .long) (by decide)
          have F5_quantity : Fld Z H5 b5 oL "quantity" "J" (.long (0 : Int64)) := D5 (Or.inl (own_g hw 50 rfl)) (ty := .long) (by decide)
          refine Go.s (fun kz => XS.dup X5.here hx rfl (hb hby at_122) rfl rfl kz) ?_
          refine Go.s (fun kz => X5.ldc2J hx hown (mvT hZ (own_g hw 11 rfl)) rfl (hb hby at_123) kz) ?_
          show Go p.tables e below P (T5.setTop (mkF m 126 #[oJ p1, oS, oJ p2, oS, oJ p3, oS, oJ p4, oS, oJ p5, oS, oI md, oI (md &&& (7 : Int32)), oI nn, oI in1, oI in2, oI in3, oI in4, oR b1, oU, oU, oU, oU, oU, oU, oU, oU] [(.long (2 : Int64)), (.ref b5), (.ref b5)]))
          obtain ⟨v8, T8, L8, X8, Q8, st8⟩ := Con.special (own_rmlc l Z a0 hw [] b5 (2 : Int64) H5 n0 Zs5 A5 G_b5 F5_price F5_quantity) rfl X5 hx hZ (W := 1) hown (own_g hw 3 rfl) (own_g hw 4 rfl) (own_g hw 2 rfl) (own_g hw 5 rfl) (by decide) (by decide) (by decide) (by decide) (by decide) e5 (g := (mkF m 126 #[oJ p1, oS, oJ p2, oS, oJ p3, oS, oJ p4, oS, oJ p5, oS, oI md, oI (md &&& (7 : Int32)), oI nn, oI in1, oI in2, oI in3, oI in4, oR b1, oU, oU, oU, oU, oU, oU, oU, oU] [(.long (2 : Int64)), (.ref b5), (.ref b5)])) rfl (by rw [hml]; rfl) (argsL := [(.long (2 : Int64))]) (rest := [(.ref b5)]) rfl (lenOf own_pd_7 rfl) rfl (by show 2 * 0 + _ ≤ _; exact Nat.le_of_eq rfl) (hb hby at_126)
          obtain ⟨H8, e8⟩ : ∃ z, T8.heap = z := ⟨_, rfl⟩
          rw [e8] at Q8
          obtain ⟨rfl, Nq8, Kq8, Fp8_0, Fp8_1⟩ := Q8
          have N8 := Fr.app N2 Nq8
          have Zs8 := Nat.le_trans Zs5 Kq8.1
          have f9 := Exa.keep f6 Kq8
          have f10 := Fld.keep f7 Kq8 (ninS nb1b5 nin0)
          have f11 := Exa.keep A5 Kq8
          clear f6 f7 A5 Kn5 F5_price F5_quantity E5
          refine Go.s (fun {t} => st8) ?_
          refine Go.s (fun kz => XS.astore X8.here hx rfl (hb hby at_129) rfl rfl (l' := #[oJ p1, oS, oJ p2, oS, oJ p3, oS, oJ p4, oS, oJ p5, oS, oI md, oI (md &&& (7 : Int32)), oI nn, oI in1, oI in2, oI in3, oI in4, oR b1, oR b5, oU, oU, oU, oU, oU, oU, oU]) rfl kz) ?_
          show Go p.tables e below P (T8.setTop (mkF m 131 #[oJ p1, oS, oJ p2, oS, oJ p3, oS, oJ p4, oS, oJ p5, oS, oI md, oI (md &&& (7 : Int32)), oI nn, oI in1, oI in2, oI in3, oI in4, oR b1, oR b5, oU, oU, oU, oU, oU, oU, oU] []))
          obtain ⟨T13, H13, X13, e13, E13, A13, D13, U13, st13⟩ := newO X8 hx hZ hown (own_g hw 0 rfl) (own_g hw 1 rfl) (own_g hw 2 rfl) e8 (g := (mkF m 131 #[oJ p1, oS, oJ p2, oS, oJ p3, oS, oJ p4, oS, oJ p5, oS, oI md, oI (md &&& (7 : Int32)), oI nn, oI in1, oI in2, oI in3, oI in4, oR b1, oR b5, oU, oU, oU, oU, oU, oU, oU] [])) rfl (hb hby at_131) (by decide) (by decide)
          refine Go.s (fun {t} => st13 t) ?_
          obtain ⟨b13, g13⟩ : ∃ z, z = H8.size := ⟨_, rfl⟩
          rw [← g13] at A13 D13 U13
          rw [← g13]
          have nb1b13 : b1 ≠ b13 := Nat.ne_of_lt (Nat.lt_of_lt_of_le f9.lt (Nat.le_of_eq g13.symm))
          have nb5b13 : b5 ≠ b13 := Nat.ne_of_lt (Nat.lt_of_lt_of_le f11.lt (Nat.le_of_eq g13.symm))
          have f14 := Exa.ext E13 f9
          have f15 := Fld.ext E13 f10
          have f16 := Exa.ext E13 f11
          have f17 := Fld.ext E13 Fp8_1
          clear f9 f10 f11 Fp8_0 Fp8_1 Kq8
          have G_b13 : n0 ≤ b13 := Nat.le_trans Zs8 (Nat.le_of_eq g13.symm)
          have Zs13 := Nat.le_trans Zs8 E13.1
          have Kn13 := Kn.of_new U13
          have F13_price : Fld Z H13 b13 oL "price" "J" (.long (0 : Int64)) := D13 (Or.inl (own_g hw 10 rfl)) (ty := .long) (by decide)
          have F13_quantity : Fld Z H13 b13 oL "quantity" "J" (.long (0 : Int64)) := D13 (Or.inl (own_g hw 50 rfl)) (ty := .long) (by decide)
          refine Go.s (fun kz => XS.dup X13.here hx rfl (hb hby at_134) rfl rfl kz) ?_
          refine Go.s (fun kz => X13.ldc2J hx hown (mvT hZ (own_g hw 12 rfl)) rfl (hb hby at_135) kz) ?_
          show Go p.tables e below P (T13.setTop (mkF m 138 #[oJ p1, oS, oJ p2, oS, oJ p3, oS, oJ p4, oS, oJ p5, oS, oI md, oI (md &&& (7 : Int32)), oI nn, oI in1, oI in2, oI in3, oI in4, oR b1, oR b5, oU, oU, oU, oU, oU, oU, oU] [(.long (3 : Int64)), (.ref b13), (.ref b13)]))
          obtain ⟨v18, T18, L18, X18, Q18, st18⟩ := Con.special (own_rmlc l Z a0 hw [] b13 (3 : Int64) H13 n0 Zs13 A13 G_b13 F13_price F13_quantity) rfl X13 hx hZ (W := 1) hown (own_g hw 3 rfl) (own_g hw 4 rfl) (own_g hw 2 rfl) (own_g hw 5 rfl) (by decide) (by decide) (by decide) (by decide) (by decide) e13 (g := (mkF m 138 #[oJ p1, oS, oJ p2, oS, oJ p3, oS, oJ p4, oS, oJ p5, oS, oI md, oI (md &&& (7 : Int32)), oI nn, oI in1, oI in2, oI in3, oI in4, oR b1, oR b5, oU, oU, oU, oU, oU, oU, oU] [(.long (3 : Int64)), (.ref b13), (.ref b13)])) rfl (by rw [hml]; rfl) (argsL := [(.long (3 : Int64))]) (rest := [(.ref b13)]) rfl (lenOf own_pd_7 rfl) rfl (by show 2 * 0 + _ ≤ _; exact Nat.le_of_eq rfl) (hb hby at_138)
          obtain ⟨H18, e18⟩ : ∃ z, T18.heap = z := ⟨_, rfl⟩
          rw [e18] at Q18
          obtain ⟨rfl, Nq18, Kq18, Fp18_0, Fp18_1⟩ := Q18
          have N18 := Fr.app N8 Nq18
          have Zs18 := Nat.le_trans Zs13 Kq18.1
          have f19 := Exa.keep f14 Kq18
          have f20 := Fld.keep f15 Kq18 (ninS nb1b13 nin0)
          have f21 := Exa.keep f16 Kq18
          have f22 := Fld.keep f17 Kq18 (ninS nb5b13 nin0)
          have f23 := Exa.keep A13 Kq18
          clear f14 f15 f16 f17 A13 Kn13 F13_price F13_quantity E13
          refine Go.s (fun {t} => st18) ?_
          refine Go.s (fun kz => XS.astore X18.here hx rfl (hb hby at_141) rfl rfl (l' := #[oJ p1, oS, oJ p2, oS, oJ p3, oS, oJ p4, oS, oJ p5, oS, oI md, oI (md &&& (7 : Int32)), oI nn, oI in1, oI in2, oI in3, oI in4, oR b1, oR b5, oR b13, oU, oU, oU, oU, oU, oU]) rfl kz) ?_
          show Go p.tables e below P (T18.setTop (mkF m 143 #[oJ p1, oS, oJ p2, oS, oJ p3, oS, oJ p4, oS, oJ p5, oS, oI md, oI (md &&& (7 : Int32)), oI nn, oI in1, oI in2, oI in3, oI in4, oR b1, oR b5, oR b13, oU, oU, oU, oU, oU, oU] []))
          obtain ⟨T25, H25, X25, e25, E25, A25, D25, U25, st25⟩ := newO X18 hx hZ hown (own_g hw 0 rfl) (own_g hw 1 rfl) (own_g hw 2 rfl) e18 (g := (mkF m 143 #[oJ p1, oS, oJ p2, oS, oJ p3, oS, oJ p4, oS, oJ p5, oS, oI md, oI (md &&& (7 : Int32)), oI nn, oI in1, oI in2, oI in3, oI in4, oR b1, oR b5, oR b13, oU, oU, oU, oU, oU, oU] [])) rfl (hb hby at_143) (by decide) (by decide)
          refine Go.s (fun {t} => st25 t) ?_
          obtain ⟨b25, g25⟩ : ∃ z, z = H18.size := ⟨_, rfl⟩
          rw [← g25] at A25 D25 U25
          rw [← g25]
          have nb1b25 : b1 ≠ b25 := Nat.ne_of_lt (Nat.lt_of_lt_of_le f19.lt (Nat.le_of_eq g25.symm))
          have nb5b25 : b5 ≠ b25 := Nat.ne_of_lt (Nat.lt_of_lt_of_le f21.lt (Nat.le_of_eq g25.symm))
          have nb13b25 : b13 ≠ b25 := Nat.ne_of_lt (Nat.lt_of_lt_of_le f23.lt (Nat.le_of_eq g25.symm))
          have f26 := Exa.ext E25 f19
          have f27 := Fld.ext E25 f20
          have f28 := Exa.ext E25 f21
          have f29 := Fld.ext E25 f22
          have f30 := Exa.ext E25 f23
          have f31 := Fld.ext E25 Fp18_1
          clear f19 f20 f21 f22 f23 Fp18_0 Fp18_1 Kq18
          have G_b25 : n0 ≤ b25 := Nat.le_trans Zs18 (Nat.le_of_eq g25.symm)
          have Zs25 := Nat.le_trans Zs18 E25.1
          have Kn25 := Kn.of_new U25
          have F25_price : Fld Z H25 b25 oL "price" "J" (.long (0 : Int64)) := D25 (Or.inl (own_g hw 10 rfl)) (ty := .long) (by decide)
          have F25_quantity : Fld Z H25 b25 oL "quantity" "J" (.long (0 : Int64)) := D25 (Or.inl (own_g hw 50 rfl)) (ty := .long) (by decide)
          refine Go.s (fun kz => XS.dup X25.here hx rfl (hb hby at_146) rfl rfl kz) ?_
          refine Go.s (fun kz => X25.ldc2J hx hown (mvT hZ (own_g hw 13 rfl)) rfl (hb hby at_147) kz) ?_
          show Go p.tables e below P (T25.setTop (mkF m 150 #[oJ p1, oS, oJ p2, oS, oJ p3, oS, oJ p4, oS, oJ p5, oS, oI md, oI (md &&& (7 : Int32)), oI nn, oI in1, oI in2, oI in3, oI in4, oR b1, oR b5, oR b13, oU, oU, oU, oU, oU, oU] [(.long (4 : Int64)), (.ref b25), (.ref b25)]))
          obtain ⟨v32, T32, L32, X32, Q32, st32⟩ := Con.special (own_rmlc l Z a0 hw [] b25 (4 : Int64) H25 n0 Zs25 A25 G_b25 F25_price F25_quantity) rfl X25 hx hZ (W := 1) hown (own_g hw 3 rfl) (own_g hw 4 rfl) (own_g hw 2 rfl) (own_g hw 5 rfl) (by decide) (by decide) (by decide) (by decide) (by decide) e25 (g := (mkF m 150 #[oJ p1, oS, oJ p2, oS, oJ p3, oS, oJ p4, oS, oJ p5, oS, oI md, oI (md &&& (7 : Int32)), oI nn, oI in1, oI in2, oI in3, oI in4, oR b1, oR b5, oR b13, oU, oU, oU, oU, oU, oU] [(.long (4 : Int64)), (.ref b25), (.ref b25)])) rfl (by rw [hml]; rfl) (argsL := [(.long (4 : Int64))]) (rest := [(.ref b25)]) rfl (lenOf own_pd_7 rfl) rfl (by show 2 * 0 + _ ≤ _; exact Nat.le_of_eq rfl) (hb hby at_150)
          obtain ⟨H32, e32⟩ : ∃ z, T32.heap = z := ⟨_, rfl⟩
          rw [e32] at Q32
          obtain ⟨rfl, Nq32, Kq32, Fp32_0, Fp32_1⟩ := Q32
          have N32 := Fr.app N18 Nq32
          have Zs32 := Nat.le_trans Zs25 Kq32.1
          have f33 := Exa.keep f26 Kq32
          have f34 := Fld.keep f27 Kq32 (ninS nb1b25 nin0)
          have f35 := Exa.keep f28 Kq32
          have f36 := Fld.keep f29 Kq32 (ninS nb5b25 nin0)
          have f37 := Exa.keep f30 Kq32
          have f38 := Fld.keep f31 Kq32 (ninS nb13b25 nin0)
          have f39 := Exa.keep A25 Kq32
          clear f26 f27 f28 f29 f30 f31 A25 Kn25 F25_price F25_quantity E25
          refine Go.s (fun {t} => st32) ?_
          refine Go.s (fun kz => XS.astore X32.here hx rfl (hb hby at_153) rfl rfl (l' := #[oJ p1, oS, oJ p2, oS, oJ p3, oS, oJ p4, oS, oJ p5, oS, oI md, oI (md &&& (7 : Int32)), oI nn, oI in1, oI in2, oI in3, oI in4, oR b1, oR b5, oR b13, oR b25, oU, oU, oU, oU, oU]) rfl kz) ?_
          show Go p.tables e below P (T32.setTop (mkF m 155 #[oJ p1, oS, oJ p2, oS, oJ p3, oS, oJ p4, oS, oJ p5, oS, oI md, oI (md &&& (7 : Int32)), oI nn, oI in1, oI in2, oI in3, oI in4, oR b1, oR b5, oR b13, oR b25, oU, oU, oU, oU, oU] []))
          obtain ⟨T41, H41, X41, e41, E41, A41, D41, U41, st41⟩ := newO X32 hx hZ hown (own_g hw 14 rfl) (own_g hw 15 rfl) (own_g hw 16 rfl) e32 (g := (mkF m 155 #[oJ p1, oS, oJ p2, oS, oJ p3, oS, oJ p4, oS, oJ p5, oS, oI md, oI (md &&& (7 : Int32)), oI nn, oI in1, oI in2, oI in3, oI in4, oR b1, oR b5, oR b13, oR b25, oU, oU, oU, oU, oU] [])) rfl (hb hby at_155) (by decide) (by decide)
          refine Go.s (fun {t} => st41 t) ?_
          obtain ⟨b41, g41⟩ : ∃ z, z = H32.size := ⟨_, rfl⟩
          rw [← g41] at A41 D41 U41
          rw [← g41]
          have nb1b41 : b1 ≠ b41 := Nat.ne_of_lt (Nat.lt_of_lt_of_le f33.lt (Nat.le_of_eq g41.symm))
          have nb5b41 : b5 ≠ b41 := Nat.ne_of_lt (Nat.lt_of_lt_of_le f35.lt (Nat.le_of_eq g41.symm))
          have nb13b41 : b13 ≠ b41 := Nat.ne_of_lt (Nat.lt_of_lt_of_le f37.lt (Nat.le_of_eq g41.symm))
          have nb25b41 : b25 ≠ b41 := Nat.ne_of_lt (Nat.lt_of_lt_of_le f39.lt (Nat.le_of_eq g41.symm))
          have f42 := Exa.ext E41 f33
          have f43 := Fld.ext E41 f34
          have f44 := Exa.ext E41 f35
          have f45 := Fld.ext E41 f36
          have f46 := Exa.ext E41 f37
          have f47 := Fld.ext E41 f38
          have f48 := Exa.ext E41 f39
          have f49 := Fld.ext E41 Fp32_1
          clear f33 f34 f35 f36 f37 f38 f39 Fp32_0 Fp32_1 Kq32
          have G_b41 : n0 ≤ b41 := Nat.le_trans Zs32 (Nat.le_of_eq g41.symm)
          have Zs41 := Nat.le_trans Zs32 E41.1
          have Kn41 := Kn.of_new U41
          have F41_root : Fld Z H41 b41 oT "root" oNd .null := D41 (Or.inl (own_g hw 27 rfl)) (ty := (.object oN)) (by decide)
          have F41_size : Fld Z H41 b41 oT "size" "I" (.int (0 : Int32)) := D41 (Or.inl (own_g hw 54 rfl)) (ty := .int) (by decide)
          refine Go.s (fun kz => XS.dup X41.here hx rfl (hb hby at_158) rfl rfl kz) ?_
          show Go p.tables e below P (T41.setTop (mkF m 159 #[oJ p1, oS, oJ p2, oS, oJ p3, oS, oJ p4, oS, oJ p5, oS, oI md, oI (md &&& (7 : Int32)), oI nn, oI in1, oI in2, oI in3, oI in4, oR b1, oR b5, oR b13, oR b25, oU, oU, oU, oU, oU] [(.ref b41), (.ref b41)]))
          obtain ⟨v50, T50, L50, X50, Q50, st50⟩ := Con.special (own_rmtc l Z a0 hw [] b41 H41 n0 Zs41 A41 G_b41 F41_root F41_size) rfl X41 hx hZ (W := 1) hown (own_g hw 17 rfl) (own_g hw 18 rfl) (own_g hw 16 rfl) (own_g hw 19 rfl) (by decide) (by decide) (by decide) (by decide) (by decide) e41 (g := (mkF m 159 #[oJ p1, oS, oJ p2, oS, oJ p3, oS, oJ p4, oS, oJ p5, oS, oI md, oI (md &&& (7 : Int32)), oI nn, oI in1, oI in2, oI in3, oI in4, oR b1, oR b5, oR b13, oR b25, oU, oU, oU, oU, oU] [(.ref b41), (.ref b41)])) rfl (by rw [hml]; rfl) (argsL := []) (rest := [(.ref b41)]) rfl (lenOf own_pd_3 rfl) rfl (by show 2 * 0 + _ ≤ _; exact Nat.le_of_eq rfl) (hb hby at_159)
          obtain ⟨H50, e50⟩ : ∃ z, T50.heap = z := ⟨_, rfl⟩
          rw [e50] at Q50
          obtain ⟨rfl, Nq50, Kq50⟩ := Q50
          have N50 := Fr.app N32 Nq50
          have Zs50 := Nat.le_trans Zs41 Kq50.1
          have f51 := Exa.keep f42 Kq50
          have f52 := Fld.keep f43 Kq50 nin0
          have f53 := Exa.keep f44 Kq50
          have f54 := Fld.keep f45 Kq50 nin0
          have f55 := Exa.keep f46 Kq50
          have f56 := Fld.keep f47 Kq50 nin0
          have f57 := Exa.keep f48 Kq50
          have f58 := Fld.keep f49 Kq50 nin0
          have f59 := Exa.keep A41 Kq50
          have f60 := Fld.keep F41_root Kq50 nin0
          have f61 := Fld.keep F41_size Kq50 nin0
          clear f42 f43 f44 f45 f46 f47 f48 f49 A41 Kn41 F41_root F41_size E41
          refine Go.s (fun {t} => st50) ?_
          refine Go.s (fun kz => XS.astore X50.here hx rfl (hb hby at_162) rfl rfl (l' := #[oJ p1, oS, oJ p2, oS, oJ p3, oS, oJ p4, oS, oJ p5, oS, oI md, oI (md &&& (7 : Int32)), oI nn, oI in1, oI in2, oI in3, oI in4, oR b1, oR b5, oR b13, oR b25, oR b41, oU, oU, oU, oU]) rfl kz) ?_
          show Go p.tables e below P (T50.setTop (mkF m 164 #[oJ p1, oS, oJ p2, oS, oJ p3, oS, oJ p4, oS, oJ p5, oS, oI md, oI (md &&& (7 : Int32)), oI nn, oI in1, oI in2, oI in3, oI in4, oR b1, oR b5, oR b13, oR b25, oR b41, oU, oU, oU, oU] []))
          have IV : own_Inv Z H50 n0 H50.size b41 [] [] := ⟨.null, _, f59, G_b41, f60, f61, Or.inl ⟨rfl, rfl, rfl⟩, own_nd nin0 List.nodup_nil, all0⟩
          have LV1 : own_L Z H50 n0 b1 := ⟨f51, G_b1, _, f52⟩
          have lb1 : b1 < H50.size := f51.lt
          have LV2 : own_L Z H50 n0 b5 := ⟨f53, G_b5, _, f54⟩
          have lb2 : b5 < H50.size := f53.lt
          have LV3 : own_L Z H50 n0 b13 := ⟨f55, G_b13, _, f56⟩
          have lb3 : b13 < H50.size := f55.lt
          have LV4 : own_L Z H50 n0 b25 := ⟨f57, G_b25, _, f58⟩
          have lb4 : b25 < H50.size := f57.lt
          have hB0 : H50.size ≤ H50.size := Nat.le_refl _
          have J218 : ∀ (TJ : State) (LJ : List Loc) (HJ : Heap) (vJ : Value) (xJ : oKV) (XJ : Stand p l e room_1 s m #[(.long p1), (.long p2), (.long p3), (.long p4), (.long p5), (.int md)] below meth c TJ LJ 9 42) (eJ : TJ.heap = HJ) (NJ : Fr n0 LJ) (ZJ : n0 ≤ HJ.size) (EJ : Exa Z HJ b41 oT) (FJ : Fld Z HJ b41 oT "root" oNd vJ) (GJ : own_G Z HJ 3 vJ xJ) (pm : xJ.Perm (own_if in4 (p4, b25) (own_if in3 (p3, b13) (own_if in2 (p2, b5) (own_if in1 (p1, b1) ([] : oKV)))))), Go p.tables e below P (TJ.setTop (mkF m 218 #[oJ p1, oS, oJ p2, oS, oJ p3, oS, oJ p4, oS, oJ p5, oS, oI md, oI (md &&& (7 : Int32)), oI nn, oI in1, oI in2, oI in3, oI in4, oR b1, oR b5, oR b13, oR b25, oR b41, oU, oU, oU, oU] [])) := by
            intro TJ LJ HJ vJ xJ XJ eJ NJ ZJ EJ FJ GJ pm
            refine Go.s (fun kz => XS.iload XJ.here hx rfl (hb hby at_218) rfl kz) ?_
            show Go p.tables e below P (TJ.setTop (mkF m 220 #[oJ p1, oS, oJ p2, oS, oJ p3, oS, oJ p4, oS, oJ p5, oS, oI md, oI (md &&& (7 : Int32)), oI nn, oI in1, oI in2, oI in3, oI in4, oR b1, oR b5, oR b13, oR b25, oR b41, oU, oU, oU, oU] [(.int (md &&& (7 : Int32)))]))
            have J261 : ∀ (pb : Int64) , Go p.tables e below P (TJ.setTop (mkF m 261 #[oJ p1, oS, oJ p2, oS, oJ p3, oS, oJ p4, oS, oJ p5, oS, oI md, oI (md &&& (7 : Int32)), oI nn, oI in1, oI in2, oI in3, oI in4, oR b1, oR b5, oR b13, oR b25, oR b41, oU, oU, oU, oU] [(.long pb)])) := by
              intro pb
              refine Go.s (fun kz => XT.lstore XJ.here hx rfl (hb hby at_261) rfl (l' := #[oJ p1, oS, oJ p2, oS, oJ p3, oS, oJ p4, oS, oJ p5, oS, oI md, oI (md &&& (7 : Int32)), oI nn, oI in1, oI in2, oI in3, oI in4, oR b1, oR b5, oR b13, oR b25, oR b41, oJ pb, oS, oU, oU]) rfl kz) ?_
              refine Go.s (fun kz => XS.aconstNull XJ.here hx rfl (hb hby at_263) kz) ?_
              refine Go.s (fun kz => XS.astore XJ.here hx rfl (hb hby at_264) rfl rfl (l' := #[oJ p1, oS, oJ p2, oS, oJ p3, oS, oJ p4, oS, oJ p5, oS, oI md, oI (md &&& (7 : Int32)), oI nn, oI in1, oI in2, oI in3, oI in4, oR b1, oR b5, oR b13, oR b25, oR b41, oJ pb, oS, oV .null, oU]) rfl kz) ?_
              refine Go.s (fun kz => XS.iload XJ.here hx rfl (hb hby at_266) rfl kz) ?_
              show Go p.tables e below P (TJ.setTop (mkF m 268 #[oJ p1, oS, oJ p2, oS, oJ p3, oS, oJ p4, oS, oJ p5, oS, oI md, oI (md &&& (7 : Int32)), oI nn, oI in1, oI in2, oI in3, oI in4, oR b1, oR b5, oR b13, oR b25, oR b41, oJ pb, oS, oV .null, oU] [(.int in1)]))
              have J341 : ∀ (ex : Value) (hex : own_look pb xJ = ex), Go p.tables e below P (TJ.setTop (mkF m 341 #[oJ p1, oS, oJ p2, oS, oJ p3, oS, oJ p4, oS, oJ p5, oS, oI md, oI (md &&& (7 : Int32)), oI nn, oI in1, oI in2, oI in3, oI in4, oR b1, oR b5, oR b13, oR b25, oR b41, oJ pb, oS, oV ex, oU] [])) := by
                intro ex hex
                refine Go.s (fun kz => XS.aload XJ.here hx rfl (hb hby at_341) rfl rfl kz) ?_
                refine Go.s (fun kz => XT.lload XJ.here hx rfl (hb hby at_343) rfl kz) ?_
                show Go p.tables e below P (TJ.setTop (mkF m 345 #[oJ p1, oS, oJ p2, oS, oJ p3, oS, oJ p4, oS, oJ p5, oS, oI md, oI (md &&& (7 : Int32)), oI nn, oI in1, oI in2, oI in3, oI in4, oR b1, oR b5, oR b13, oR b25, oR b41, oJ pb, oS, oV ex, oU] [(.long pb), (.ref b41)]))
                obtain ⟨v62, T62, L62, X62, Q62, st62⟩ := Con.virtual (own_rm4 l Z a0 hw [] b41 pb vJ xJ 3 HJ n0 ZJ FJ GJ) XJ hx hZ (W := 0) hown (own_g hw 21 rfl) (own_g hw 22 rfl) (own_g hw 24 rfl) (own_g hw 23 rfl) (own_g hw 16 rfl) (own_g hw 25 rfl) (by decide) (by decide) (by decide) (by decide) (by decide) eJ (g := (mkF m 345 #[oJ p1, oS, oJ p2, oS, oJ p3, oS, oJ p4, oS, oJ p5, oS, oI md, oI (md &&& (7 : Int32)), oI nn, oI in1, oI in2, oI in3, oI in4, oR b1, oR b5, oR b13, oR b25, oR b41, oJ pb, oS, oV ex, oU] [(.long pb), (.ref b41)])) rfl (by rw [hml]; rfl) EJ (argsL := [(.long pb)]) (rest := []) rfl (lenOf own_pd_8 rfl) rfl (by show 2 * 0 + _ ≤ _; exact Nat.le_of_eq rfl) (hb hby at_345)
                obtain ⟨rfl, Nq62, e62⟩ := Q62
                have N62 := Fr.app NJ Nq62
                refine Go.s (fun {t} => st62) ?_
                refine Go.s (fun kz => XS.astore X62.here hx rfl (hb hby at_348) rfl (own_look_ref pb xJ) (l' := #[oJ p1, oS, oJ p2, oS, oJ p3, oS, oJ p4, oS, oJ p5, oS, oI md, oI (md &&& (7 : Int32)), oI nn, oI in1, oI in2, oI in3, oI in4, oR b1, oR b5, oR b13, oR b25, oR b41, oJ pb, oS, oV ex, oV (own_look pb xJ)]) (own_store rfl (Or.inl rfl) (own_look_ref pb xJ)) kz) ?_
                refine Go.s (fun kz => XS.aload X62.here hx rfl (hb hby at_350) rfl (own_look_ref pb xJ) kz) ?_
                refine Go.s (fun kz => XS.aload X62.here hx rfl (hb hby at_352) rfl (own_exr hex) kz) ?_
                show Go p.tables e below P (T62.setTop (mkF m 354 #[oJ p1, oS, oJ p2, oS, oJ p3, oS, oJ p4, oS, oJ p5, oS, oI md, oI (md &&& (7 : Int32)), oI nn, oI in1, oI in2, oI in3, oI in4, oR b1, oR b5, oR b13, oR b25, oR b41, oJ pb, oS, oV ex, oV (own_look pb xJ)] [ex, (own_look pb xJ)]))
                refine Go.s (fun kz => XT.acmpNo X62.here hx rfl (hb hby at_354) rfl (own_look_ref pb xJ) (own_exr hex) (XT.aa_ne_f hex) kz) ?_
                show Go p.tables e below P (T62.setTop (mkF m 357 #[oJ p1, oS, oJ p2, oS, oJ p3, oS, oJ p4, oS, oJ p5, oS, oI md, oI (md &&& (7 : Int32)), oI nn, oI in1, oI in2, oI in3, oI in4, oR b1, oR b5, oR b13, oR b25, oR b41, oJ pb, oS, oV ex, oV (own_look pb xJ)] []))
                refine Go.s (fun kz => XS.iconst X62.here hx rfl (hb hby at_357) kz) ?_
                refine Go.s (fun kz => XS.goto X62.here hx rfl (pc0 := 358) (pc' := 362) rfl (hb hby at_358) (by decide) (by decide) kz) ?_
                show Go p.tables e below P (T62.setTop (mkF m 362 #[oJ p1, oS, oJ p2, oS, oJ p3, oS, oJ p4, oS, oJ p5, oS, oI md, oI (md &&& (7 : Int32)), oI nn, oI in1, oI in2, oI in3, oI in4, oR b1, oR b5, oR b13, oR b25, oR b41, oJ pb, oS, oV ex, oV (own_look pb xJ)] [(.int (1 : Int32))]))
                exact Go.retZ X62 hx hlk hret (by decide) (hb hby at_362) (fun U hU hF => hP U _ _ ⟨rfl, N62⟩ ⟨hF.1, hF.2.1, hF.2.2.mono (by decide) (by decide)⟩)
              have J285 : ∀  (n1 : ¬ in1 = 0 → ¬ pb = p1), Go p.tables e below P (TJ.setTop (mkF m 285 #[oJ p1, oS, oJ p2, oS, oJ p3, oS, oJ p4, oS, oJ p5, oS, oI md, oI (md &&& (7 : Int32)), oI nn, oI in1, oI in2, oI in3, oI in4, oR b1, oR b5, oR b13, oR b25, oR b41, oJ pb, oS, oV .null, oU] [])) := by
                intro n1
                refine Go.s (fun kz => XS.iload XJ.here hx rfl (hb hby at_285) rfl kz) ?_
                show Go p.tables e below P (TJ.setTop (mkF m 287 #[oJ p1, oS, oJ p2, oS, oJ p3, oS, oJ p4, oS, oJ p5, oS, oI md, oI (md &&& (7 : Int32)), oI nn, oI in1, oI in2, oI in3, oI in4, oR b1, oR b5, oR b13, oR b25, oR b41, oJ pb, oS, oV .null, oU] [(.int in2)]))
                have J304 : ∀  (n2 : ¬ in2 = 0 → ¬ pb = p2), Go p.tables e below P (TJ.setTop (mkF m 304 #[oJ p1, oS, oJ p2, oS, oJ p3, oS, oJ p4, oS, oJ p5, oS, oI md, oI (md &&& (7 : Int32)), oI nn, oI in1, oI in2, oI in3, oI in4, oR b1, oR b5, oR b13, oR b25, oR b41, oJ pb, oS, oV .null, oU] [])) := by
                  intro n2
                  refine Go.s (fun kz => XS.iload XJ.here hx rfl (hb hby at_304) rfl kz) ?_
                  show Go p.tables e below P (TJ.setTop (mkF m 306 #[oJ p1, oS, oJ p2, oS, oJ p3, oS, oJ p4, oS, oJ p5, oS, oI md, oI (md &&& (7 : Int32)), oI nn, oI in1, oI in2, oI in3, oI in4, oR b1, oR b5, oR b13, oR b25, oR b41, oJ pb, oS, oV .null, oU] [(.int in3)]))
                  have J324 : ∀  (n3 : ¬ in3 = 0 → ¬ pb = p3), Go p.tables e below P (TJ.setTop (mkF m 324 #[oJ p1, oS, oJ p2, oS, oJ p3, oS, oJ p4, oS, oJ p5, oS, oI md, oI (md &&& (7 : Int32)), oI nn, oI in1, oI in2, oI in3, oI in4, oR b1, oR b5, oR b13, oR b25, oR b41, oJ pb, oS, oV .null, oU] [])) := by
                    intro n3
                    refine Go.s (fun kz => XS.iload XJ.here hx rfl (hb hby at_324) rfl kz) ?_
                    show Go p.tables e below P (TJ.setTop (mkF m 326 #[oJ p1, oS, oJ p2, oS, oJ p3, oS, oJ p4, oS, oJ p5, oS, oI md, oI (md &&& (7 : Int32)), oI nn, oI in1, oI in2, oI in3, oI in4, oR b1, oR b5, oR b13, oR b25, oR b41, oJ pb, oS, oV .null, oU] [(.int in4)]))
                    by_cases hc326 : in4 = 0
                    · skip
                      refine Go.s (fun kz => XS.ifYes XJ.here hx rfl (pc0 := 326) (pc' := 341) rfl (hb hby at_326) rfl (XT.i0_eq_t hc326) (by decide) (by decide) kz) ?_
                      show Go p.tables e below P (TJ.setTop (mkF m 341 #[oJ p1, oS, oJ p2, oS, oJ p3, oS, oJ p4, oS, oJ p5, oS, oI md, oI (md &&& (7 : Int32)), oI nn, oI in1, oI in2, oI in3, oI in4, oR b1, oR b5, oR b13, oR b25, oR b41, oJ pb, oS, oV .null, oU] []))
                      exact J341 .null (own_miss pm (show ∀ z ∈ (own_if in4 (p4, b25) (own_if in3 (p3, b13) (own_if in2 (p2, b5) (own_if in1 (p1, b1) ([] : oKV))))), z.1 ≠ pb from (own_if_all (own_if_all (own_if_all (own_if_all own_a0 (fun z e => n1 z e.symm)) (fun z e => n2 z e.symm)) (fun z e => n3 z e.symm)) (fun z => absurd hc326 z))))
                    · skip
                      refine Go.s (fun kz => XS.ifNo XJ.here hx rfl (hb hby at_326) rfl (XT.i0_eq_f hc326) kz) ?_
                      show Go p.tables e below P (TJ.setTop (mkF m 329 #[oJ p1, oS, oJ p2, oS, oJ p3, oS, oJ p4, oS, oJ p5, oS, oI md, oI (md &&& (7 : Int32)), oI nn, oI in1, oI in2, oI in3, oI in4, oR b1, oR b5, oR b13, oR b25, oR b41, oJ pb, oS, oV .null, oU] []))
                      refine Go.s (fun kz => XT.lload XJ.here hx rfl (hb hby at_329) rfl kz) ?_
                      refine Go.s (fun kz => XT.lload XJ.here hx rfl (hb hby at_331) rfl kz) ?_
                      refine Go.s (fun kz => XT.lcmp XJ.here hx rfl (hb hby at_333) rfl kz) ?_
                      show Go p.tables e below P (TJ.setTop (mkF m 334 #[oJ p1, oS, oJ p2, oS, oJ p3, oS, oJ p4, oS, oJ p5, oS, oI md, oI (md &&& (7 : Int32)), oI nn, oI in1, oI in2, oI in3, oI in4, oR b1, oR b5, oR b13, oR b25, oR b41, oJ pb, oS, oV .null, oU] [(.int (XT.cmpL pb p4))]))
                      by_cases hc334 : pb = p4
                      · skip
                        refine Go.s (fun kz => XS.ifNo XJ.here hx rfl (hb hby at_334) rfl (XT.ll_ne_f hc334) kz) ?_
                        show Go p.tables e below P (TJ.setTop (mkF m 337 #[oJ p1, oS, oJ p2, oS, oJ p3, oS, oJ p4, oS, oJ p5, oS, oI md, oI (md &&& (7 : Int32)), oI nn, oI in1, oI in2, oI in3, oI in4, oR b1, oR b5, oR b13, oR b25, oR b41, oJ pb, oS, oV .null, oU] []))
                        refine Go.s (fun kz => XS.aload XJ.here hx rfl (hb hby at_337) rfl rfl kz) ?_
                        refine Go.s (fun kz => XS.astore XJ.here hx rfl (hb hby at_339) rfl rfl (l' := #[oJ p1, oS, oJ p2, oS, oJ p3, oS, oJ p4, oS, oJ p5, oS, oI md, oI (md &&& (7 : Int32)), oI nn, oI in1, oI in2, oI in3, oI in4, oR b1, oR b5, oR b13, oR b25, oR b41, oJ pb, oS, oR b25, oU]) rfl kz) ?_
                        show Go p.tables e below P (TJ.setTop (mkF m 341 #[oJ p1, oS, oJ p2, oS, oJ p3, oS, oJ p4, oS, oJ p5, oS, oI md, oI (md &&& (7 : Int32)), oI nn, oI in1, oI in2, oI in3, oI in4, oR b1, oR b5, oR b13, oR b25, oR b41, oJ pb, oS, oR b25, oU] []))
                        exact J341 (.ref b25) (own_hit pm (show (p4, b25) ∈ (own_if in4 (p4, b25) (own_if in3 (p3, b13) (own_if in2 (p2, b5) (own_if in1 (p1, b1) ([] : oKV))))) from (own_if_in hc326)) hc334 (show ∀ z ∈ (own_if in4 (p4, b25) (own_if in3 (p3, b13) (own_if in2 (p2, b5) (own_if in1 (p1, b1) ([] : oKV))))), z.1 = p4 → z.2 = b25 from (own_if_all (own_if_all (own_if_all (own_if_all own_a0 (fun _ e => absurd e.symm (q4 hc326).1)) (fun _ e => absurd e.symm (q4 hc326).2.1)) (fun _ e => absurd e.symm (q4 hc326).2.2)) (fun _ _ => rfl))))
                      · skip
                        refine Go.s (fun kz => XS.ifYes XJ.here hx rfl (pc0 := 334) (pc' := 341) rfl (hb hby at_334) rfl (XT.ll_ne_t hc334) (by decide) (by decide) kz) ?_
                        show Go p.tables e below P (TJ.setTop (mkF m 341 #[oJ p1, oS, oJ p2, oS, oJ p3, oS, oJ p4, oS, oJ p5, oS, oI md, oI (md &&& (7 : Int32)), oI nn, oI in1, oI in2, oI in3, oI in4, oR b1, oR b5, oR b13, oR b25, oR b41, oJ pb, oS, oV .null, oU] []))
                        exact J341 .null (own_miss pm (show ∀ z ∈ (own_if in4 (p4, b25) (own_if in3 (p3, b13) (own_if in2 (p2, b5) (own_if in1 (p1, b1) ([] : oKV))))), z.1 ≠ pb from (own_if_all (own_if_all (own_if_all (own_if_all own_a0 (fun z e => n1 z e.symm)) (fun z e => n2 z e.symm)) (fun z e => n3 z e.symm)) (fun _ e => hc334 e.symm))))
                  by_cases hc306 : in3 = 0
                  · skip
                    refine Go.s (fun kz => XS.ifYes XJ.here hx rfl (pc0 := 306) (pc' := 324) rfl (hb hby at_306) rfl (XT.i0_eq_t hc306) (by decide) (by decide) kz) ?_
                    show Go p.tables e below P (TJ.setTop (mkF m 324 #[oJ p1, oS, oJ p2, oS, oJ p3, oS, oJ p4, oS, oJ p5, oS, oI md, oI (md &&& (7 : Int32)), oI nn, oI in1, oI in2, oI in3, oI in4, oR b1, oR b5, oR b13, oR b25, oR b41, oJ pb, oS, oV .null, oU] []))
                    exact J324  (fun z => absurd hc306 z)
                  · skip
                    refine Go.s (fun kz => XS.ifNo XJ.here hx rfl (hb hby at_306) rfl (XT.i0_eq_f hc306) kz) ?_
                    show Go p.tables e below P (TJ.setTop (mkF m 309 #[oJ p1, oS, oJ p2, oS, oJ p3, oS, oJ p4, oS, oJ p5, oS, oI md, oI (md &&& (7 : Int32)), oI nn, oI in1, oI in2, oI in3, oI in4, oR b1, oR b5, oR b13, oR b25, oR b41, oJ pb, oS, oV .null, oU] []))
                    refine Go.s (fun kz => XT.lload XJ.here hx rfl (hb hby at_309) rfl kz) ?_
                    refine Go.s (fun kz => XT.lload XJ.here hx rfl (hb hby at_311) rfl kz) ?_
                    refine Go.s (fun kz => XT.lcmp XJ.here hx rfl (hb hby at_313) rfl kz) ?_
                    show Go p.tables e below P (TJ.setTop (mkF m 314 #[oJ p1, oS, oJ p2, oS, oJ p3, oS, oJ p4, oS, oJ p5, oS, oI md, oI (md &&& (7 : Int32)), oI nn, oI in1, oI in2, oI in3, oI in4, oR b1, oR b5, oR b13, oR b25, oR b41, oJ pb, oS, oV .null, oU] [(.int (XT.cmpL pb p3))]))
                    by_cases hc314 : pb = p3
                    · skip
                      refine Go.s (fun kz => XS.ifNo XJ.here hx rfl (hb hby at_314) rfl (XT.ll_ne_f hc314) kz) ?_
                      show Go p.tables e below P (TJ.setTop (mkF m 317 #[oJ p1, oS, oJ p2, oS, oJ p3, oS, oJ p4, oS, oJ p5, oS, oI md, oI (md &&& (7 : Int32)), oI nn, oI in1, oI in2, oI in3, oI in4, oR b1, oR b5, oR b13, oR b25, oR b41, oJ pb, oS, oV .null, oU] []))
                      refine Go.s (fun kz => XS.aload XJ.here hx rfl (hb hby at_317) rfl rfl kz) ?_
                      refine Go.s (fun kz => XS.astore XJ.here hx rfl (hb hby at_319) rfl rfl (l' := #[oJ p1, oS, oJ p2, oS, oJ p3, oS, oJ p4, oS, oJ p5, oS, oI md, oI (md &&& (7 : Int32)), oI nn, oI in1, oI in2, oI in3, oI in4, oR b1, oR b5, oR b13, oR b25, oR b41, oJ pb, oS, oR b13, oU]) rfl kz) ?_
                      refine Go.s (fun kz => XS.goto XJ.here hx rfl (pc0 := 321) (pc' := 341) rfl (hb hby at_321) (by decide) (by decide) kz) ?_
                      show Go p.tables e below P (TJ.setTop (mkF m 341 #[oJ p1, oS, oJ p2, oS, oJ p3, oS, oJ p4, oS, oJ p5, oS, oI md, oI (md &&& (7 : Int32)), oI nn, oI in1, oI in2, oI in3, oI in4, oR b1, oR b5, oR b13, oR b25, oR b41, oJ pb, oS, oR b13, oU] []))
                      exact J341 (.ref b13) (own_hit pm (show (p3, b13) ∈ (own_if in4 (p4, b25) (own_if in3 (p3, b13) (own_if in2 (p2, b5) (own_if in1 (p1, b1) ([] : oKV))))) from (own_if_up (own_if_in hc306))) hc314 (show ∀ z ∈ (own_if in4 (p4, b25) (own_if in3 (p3, b13) (own_if in2 (p2, b5) (own_if in1 (p1, b1) ([] : oKV))))), z.1 = p3 → z.2 = b13 from (own_if_all (own_if_all (own_if_all (own_if_all own_a0 (fun _ e => absurd e.symm (q3 hc306).1)) (fun _ e => absurd e.symm (q3 hc306).2)) (fun _ _ => rfl)) (fun z e => absurd e (q4 z).2.2))))
                    · skip
                      refine Go.s (fun kz => XS.ifYes XJ.here hx rfl (pc0 := 314) (pc' := 324) rfl (hb hby at_314) rfl (XT.ll_ne_t hc314) (by decide) (by decide) kz) ?_
                      show Go p.tables e below P (TJ.setTop (mkF m 324 #[oJ p1, oS, oJ p2, oS, oJ p3, oS, oJ p4, oS, oJ p5, oS, oI md, oI (md &&& (7 : Int32)), oI nn, oI in1, oI in2, oI in3, oI in4, oR b1, oR b5, oR b13, oR b25, oR b41, oJ pb, oS, oV .null, oU] []))
                      exact J324  (fun _ => hc314)
                by_cases hc287 : in2 = 0
                · skip
                  refine Go.s (fun kz => XS.ifYes XJ.here hx rfl (pc0 := 287) (pc' := 304) rfl (hb hby at_287) rfl (XT.i0_eq_t hc287) (by decide) (by decide) kz) ?_
                  show Go p.tables e below P (TJ.setTop (mkF m 304 #[oJ p1, oS, oJ p2, oS, oJ p3, oS, oJ p4, oS, oJ p5, oS, oI md, oI (md &&& (7 : Int32)), oI nn, oI in1, oI in2, oI in3, oI in4, oR b1, oR b5, oR b13, oR b25, oR b41, oJ pb, oS, oV .null, oU] []))
                  exact J304  (fun z => absurd hc287 z)
                · skip
                  refine Go.s (fun kz => XS.ifNo XJ.here hx rfl (hb hby at_287) rfl (XT.i0_eq_f hc287) kz) ?_
                  show Go p.tables e below P (TJ.setTop (mkF m 290 #[oJ p1, oS, oJ p2, oS, oJ p3, oS, oJ p4, oS, oJ p5, oS, oI md, oI (md &&& (7 : Int32)), oI nn, oI in1, oI in2, oI in3, oI in4, oR b1, oR b5, oR b13, oR b25, oR b41, oJ pb, oS, oV .null, oU] []))
                  refine Go.s (fun kz => XT.lload XJ.here hx rfl (hb hby at_290) rfl kz) ?_
                  refine Go.s (fun kz => XT.lloadN XJ.here hx rfl (hb hby at_292) rfl kz) ?_
                  refine Go.s (fun kz => XT.lcmp XJ.here hx rfl (hb hby at_293) rfl kz) ?_
                  show Go p.tables e below P (TJ.setTop (mkF m 294 #[oJ p1, oS, oJ p2, oS, oJ p3, oS, oJ p4, oS, oJ p5, oS, oI md, oI (md &&& (7 : Int32)), oI nn, oI in1, oI in2, oI in3, oI in4, oR b1, oR b5, oR b13, oR b25, oR b41, oJ pb, oS, oV .null, oU] [(.int (XT.cmpL pb p2))]))
                  by_cases hc294 : pb = p2
                  · skip
                    refine Go.s (fun kz => XS.ifNo XJ.here hx rfl (hb hby at_294) rfl (XT.ll_ne_f hc294) kz) ?_
                    show Go p.tables e below P (TJ.setTop (mkF m 297 #[oJ p1, oS, oJ p2, oS, oJ p3, oS, oJ p4, oS, oJ p5, oS, oI md, oI (md &&& (7 : Int32)), oI nn, oI in1, oI in2, oI in3, oI in4, oR b1, oR b5, oR b13, oR b25, oR b41, oJ pb, oS, oV .null, oU] []))
                    refine Go.s (fun kz => XS.aload XJ.here hx rfl (hb hby at_297) rfl rfl kz) ?_
                    refine Go.s (fun kz => XS.astore XJ.here hx rfl (hb hby at_299) rfl rfl (l' := #[oJ p1, oS, oJ p2, oS, oJ p3, oS, oJ p4, oS, oJ p5, oS, oI md, oI (md &&& (7 : Int32)), oI nn, oI in1, oI in2, oI in3, oI in4, oR b1, oR b5, oR b13, oR b25, oR b41, oJ pb, oS, oR b5, oU]) rfl kz) ?_
                    refine Go.s (fun kz => XS.goto XJ.here hx rfl (pc0 := 301) (pc' := 341) rfl (hb hby at_301) (by decide) (by decide) kz) ?_
                    show Go p.tables e below P (TJ.setTop (mkF m 341 #[oJ p1, oS, oJ p2, oS, oJ p3, oS, oJ p4, oS, oJ p5, oS, oI md, oI (md &&& (7 : Int32)), oI nn, oI in1, oI in2, oI in3, oI in4, oR b1, oR b5, oR b13, oR b25, oR b41, oJ pb, oS, oR b5, oU] []))
                    exact J341 (.ref b5) (own_hit pm (show (p2, b5) ∈ (own_if in4 (p4, b25) (own_if in3 (p3, b13) (own_if in2 (p2, b5) (own_if in1 (p1, b1) ([] : oKV))))) from (own_if_up (own_if_up (own_if_in hc287)))) hc294 (show ∀ z ∈ (own_if in4 (p4, b25) (own_if in3 (p3, b13) (own_if in2 (p2, b5) (own_if in1 (p1, b1) ([] : oKV))))), z.1 = p2 → z.2 = b5 from (own_if_all (own_if_all (own_if_all (own_if_all own_a0 (fun _ e => absurd e.symm (q2 hc287))) (fun _ _ => rfl)) (fun z e => absurd e (q3 z).2)) (fun z e => absurd e (q4 z).2.1))))
                  · skip
                    refine Go.s (fun kz => XS.ifYes XJ.here hx rfl (pc0 := 294) (pc' := 304) rfl (hb hby at_294) rfl (XT.ll_ne_t hc294) (by decide) (by decide) kz) ?_
                    show Go p.tables e below P (TJ.setTop (mkF m 304 #[oJ p1, oS, oJ p2, oS, oJ p3, oS, oJ p4, oS, oJ p5, oS, oI md, oI (md &&& (7 : Int32)), oI nn, oI in1, oI in2, oI in3, oI in4, oR b1, oR b5, oR b13, oR b25, oR b41, oJ pb, oS, oV .null, oU] []))
                    exact J304  (fun _ => hc294)
              by_cases hc268 : in1 = 0
              · skip
                refine Go.s (fun kz => XS.ifYes XJ.here hx rfl (pc0 := 268) (pc' := 285) rfl (hb hby at_268) rfl (XT.i0_eq_t hc268) (by decide) (by decide) kz) ?_
                show Go p.tables e below P (TJ.setTop (mkF m 285 #[oJ p1, oS, oJ p2, oS, oJ p3, oS, oJ p4, oS, oJ p5, oS, oI md, oI (md &&& (7 : Int32)), oI nn, oI in1, oI in2, oI in3, oI in4, oR b1, oR b5, oR b13, oR b25, oR b41, oJ pb, oS, oV .null, oU] []))
                exact J285  (fun z => absurd hc268 z)
              · skip
                refine Go.s (fun kz => XS.ifNo XJ.here hx rfl (hb hby at_268) rfl (XT.i0_eq_f hc268) kz) ?_
                show Go p.tables e below P (TJ.setTop (mkF m 271 #[oJ p1, oS, oJ p2, oS, oJ p3, oS, oJ p4, oS, oJ p5, oS, oI md, oI (md &&& (7 : Int32)), oI nn, oI in1, oI in2, oI in3, oI in4, oR b1, oR b5, oR b13, oR b25, oR b41, oJ pb, oS, oV .null, oU] []))
                refine Go.s (fun kz => XT.lload XJ.here hx rfl (hb hby at_271) rfl kz) ?_
                refine Go.s (fun kz => XT.lloadN XJ.here hx rfl (hb hby at_273) rfl kz) ?_
                refine Go.s (fun kz => XT.lcmp XJ.here hx rfl (hb hby at_274) rfl kz) ?_
                show Go p.tables e below P (TJ.setTop (mkF m 275 #[oJ p1, oS, oJ p2, oS, oJ p3, oS, oJ p4, oS, oJ p5, oS, oI md, oI (md &&& (7 : Int32)), oI nn, oI in1, oI in2, oI in3, oI in4, oR b1, oR b5, oR b13, oR b25, oR b41, oJ pb, oS, oV .null, oU] [(.int (XT.cmpL pb p1))]))
                by_cases hc275 : pb = p1
                · skip
                  refine Go.s (fun kz => XS.ifNo XJ.here hx rfl (hb hby at_275) rfl (XT.ll_ne_f hc275) kz) ?_
                  show Go p.tables e below P (TJ.setTop (mkF m 278 #[oJ p1, oS, oJ p2, oS, oJ p3, oS, oJ p4, oS, oJ p5, oS, oI md, oI (md &&& (7 : Int32)), oI nn, oI in1, oI in2, oI in3, oI in4, oR b1, oR b5, oR b13, oR b25, oR b41, oJ pb, oS, oV .null, oU] []))
                  refine Go.s (fun kz => XS.aload XJ.here hx rfl (hb hby at_278) rfl rfl kz) ?_
                  refine Go.s (fun kz => XS.astore XJ.here hx rfl (hb hby at_280) rfl rfl (l' := #[oJ p1, oS, oJ p2, oS, oJ p3, oS, oJ p4, oS, oJ p5, oS, oI md, oI (md &&& (7 : Int32)), oI nn, oI in1, oI in2, oI in3, oI in4, oR b1, oR b5, oR b13, oR b25, oR b41, oJ pb, oS, oR b1, oU]) rfl kz) ?_
                  refine Go.s (fun kz => XS.goto XJ.here hx rfl (pc0 := 282) (pc' := 341) rfl (hb hby at_282) (by decide) (by decide) kz) ?_
                  show Go p.tables e below P (TJ.setTop (mkF m 341 #[oJ p1, oS, oJ p2, oS, oJ p3, oS, oJ p4, oS, oJ p5, oS, oI md, oI (md &&& (7 : Int32)), oI nn, oI in1, oI in2, oI in3, oI in4, oR b1, oR b5, oR b13, oR b25, oR b41, oJ pb, oS, oR b1, oU] []))
                  exact J341 (.ref b1) (own_hit pm (show (p1, b1) ∈ (own_if in4 (p4, b25) (own_if in3 (p3, b13) (own_if in2 (p2, b5) (own_if in1 (p1, b1) ([] : oKV))))) from (own_if_up (own_if_up (own_if_up (own_if_in hc268))))) hc275 (show ∀ z ∈ (own_if in4 (p4, b25) (own_if in3 (p3, b13) (own_if in2 (p2, b5) (own_if in1 (p1, b1) ([] : oKV))))), z.1 = p1 → z.2 = b1 from (own_if_all (own_if_all (own_if_all (own_if_all own_a0 (fun _ _ => rfl)) (fun z e => absurd e (q2 z))) (fun z e => absurd e (q3 z).1)) (fun z e => absurd e (q4 z).1))))
                · skip
                  refine Go.s (fun kz => XS.ifYes XJ.here hx rfl (pc0 := 275) (pc' := 285) rfl (hb hby at_275) rfl (XT.ll_ne_t hc275) (by decide) (by decide) kz) ?_
                  show Go p.tables e below P (TJ.setTop (mkF m 285 #[oJ p1, oS, oJ p2, oS, oJ p3, oS, oJ p4, oS, oJ p5, oS, oI md, oI (md &&& (7 : Int32)), oI nn, oI in1, oI in2, oI in3, oI in4, oR b1, oR b5, oR b13, oR b25, oR b41, oJ pb, oS, oV .null, oU] []))
                  exact J285  (fun _ => hc275)
            by_cases hc220 : (md &&& (7 : Int32)) = 0
            · skip
              refine Go.s (fun kz => XS.ifNo XJ.here hx rfl (hb hby at_220) rfl (XT.i0_ne_f hc220) kz) ?_
              show Go p.tables e below P (TJ.setTop (mkF m 223 #[oJ p1, oS, oJ p2, oS, oJ p3, oS, oJ p4, oS, oJ p5, oS, oI md, oI (md &&& (7 : Int32)), oI nn, oI in1, oI in2, oI in3, oI in4, oR b1, oR b5, oR b13, oR b25, oR b41, oU, oU, oU, oU] []))
              refine Go.s (fun kz => XT.lloadN XJ.here hx rfl (hb hby at_223) rfl kz) ?_
              refine Go.s (fun kz => XS.goto XJ.here hx rfl (pc0 := 224) (pc' := 261) rfl (hb hby at_224) (by decide) (by decide) kz) ?_
              show Go p.tables e below P (TJ.setTop (mkF m 261 #[oJ p1, oS, oJ p2, oS, oJ p3, oS, oJ p4, oS, oJ p5, oS, oI md, oI (md &&& (7 : Int32)), oI nn, oI in1, oI in2, oI in3, oI in4, oR b1, oR b5, oR b13, oR b25, oR b41, oU, oU, oU, oU] [(.long p1)]))
              exact J261 p1 
            · skip
              refine Go.s (fun kz => XS.ifYes XJ.here hx rfl (pc0 := 220) (pc' := 227) rfl (hb hby at_220) rfl (XT.i0_ne_t hc220) (by decide) (by decide) kz) ?_
              show Go p.tables e below P (TJ.setTop (mkF m 227 #[oJ p1, oS, oJ p2, oS, oJ p3, oS, oJ p4, oS, oJ p5, oS, oI md, oI (md &&& (7 : Int32)), oI nn, oI in1, oI in2, oI in3, oI in4, oR b1, oR b5, oR b13, oR b25, oR b41, oU, oU, oU, oU] []))
              refine Go.s (fun kz => XS.iload XJ.here hx rfl (hb hby at_227) rfl kz) ?_
              refine Go.s (fun kz => XS.iconst XJ.here hx rfl (hb hby at_229) kz) ?_
              show Go p.tables e below P (TJ.setTop (mkF m 230 #[oJ p1, oS, oJ p2, oS, oJ p3, oS, oJ p4, oS, oJ p5, oS, oI md, oI (md &&& (7 : Int32)), oI nn, oI in1, oI in2, oI in3, oI in4, oR b1, oR b5, oR b13, oR b25, oR b41, oU, oU, oU, oU] [(.int (1 : Int32)), (.int (md &&& (7 : Int32)))]))
              by_cases hc230 : (md &&& (7 : Int32)) = (1 : Int32)
              · skip
                refine Go.s (fun kz => XS.icmpNo XJ.here hx rfl (hb hby at_230) rfl (XT.ii_ne_f hc230) kz) ?_
                show Go p.tables e below P (TJ.setTop (mkF m 233 #[oJ p1, oS, oJ p2, oS, oJ p3, oS, oJ p4, oS, oJ p5, oS, oI md, oI (md &&& (7 : Int32)), oI nn, oI in1, oI in2, oI in3, oI in4, oR b1, oR b5, oR b13, oR b25, oR b41, oU, oU, oU, oU] []))
                refine Go.s (fun kz => XT.lloadN XJ.here hx rfl (hb hby at_233) rfl kz) ?_
                refine Go.s (fun kz => XS.goto XJ.here hx rfl (pc0 := 234) (pc' := 261) rfl (hb hby at_234) (by decide) (by decide) kz) ?_
                show Go p.tables e below P (TJ.setTop (mkF m 261 #[oJ p1, oS, oJ p2, oS, oJ p3, oS, oJ p4, oS, oJ p5, oS, oI md, oI (md &&& (7 : Int32)), oI nn, oI in1, oI in2, oI in3, oI in4, oR b1, oR b5, oR b13, oR b25, oR b41, oU, oU, oU, oU] [(.long p2)]))
                exact J261 p2 
              · skip
                refine Go.s (fun kz => XS.icmpYes XJ.here hx rfl (pc0 := 230) (pc' := 237) rfl (hb hby at_230) rfl (XT.ii_ne_t hc230) (by decide) (by decide) kz) ?_
                show Go p.tables e below P (TJ.setTop (mkF m 237 #[oJ p1, oS, oJ p2, oS, oJ p3, oS, oJ p4, oS, oJ p5, oS, oI md, oI (md &&& (7 : Int32)), oI nn, oI in1, oI in2, oI in3, oI in4, oR b1, oR b5, oR b13, oR b25, oR b41, oU, oU, oU, oU] []))
                refine Go.s (fun kz => XS.iload XJ.here hx rfl (hb hby at_237) rfl kz) ?_
                refine Go.s (fun kz => XS.iconst XJ.here hx rfl (hb hby at_239) kz) ?_
                show Go p.tables e below P (TJ.setTop (mkF m 240 #[oJ p1, oS, oJ p2, oS, oJ p3, oS, oJ p4, oS, oJ p5, oS, oI md, oI (md &&& (7 : Int32)), oI nn, oI in1, oI in2, oI in3, oI in4, oR b1, oR b5, oR b13, oR b25, oR b41, oU, oU, oU, oU] [(.int (2 : Int32)), (.int (md &&& (7 : Int32)))]))
                by_cases hc240 : (md &&& (7 : Int32)) = (2 : Int32)
                · skip
                  refine Go.s (fun kz => XS.icmpNo XJ.here hx rfl (hb hby at_240) rfl (XT.ii_ne_f hc240) kz) ?_
                  show Go p.tables e below P (TJ.setTop (mkF m 243 #[oJ p1, oS, oJ p2, oS, oJ p3, oS, oJ p4, oS, oJ p5, oS, oI md, oI (md &&& (7 : Int32)), oI nn, oI in1, oI in2, oI in3, oI in4, oR b1, oR b5, oR b13, oR b25, oR b41, oU, oU, oU, oU] []))
                  refine Go.s (fun kz => XT.lload XJ.here hx rfl (hb hby at_243) rfl kz) ?_
                  refine Go.s (fun kz => XS.goto XJ.here hx rfl (pc0 := 245) (pc' := 261) rfl (hb hby at_245) (by decide) (by decide) kz) ?_
                  show Go p.tables e below P (TJ.setTop (mkF m 261 #[oJ p1, oS, oJ p2, oS, oJ p3, oS, oJ p4, oS, oJ p5, oS, oI md, oI (md &&& (7 : Int32)), oI nn, oI in1, oI in2, oI in3, oI in4, oR b1, oR b5, oR b13, oR b25, oR b41, oU, oU, oU, oU] [(.long p3)]))
                  exact J261 p3 
                · skip
                  refine Go.s (fun kz => XS.icmpYes XJ.here hx rfl (pc0 := 240) (pc' := 248) rfl (hb hby at_240) rfl (XT.ii_ne_t hc240) (by decide) (by decide) kz) ?_
                  show Go p.tables e below P (TJ.setTop (mkF m 248 #[oJ p1, oS, oJ p2, oS, oJ p3, oS, oJ p4, oS, oJ p5, oS, oI md, oI (md &&& (7 : Int32)), oI nn, oI in1, oI in2, oI in3, oI in4, oR b1, oR b5, oR b13, oR b25, oR b41, oU, oU, oU, oU] []))
                  refine Go.s (fun kz => XS.iload XJ.here hx rfl (hb hby at_248) rfl kz) ?_
                  refine Go.s (fun kz => XS.iconst XJ.here hx rfl (hb hby at_250) kz) ?_
                  show Go p.tables e below P (TJ.setTop (mkF m 251 #[oJ p1, oS, oJ p2, oS, oJ p3, oS, oJ p4, oS, oJ p5, oS, oI md, oI (md &&& (7 : Int32)), oI nn, oI in1, oI in2, oI in3, oI in4, oR b1, oR b5, oR b13, oR b25, oR b41, oU, oU, oU, oU] [(.int (3 : Int32)), (.int (md &&& (7 : Int32)))]))
                  by_cases hc251 : (md &&& (7 : Int32)) = (3 : Int32)
                  · skip
                    refine Go.s (fun kz => XS.icmpNo XJ.here hx rfl (hb hby at_251) rfl (XT.ii_ne_f hc251) kz) ?_
                    show Go p.tables e below P (TJ.setTop (mkF m 254 #[oJ p1, oS, oJ p2, oS, oJ p3, oS, oJ p4, oS, oJ p5, oS, oI md, oI (md &&& (7 : Int32)), oI nn, oI in1, oI in2, oI in3, oI in4, oR b1, oR b5, oR b13, oR b25, oR b41, oU, oU, oU, oU] []))
                    refine Go.s (fun kz => XT.lload XJ.here hx rfl (hb hby at_254) rfl kz) ?_
                    refine Go.s (fun kz => XS.goto XJ.here hx rfl (pc0 := 256) (pc' := 261) rfl (hb hby at_256) (by decide) (by decide) kz) ?_
                    show Go p.tables e below P (TJ.setTop (mkF m 261 #[oJ p1, oS, oJ p2, oS, oJ p3, oS, oJ p4, oS, oJ p5, oS, oI md, oI (md &&& (7 : Int32)), oI nn, oI in1, oI in2, oI in3, oI in4, oR b1, oR b5, oR b13, oR b25, oR b41, oU, oU, oU, oU] [(.long p4)]))
                    exact J261 p4 
                  · skip
                    refine Go.s (fun kz => XS.icmpYes XJ.here hx rfl (pc0 := 251) (pc' := 259) rfl (hb hby at_251) rfl (XT.ii_ne_t hc251) (by decide) (by decide) kz) ?_
                    show Go p.tables e below P (TJ.setTop (mkF m 259 #[oJ p1, oS, oJ p2, oS, oJ p3, oS, oJ p4, oS, oJ p5, oS, oI md, oI (md &&& (7 : Int32)), oI nn, oI in1, oI in2, oI in3, oI in4, oR b1, oR b5, oR b13, oR b25, oR b41, oU, oU, oU, oU] []))
                    refine Go.s (fun kz => XT.lload XJ.here hx rfl (hb hby at_259) rfl kz) ?_
                    show Go p.tables e below P (TJ.setTop (mkF m 261 #[oJ p1, oS, oJ p2, oS, oJ p3, oS, oJ p4, oS, oJ p5, oS, oI md, oI (md &&& (7 : Int32)), oI nn, oI in1, oI in2, oI in3, oI in4, oR b1, oR b5, oR b13, oR b25, oR b41, oU, oU, oU, oU] [(.long p5)]))
                    exact J261 p5 
          have J204 : ∀ (TJ : State) (LJ : List Loc) (HJ : Heap) (xJ : oKV) (aJ : List Nat) (XJ : Stand p l e room_1 s m #[(.long p1), (.long p2), (.long p3), (.long p4), (.long p5), (.int md)] below meth c TJ LJ 8 36) (eJ : TJ.heap = HJ) (NJ : Fr n0 LJ) (ZJ : n0 ≤ HJ.size) (hBJ : H50.size ≤ HJ.size) (IJ : own_Inv Z HJ n0 H50.size b41 xJ aJ) (pm : xJ.Perm (own_if in3 (p3, b13) (own_if in2 (p2, b5) (own_if in1 (p1, b1) ([] : oKV))))) (LJ4 : own_L Z HJ n0 b25), Go p.tables e below P (TJ.setTop (mkF m 204 #[oJ p1, oS, oJ p2, oS, oJ p3, oS, oJ p4, oS, oJ p5, oS, oI md, oI (md &&& (7 : Int32)), oI nn, oI in1, oI in2, oI in3, oI in4, oR b1, oR b5, oR b13, oR b25, oR b41, oU, oU, oU, oU] [])) := by
            intro TJ LJ HJ xJ aJ XJ eJ NJ ZJ hBJ IJ pm LJ4
            obtain ⟨_, _, EJ, -⟩ := id IJ
            refine Go.s (fun kz => XS.iload XJ.here hx rfl (hb hby at_204) rfl kz) ?_
            show Go p.tables e below P (TJ.setTop (mkF m 206 #[oJ p1, oS, oJ p2, oS, oJ p3, oS, oJ p4, oS, oJ p5, oS, oI md, oI (md &&& (7 : Int32)), oI nn, oI in1, oI in2, oI in3, oI in4, oR b1, oR b5, oR b13, oR b25, oR b41, oU, oU, oU, oU] [(.int in4)]))
            by_cases hc206 : in4 = 0
            · skip
              refine Go.s (fun kz => XS.ifYes XJ.here hx rfl (pc0 := 206) (pc' := 218) rfl (hb hby at_206) rfl (XT.i0_eq_t hc206) (by decide) (by decide) kz) ?_
              show Go p.tables e below P (TJ.setTop (mkF m 218 #[oJ p1, oS, oJ p2, oS, oJ p3, oS, oJ p4, oS, oJ p5, oS, oI md, oI (md &&& (7 : Int32)), oI nn, oI in1, oI in2, oI in3, oI in4, oR b1, oR b5, oR b13, oR b25, oR b41, oU, oU, oU, oU] []))
              obtain ⟨vS, szS, eS, -, fS, -, shS, -, -⟩ := IJ
              exact J218 TJ _ HJ vS xJ (XJ.more (by decide) (by decide)) eJ NJ ZJ eS fS (own_ShG shS) (own_if_no hc206 pm)
            · skip
              refine Go.s (fun kz => XS.ifNo XJ.here hx rfl (hb hby at_206) rfl (XT.i0_eq_f hc206) kz) ?_
              show Go p.tables e below P (TJ.setTop (mkF m 209 #[oJ p1, oS, oJ p2, oS, oJ p3, oS, oJ p4, oS, oJ p5, oS, oI md, oI (md &&& (7 : Int32)), oI nn, oI in1, oI in2, oI in3, oI in4, oR b1, oR b5, oR b13, oR b25, oR b41, oU, oU, oU, oU] []))
              refine Go.s (fun kz => XS.aload XJ.here hx rfl (hb hby at_209) rfl rfl kz) ?_
              refine Go.s (fun kz => XT.lload XJ.here hx rfl (hb hby at_211) rfl kz) ?_
              refine Go.s (fun kz => XS.aload XJ.here hx rfl (hb hby at_213) rfl rfl kz) ?_
              show Go p.tables e below P (TJ.setTop (mkF m 215 #[oJ p1, oS, oJ p2, oS, oJ p3, oS, oJ p4, oS, oJ p5, oS, oI md, oI (md &&& (7 : Int32)), oI nn, oI in1, oI in2, oI in3, oI in4, oR b1, oR b5, oR b13, oR b25, oR b41, oU, oU, oU, oU] [(.ref b25), (.long p4), (.ref b41)]))
              obtain ⟨v63, T63, L63, X63, Q63, st63⟩ := Con.virtual (own_put2 l Z a0 hw b41 p4 b25 xJ aJ HJ n0 ZJ H50.size hBJ IJ LJ4 (own_full IJ pm (show ∀ z ∈ (own_if in3 (p3, b13) (own_if in2 (p2, b5) (own_if in1 (p1, b1) ([] : oKV)))), z.2 ≠ b25 from (own_if_all (own_if_all (own_if_all own_a0 (fun _ => nb1b25)) (fun _ => nb5b25)) (fun _ => nb13b25))) nb25b41 lb4) (own_hK pm (show ∀ z ∈ (own_if in3 (p3, b13) (own_if in2 (p2, b5) (own_if in1 (p1, b1) ([] : oKV)))), z.1 ≠ p4 from (own_if_all (own_if_all (own_if_all own_a0 (fun _ => fun e => (q4 hc206).1 e.symm)) (fun _ => fun e => (q4 hc206).2.1 e.symm)) (fun _ => fun e => (q4 hc206).2.2 e.symm))))) XJ hx hZ (W := 0) hown (own_g hw 28 rfl) (own_g hw 29 rfl) (own_g hw 31 rfl) (own_g hw 30 rfl) (own_g hw 16 rfl) (own_g hw 32 rfl) (by decide) (by decide) (by decide) (by decide) (by decide) eJ (g := (mkF m 215 #[oJ p1, oS, oJ p2, oS, oJ p3, oS, oJ p4, oS, oJ p5, oS, oI md, oI (md &&& (7 : Int32)), oI nn, oI in1, oI in2, oI in3, oI in4, oR b1, oR b5, oR b13, oR b25, oR b41, oU, oU, oU, oU] [(.ref b25), (.long p4), (.ref b41)])) rfl (by rw [hml]; rfl) EJ (argsL := [(.long p4), (.ref b25)]) (rest := []) rfl (lenOf own_pd_5 rfl) rfl (by show 2 * 0 + _ ≤ _; exact Nat.le_of_eq rfl) (hb hby at_215)
              obtain ⟨H63, e63⟩ : ∃ z, T63.heap = z := ⟨_, rfl⟩
              rw [e63] at Q63
              obtain ⟨v63', xs63, rfl, Nq63, E63, F63, G63, pq63⟩ := Q63
              have Zs63 : n0 ≤ H63.size := Nat.le_trans G_b41 (Nat.le_of_lt E63.lt)
              have N63 := Fr.app NJ Nq63
              refine Go.s (fun {t} => st63) ?_
              show Go p.tables e below P (T63.setTop (mkF m 218 #[oJ p1, oS, oJ p2, oS, oJ p3, oS, oJ p4, oS, oJ p5, oS, oI md, oI (md &&& (7 : Int32)), oI nn, oI in1, oI in2, oI in3, oI in4, oR b1, oR b5, oR b13, oR b25, oR b41, oU, oU, oU, oU] []))
              exact J218 T63 _ H63 v63' xs63 (X63.more (by decide) (by decide)) e63 N63 Zs63 E63 F63 G63 (own_if_yes hc206 pm pq63)
          have J190 : ∀ (TJ : State) (LJ : List Loc) (HJ : Heap) (xJ : oKV) (aJ : List Nat) (XJ : Stand p l e room_1 s m #[(.long p1), (.long p2), (.long p3), (.long p4), (.long p5), (.int md)] below meth c TJ LJ 7 30) (eJ : TJ.heap = HJ) (NJ : Fr n0 LJ) (ZJ : n0 ≤ HJ.size) (hBJ : H50.size ≤ HJ.size) (IJ : own_Inv Z HJ n0 H50.size b41 xJ aJ) (pm : xJ.Perm (own_if in2 (p2, b5) (own_if in1 (p1, b1) ([] : oKV)))) (LJ3 : own_L Z HJ n0 b13) (LJ4 : own_L Z HJ n0 b25), Go p.tables e below P (TJ.setTop (mkF m 190 #[oJ p1, oS, oJ p2, oS, oJ p3, oS, oJ p4, oS, oJ p5, oS, oI md, oI (md &&& (7 : Int32)), oI nn, oI in1, oI in2, oI in3, oI in4, oR b1, oR b5, oR b13, oR b25, oR b41, oU, oU, oU, oU] [])) := by
            intro TJ LJ HJ xJ aJ XJ eJ NJ ZJ hBJ IJ pm LJ3 LJ4
            obtain ⟨_, _, EJ, -⟩ := id IJ
            refine Go.s (fun kz => XS.iload XJ.here hx rfl (hb hby at_190) rfl kz) ?_
            show Go p.tables e below P (TJ.setTop (mkF m 192 #[oJ p1, oS, oJ p2, oS, oJ p3, oS, oJ p4, oS, oJ p5, oS, oI md, oI (md &&& (7 : Int32)), oI nn, oI in1, oI in2, oI in3, oI in4, oR b1, oR b5, oR b13, oR b25, oR b41, oU, oU, oU, oU] [(.int in3)]))
            by_cases hc192 : in3 = 0
            · skip
              refine Go.s (fun kz => XS.ifYes XJ.here hx rfl (pc0 := 192) (pc' := 204) rfl (hb hby at_192) rfl (XT.i0_eq_t hc192) (by decide) (by decide) kz) ?_
              show Go p.tables e below P (TJ.setTop (mkF m 204 #[oJ p1, oS, oJ p2, oS, oJ p3, oS, oJ p4, oS, oJ p5, oS, oI md, oI (md &&& (7 : Int32)), oI nn, oI in1, oI in2, oI in3, oI in4, oR b1, oR b5, oR b13, oR b25, oR b41, oU, oU, oU, oU] []))
              exact J204 TJ _ HJ xJ aJ (XJ.more (by decide) (by decide)) eJ NJ ZJ hBJ IJ (own_if_no hc192 pm) LJ4
            · skip
              refine Go.s (fun kz => XS.ifNo XJ.here hx rfl (hb hby at_192) rfl (XT.i0_eq_f hc192) kz) ?_
              show Go p.tables e below P (TJ.setTop (mkF m 195 #[oJ p1, oS, oJ p2, oS, oJ p3, oS, oJ p4, oS, oJ p5, oS, oI md, oI (md &&& (7 : Int32)), oI nn, oI in1, oI in2, oI in3, oI in4, oR b1, oR b5, oR b13, oR b25, oR b41, oU, oU, oU, oU] []))
              refine Go.s (fun kz => XS.aload XJ.here hx rfl (hb hby at_195) rfl rfl kz) ?_
              refine Go.s (fun kz => XT.lload XJ.here hx rfl (hb hby at_197) rfl kz) ?_
              refine Go.s (fun kz => XS.aload XJ.here hx rfl (hb hby at_199) rfl rfl kz) ?_
              show Go p.tables e below P (TJ.setTop (mkF m 201 #[oJ p1, oS, oJ p2, oS, oJ p3, oS, oJ p4, oS, oJ p5, oS, oI md, oI (md &&& (7 : Int32)), oI nn, oI in1, oI in2, oI in3, oI in4, oR b1, oR b5, oR b13, oR b25, oR b41, oU, oU, oU, oU] [(.ref b13), (.long p3), (.ref b41)]))
              obtain ⟨v64, T64, L64, X64, Q64, st64⟩ := Con.virtual (own_put1 l Z a0 hw b41 p3 b13 xJ aJ HJ n0 ZJ H50.size hBJ IJ LJ3 (own_full IJ pm (show ∀ z ∈ (own_if in2 (p2, b5) (own_if in1 (p1, b1) ([] : oKV))), z.2 ≠ b13 from (own_if_all (own_if_all own_a0 (fun _ => nb1b13)) (fun _ => nb5b13))) nb13b41 lb3) (own_hK pm (show ∀ z ∈ (own_if in2 (p2, b5) (own_if in1 (p1, b1) ([] : oKV))), z.1 ≠ p3 from (own_if_all (own_if_all own_a0 (fun _ => fun e => (q3 hc192).1 e.symm)) (fun _ => fun e => (q3 hc192).2 e.symm)))) (Nat.le_trans (own_hl pm (show (own_if in2 (p2, b5) (own_if in1 (p1, b1) ([] : oKV))).length ≤ 2 from (own_if_len (own_if_len (Nat.le_refl 0))))) (by decide))) XJ hx hZ (W := 0) hown (own_g hw 28 rfl) (own_g hw 29 rfl) (own_g hw 31 rfl) (own_g hw 30 rfl) (own_g hw 16 rfl) (own_g hw 32 rfl) (by decide) (by decide) (by decide) (by decide) (by decide) eJ (g := (mkF m 201 #[oJ p1, oS, oJ p2, oS, oJ p3, oS, oJ p4, oS, oJ p5, oS, oI md, oI (md &&& (7 : Int32)), oI nn, oI in1, oI in2, oI in3, oI in4, oR b1, oR b5, oR b13, oR b25, oR b41, oU, oU, oU, oU] [(.ref b13), (.long p3), (.ref b41)])) rfl (by rw [hml]; rfl) EJ (argsL := [(.long p3), (.ref b13)]) (rest := []) rfl (lenOf own_pd_5 rfl) rfl (by show 2 * 0 + _ ≤ _; exact Nat.le_of_eq rfl) (hb hby at_201)
              obtain ⟨H64, e64⟩ : ∃ z, T64.heap = z := ⟨_, rfl⟩
              rw [e64] at Q64
              obtain ⟨xs64, as64, rfl, Nq64, Kq64, I64, pq64⟩ := Q64
              have Zs64 := Nat.le_trans ZJ Kq64.1
              have hb64 := Nat.le_trans hBJ Kq64.1
              have LV64_4 := own_L.keep LJ4 Kq64 (own_notin IJ nb25b41 lb4)
              have N64 := Fr.app NJ Nq64
              refine Go.s (fun {t} => st64) ?_
              show Go p.tables e below P (T64.setTop (mkF m 204 #[oJ p1, oS, oJ p2, oS, oJ p3, oS, oJ p4, oS, oJ p5, oS, oI md, oI (md &&& (7 : Int32)), oI nn, oI in1, oI in2, oI in3, oI in4, oR b1, oR b5, oR b13, oR b25, oR b41, oU, oU, oU, oU] []))
              exact J204 T64 _ H64 xs64 as64 (X64.more (by decide) (by decide)) e64 N64 Zs64 hb64 I64 (own_if_yes hc192 pm pq64) LV64_4
          have J177 : ∀ (TJ : State) (LJ : List Loc) (HJ : Heap) (xJ : oKV) (aJ : List Nat) (XJ : Stand p l e room_1 s m #[(.long p1), (.long p2), (.long p3), (.long p4), (.long p5), (.int md)] below meth c TJ LJ 6 24) (eJ : TJ.heap = HJ) (NJ : Fr n0 LJ) (ZJ : n0 ≤ HJ.size) (hBJ : H50.size ≤ HJ.size) (IJ : own_Inv Z HJ n0 H50.size b41 xJ aJ) (pm : xJ.Perm (own_if in1 (p1, b1) ([] : oKV))) (LJ2 : own_L Z HJ n0 b5) (LJ3 : own_L Z HJ n0 b13) (LJ4 : own_L Z HJ n0 b25), Go p.tables e below P (TJ.setTop (mkF m 177 #[oJ p1, oS, oJ p2, oS, oJ p3, oS, oJ p4, oS, oJ p5, oS, oI md, oI (md &&& (7 : Int32)), oI nn, oI in1, oI in2, oI in3, oI in4, oR b1, oR b5, oR b13, oR b25, oR b41, oU, oU, oU, oU] [])) := by
            intro TJ LJ HJ xJ aJ XJ eJ NJ ZJ hBJ IJ pm LJ2 LJ3 LJ4
            obtain ⟨_, _, EJ, -⟩ := id IJ
            refine Go.s (fun kz => XS.iload XJ.here hx rfl (hb hby at_177) rfl kz) ?_
            show Go p.tables e below P (TJ.setTop (mkF m 179 #[oJ p1, oS, oJ p2, oS, oJ p3, oS, oJ p4, oS, oJ p5, oS, oI md, oI (md &&& (7 : Int32)), oI nn, oI in1, oI in2, oI in3, oI in4, oR b1, oR b5, oR b13, oR b25, oR b41, oU, oU, oU, oU] [(.int in2)]))
            by_cases hc179 : in2 = 0
            · skip
              refine Go.s (fun kz => XS.ifYes XJ.here hx rfl (pc0 := 179) (pc' := 190) rfl (hb hby at_179) rfl (XT.i0_eq_t hc179) (by decide) (by decide) kz) ?_
              show Go p.tables e below P (TJ.setTop (mkF m 190 #[oJ p1, oS, oJ p2, oS, oJ p3, oS, oJ p4, oS, oJ p5, oS, oI md, oI (md &&& (7 : Int32)), oI nn, oI in1, oI in2, oI in3, oI in4, oR b1, oR b5, oR b13, oR b25, oR b41, oU, oU, oU, oU] []))
              exact J190 TJ _ HJ xJ aJ (XJ.more (by decide) (by decide)) eJ NJ ZJ hBJ IJ (own_if_no hc179 pm) LJ3 LJ4
            · skip
              refine Go.s (fun kz => XS.ifNo XJ.here hx rfl (hb hby at_179) rfl (XT.i0_eq_f hc179) kz) ?_
              show Go p.tables e below P (TJ.setTop (mkF m 182 #[oJ p1, oS, oJ p2, oS, oJ p3, oS, oJ p4, oS, oJ p5, oS, oI md, oI (md &&& (7 : Int32)), oI nn, oI in1, oI in2, oI in3, oI in4, oR b1, oR b5, oR b13, oR b25, oR b41, oU, oU, oU, oU] []))
              refine Go.s (fun kz => XS.aload XJ.here hx rfl (hb hby at_182) rfl rfl kz) ?_
              refine Go.s (fun kz => XT.lloadN XJ.here hx rfl (hb hby at_184) rfl kz) ?_
              refine Go.s (fun kz => XS.aload XJ.here hx rfl (hb hby at_185) rfl rfl kz) ?_
              show Go p.tables e below P (TJ.setTop (mkF m 187 #[oJ p1, oS, oJ p2, oS, oJ p3, oS, oJ p4, oS, oJ p5, oS, oI md, oI (md &&& (7 : Int32)), oI nn, oI in1, oI in2, oI in3, oI in4, oR b1, oR b5, oR b13, oR b25, oR b41, oU, oU, oU, oU] [(.ref b5), (.long p2), (.ref b41)]))
              obtain ⟨v65, T65, L65, X65, Q65, st65⟩ := Con.virtual (own_put1 l Z a0 hw b41 p2 b5 xJ aJ HJ n0 ZJ H50.size hBJ IJ LJ2 (own_full IJ pm (show ∀ z ∈ (own_if in1 (p1, b1) ([] : oKV)), z.2 ≠ b5 from (own_if_all own_a0 (fun _ => nb1b5))) nb5b41 lb2) (own_hK pm (show ∀ z ∈ (own_if in1 (p1, b1) ([] : oKV)), z.1 ≠ p2 from (own_if_all own_a0 (fun _ => fun e => (q2 hc179) e.symm)))) (Nat.le_trans (own_hl pm (show (own_if in1 (p1, b1) ([] : oKV)).length ≤ 1 from (own_if_len (Nat.le_refl 0)))) (by decide))) XJ hx hZ (W := 0) hown (own_g hw 28 rfl) (own_g hw 29 rfl) (own_g hw 31 rfl) (own_g hw 30 rfl) (own_g hw 16 rfl) (own_g hw 32 rfl) (by decide) (by decide) (by decide) (by decide) (by decide) eJ (g := (mkF m 187 #[oJ p1, oS, oJ p2, oS, oJ p3, oS, oJ p4, oS, oJ p5, oS, oI md, oI (md &&& (7 : Int32)), oI nn, oI in1, oI in2, oI in3, oI in4, oR b1, oR b5, oR b13, oR b25, oR b41, oU, oU, oU, oU] [(.ref b5), (.long p2), (.ref b41)])) rfl (by rw [hml]; rfl) EJ (argsL := [(.long p2), (.ref b5)]) (rest := []) rfl (lenOf own_pd_5 rfl) rfl (by show 2 * 0 + _ ≤ _; exact Nat.le_of_eq rfl) (hb hby at_187)
              obtain ⟨H65, e65⟩ : ∃ z, T65.heap = z := ⟨_, rfl⟩
              rw [e65] at Q65
              obtain ⟨xs65, as65, rfl, Nq65, Kq65, I65, pq65⟩ := Q65
              have Zs65 := Nat.le_trans ZJ Kq65.1
              have hb65 := Nat.le_trans hBJ Kq65.1
              have LV65_3 := own_L.keep LJ3 Kq65 (own_notin IJ nb13b41 lb3)
              have LV65_4 := own_L.keep LJ4 Kq65 (own_notin IJ nb25b41 lb4)
              have N65 := Fr.app NJ Nq65
              refine Go.s (fun {t} => st65) ?_
              show Go p.tables e below P (T65.setTop (mkF m 190 #[oJ p1, oS, oJ p2, oS, oJ p3, oS, oJ p4, oS, oJ p5, oS, oI md, oI (md &&& (7 : Int32)), oI nn, oI in1, oI in2, oI in3, oI in4, oR b1, oR b5, oR b13, oR b25, oR b41, oU, oU, oU, oU] []))
              exact J190 T65 _ H65 xs65 as65 (X65.more (by decide) (by decide)) e65 N65 Zs65 hb65 I65 (own_if_yes hc179 pm pq65) LV65_3 LV65_4
          refine Go.s (fun kz => XS.iload X50.here hx rfl (hb hby at_164) rfl kz) ?_
          show Go p.tables e below P (T50.setTop (mkF m 166 #[oJ p1, oS, oJ p2, oS, oJ p3, oS, oJ p4, oS, oJ p5, oS, oI md, oI (md &&& (7 : Int32)), oI nn, oI in1, oI in2, oI in3, oI in4, oR b1, oR b5, oR b13, oR b25, oR b41, oU, oU, oU, oU] [(.int in1)]))
          by_cases hc166 : in1 = 0
          · skip
            refine Go.s (fun kz => XS.ifYes X50.here hx rfl (pc0 := 166) (pc' := 177) rfl (hb hby at_166) rfl (XT.i0_eq_t hc166) (by decide) (by decide) kz) ?_
            show Go p.tables e below P (T50.setTop (mkF m 177 #[oJ p1, oS, oJ p2, oS, oJ p3, oS, oJ p4, oS, oJ p5, oS, oI md, oI (md &&& (7 : Int32)), oI nn, oI in1, oI in2, oI in3, oI in4, oR b1, oR b5, oR b13, oR b25, oR b41, oU, oU, oU, oU] []))
            exact J177 T50 _ H50 ([] : oKV) [] (X50.more (by decide) (by decide)) e50 N50 Zs50 hB0 IV (own_if_no hc166 (List.Perm.refl ([] : oKV))) LV2 LV3 LV4
          · skip
            refine Go.s (fun kz => XS.ifNo X50.here hx rfl (hb hby at_166) rfl (XT.i0_eq_f hc166) kz) ?_
            show Go p.tables e below P (T50.setTop (mkF m 169 #[oJ p1, oS, oJ p2, oS, oJ p3, oS, oJ p4, oS, oJ p5, oS, oI md, oI (md &&& (7 : Int32)), oI nn, oI in1, oI in2, oI in3, oI in4, oR b1, oR b5, oR b13, oR b25, oR b41, oU, oU, oU, oU] []))
            refine Go.s (fun kz => XS.aload X50.here hx rfl (hb hby at_169) rfl rfl kz) ?_
            refine Go.s (fun kz => XT.lloadN X50.here hx rfl (hb hby at_171) rfl kz) ?_
            refine Go.s (fun kz => XS.aload X50.here hx rfl (hb hby at_172) rfl rfl kz) ?_
            show Go p.tables e below P (T50.setTop (mkF m 174 #[oJ p1, oS, oJ p2, oS, oJ p3, oS, oJ p4, oS, oJ p5, oS, oI md, oI (md &&& (7 : Int32)), oI nn, oI in1, oI in2, oI in3, oI in4, oR b1, oR b5, oR b13, oR b25, oR b41, oU, oU, oU, oU] [(.ref b1), (.long p1), (.ref b41)]))
            obtain ⟨v66, T66, L66, X66, Q66, st66⟩ := Con.virtual (own_put1 l Z a0 hw b41 p1 b1 ([] : oKV) [] H50 n0 Zs50 H50.size hB0 IV LV1 (own_full IV (List.Perm.refl ([] : oKV)) (show ∀ z ∈ ([] : oKV), z.2 ≠ b1 from own_a0) nb1b41 lb1) (own_hK (List.Perm.refl ([] : oKV)) (show ∀ z ∈ ([] : oKV), z.1 ≠ p1 from own_a0)) (Nat.le_trans (own_hl (List.Perm.refl ([] : oKV)) (show ([] : oKV).length ≤ 0 from (Nat.le_refl 0))) (by decide))) X50 hx hZ (W := 0) hown (own_g hw 28 rfl) (own_g hw 29 rfl) (own_g hw 31 rfl) (own_g hw 30 rfl) (own_g hw 16 rfl) (own_g hw 32 rfl) (by decide) (by decide) (by decide) (by decide) (by decide) e50 (g := (mkF m 174 #[oJ p1, oS, oJ p2, oS, oJ p3, oS, oJ p4, oS, oJ p5, oS, oI md, oI (md &&& (7 : Int32)), oI nn, oI in1, oI in2, oI in3, oI in4, oR b1, oR b5, oR b13, oR b25, oR b41, oU, oU, oU, oU] [(.ref b1), (.long p1), (.ref b41)])) rfl (by rw [hml]; rfl) f59 (argsL := [(.long p1), (.ref b1)]) (rest := []) rfl (lenOf own_pd_5 rfl) rfl (by show 2 * 0 + _ ≤ _; exact Nat.le_of_eq rfl) (hb hby at_174)
            obtain ⟨H66, e66⟩ : ∃ z, T66.heap = z := ⟨_, rfl⟩
            rw [e66] at Q66
            obtain ⟨xs66, as66, rfl, Nq66, Kq66, I66, pq66⟩ := Q66
            have Zs66 := Nat.le_trans Zs50 Kq66.1
            have hb66 := Nat.le_trans hB0 Kq66.1
            have LV66_2 := own_L.keep LV2 Kq66 (own_notin IV nb5b41 lb2)
            have LV66_3 := own_L.keep LV3 Kq66 (own_notin IV nb13b41 lb3)
            have LV66_4 := own_L.keep LV4 Kq66 (own_notin IV nb25b41 lb4)
            have N66 := Fr.app N50 Nq66
            refine Go.s (fun {t} => st66) ?_
            show Go p.tables e below P (T66.setTop (mkF m 177 #[oJ p1, oS, oJ p2, oS, oJ p3, oS, oJ p4, oS, oJ p5, oS, oI md, oI (md &&& (7 : Int32)), oI nn, oI in1, oI in2, oI in3, oI in4, oR b1, oR b5, oR b13, oR b25, oR b41, oU, oU, oU, oU] []))
            exact J177 T66 _ H66 xs66 as66 (X66.more (by decide) (by decide)) e66 N66 Zs66 hb66 I66 (own_if_yes hc166 (List.Perm.refl ([] : oKV)) pq66) LV66_2 LV66_3 LV66_4
        by_cases hc77 : nn < (4 : Int32)
        · skip
          refine Go.s (fun kz => XS.icmpYes X0.here hx rfl (pc0 := 77) (pc' := 106) rfl (hb hby at_77) rfl (XT.ii_lt_t hc77) (by decide) (by decide) kz) ?_
          show Go p.tables e below P (s₁.setTop (mkF m 106 #[oJ p1, oS, oJ p2, oS, oJ p3, oS, oJ p4, oS, oJ p5, oS, oI md, oI (md &&& (7 : Int32)), oI nn, oI in1, oI in2, oI in3, oU, oU, oU, oU, oU, oU, oU, oU, oU, oU] []))
          refine Go.s (fun kz => XS.iconst X0.here hx rfl (hb hby at_106) kz) ?_
          show Go p.tables e below P (s₁.setTop (mkF m 107 #[oJ p1, oS, oJ p2, oS, oJ p3, oS, oJ p4, oS, oJ p5, oS, oI md, oI (md &&& (7 : Int32)), oI nn, oI in1, oI in2, oI in3, oU, oU, oU, oU, oU, oU, oU, oU, oU, oU] [(.int (0 : Int32))]))
          exact J107 (0 : Int32) (fun q => absurd rfl q)
        · skip
          refine Go.s (fun kz => XS.icmpNo X0.here hx rfl (hb hby at_77) rfl (XT.ii_lt_f hc77) kz) ?_
          show Go p.tables e below P (s₁.setTop (mkF m 80 #[oJ p1, oS, oJ p2, oS, oJ p3, oS, oJ p4, oS, oJ p5, oS, oI md, oI (md &&& (7 : Int32)), oI nn, oI in1, oI in2, oI in3, oU, oU, oU, oU, oU, oU, oU, oU, oU, oU] []))
          refine Go.s (fun kz => XT.lload X0.here hx rfl (hb hby at_80) rfl kz) ?_
          refine Go.s (fun kz => XT.lloadN X0.here hx rfl (hb hby at_82) rfl kz) ?_
          refine Go.s (fun kz => XT.lcmp X0.here hx rfl (hb hby at_83) rfl kz) ?_
          show Go p.tables e below P (s₁.setTop (mkF m 84 #[oJ p1, oS, oJ p2, oS, oJ p3, oS, oJ p4, oS, oJ p5, oS, oI md, oI (md &&& (7 : Int32)), oI nn, oI in1, oI in2, oI in3, oU, oU, oU, oU, oU, oU, oU, oU, oU, oU] [(.int (XT.cmpL p4 p1))]))
          by_cases hc84 : p4 = p1
          · skip
            refine Go.s (fun kz => XS.ifYes X0.here hx rfl (pc0 := 84) (pc' := 106) rfl (hb hby at_84) rfl (XT.ll_eq_t hc84) (by decide) (by decide) kz) ?_
            show Go p.tables e below P (s₁.setTop (mkF m 106 #[oJ p1, oS, oJ p2, oS, oJ p3, oS, oJ p4, oS, oJ p5, oS, oI md, oI (md &&& (7 : Int32)), oI nn, oI in1, oI in2, oI in3, oU, oU, oU, oU, oU, oU, oU, oU, oU, oU] []))
            refine Go.s (fun kz => XS.iconst X0.here hx rfl (hb hby at_106) kz) ?_
            show Go p.tables e below P (s₁.setTop (mkF m 107 #[oJ p1, oS, oJ p2, oS, oJ p3, oS, oJ p4, oS, oJ p5, oS, oI md, oI (md &&& (7 : Int32)), oI nn, oI in1, oI in2, oI in3, oU, oU, oU, oU, oU, oU, oU, oU, oU, oU] [(.int (0 : Int32))]))
            exact J107 (0 : Int32) (fun q => absurd rfl q)
          · skip
            refine Go.s (fun kz => XS.ifNo X0.here hx rfl (hb hby at_84) rfl (XT.ll_eq_f hc84) kz) ?_
            show Go p.tables e below P (s₁.setTop (mkF m 87 #[oJ p1, oS, oJ p2, oS, oJ p3, oS, oJ p4, oS, oJ p5, oS, oI md, oI (md &&& (7 : Int32)), oI nn, oI in1, oI in2, oI in3, oU, oU, oU, oU, oU, oU, oU, oU, oU, oU] []))
            refine Go.s (fun kz => XT.lload X0.here hx rfl (hb hby at_87) rfl kz) ?_
            refine Go.s (fun kz => XT.lloadN X0.here hx rfl (hb hby at_89) rfl kz) ?_
            refine Go.s (fun kz => XT.lcmp X0.here hx rfl (hb hby at_90) rfl kz) ?_
            show Go p.tables e below P (s₁.setTop (mkF m 91 #[oJ p1, oS, oJ p2, oS, oJ p3, oS, oJ p4, oS, oJ p5, oS, oI md, oI (md &&& (7 : Int32)), oI nn, oI in1, oI in2, oI in3, oU, oU, oU, oU, oU, oU, oU, oU, oU, oU] [(.int (XT.cmpL p4 p2))]))
            by_cases hc91 : p4 = p2
            · skip
              refine Go.s (fun kz => XS.ifYes X0.here hx rfl (pc0 := 91) (pc' := 106) rfl (hb hby at_91) rfl (XT.ll_eq_t hc91) (by decide) (by decide) kz) ?_
              show Go p.tables e below P (s₁.setTop (mkF m 106 #[oJ p1, oS, oJ p2, oS, oJ p3, oS, oJ p4, oS, oJ p5, oS, oI md, oI (md &&& (7 : Int32)), oI nn, oI in1, oI in2, oI in3, oU, oU, oU, oU, oU, oU, oU, oU, oU, oU] []))
              refine Go.s (fun kz => XS.iconst X0.here hx rfl (hb hby at_106) kz) ?_
              show Go p.tables e below P (s₁.setTop (mkF m 107 #[oJ p1, oS, oJ p2, oS, oJ p3, oS, oJ p4, oS, oJ p5, oS, oI md, oI (md &&& (7 : Int32)), oI nn, oI in1, oI in2, oI in3, oU, oU, oU, oU, oU, oU, oU, oU, oU, oU] [(.int (0 : Int32))]))
              exact J107 (0 : Int32) (fun q => absurd rfl q)
            · skip
              refine Go.s (fun kz => XS.ifNo X0.here hx rfl (hb hby at_91) rfl (XT.ll_eq_f hc91) kz) ?_
              show Go p.tables e below P (s₁.setTop (mkF m 94 #[oJ p1, oS, oJ p2, oS, oJ p3, oS, oJ p4, oS, oJ p5, oS, oI md, oI (md &&& (7 : Int32)), oI nn, oI in1, oI in2, oI in3, oU, oU, oU, oU, oU, oU, oU, oU, oU, oU] []))
              refine Go.s (fun kz => XT.lload X0.here hx rfl (hb hby at_94) rfl kz) ?_
              refine Go.s (fun kz => XT.lload X0.here hx rfl (hb hby at_96) rfl kz) ?_
              refine Go.s (fun kz => XT.lcmp X0.here hx rfl (hb hby at_98) rfl kz) ?_
              show Go p.tables e below P (s₁.setTop (mkF m 99 #[oJ p1, oS, oJ p2, oS, oJ p3, oS, oJ p4, oS, oJ p5, oS, oI md, oI (md &&& (7 : Int32)), oI nn, oI in1, oI in2, oI in3, oU, oU, oU, oU, oU, oU, oU, oU, oU, oU] [(.int (XT.cmpL p4 p3))]))
              by_cases hc99 : p4 = p3
              · skip
                refine Go.s (fun kz => XS.ifYes X0.here hx rfl (pc0 := 99) (pc' := 106) rfl (hb hby at_99) rfl (XT.ll_eq_t hc99) (by decide) (by decide) kz) ?_
                show Go p.tables e below P (s₁.setTop (mkF m 106 #[oJ p1, oS, oJ p2, oS, oJ p3, oS, oJ p4, oS, oJ p5, oS, oI md, oI (md &&& (7 : Int32)), oI nn, oI in1, oI in2, oI in3, oU, oU, oU, oU, oU, oU, oU, oU, oU, oU] []))
                refine Go.s (fun kz => XS.iconst X0.here hx rfl (hb hby at_106) kz) ?_
                show Go p.tables e below P (s₁.setTop (mkF m 107 #[oJ p1, oS, oJ p2, oS, oJ p3, oS, oJ p4, oS, oJ p5, oS, oI md, oI (md &&& (7 : Int32)), oI nn, oI in1, oI in2, oI in3, oU, oU, oU, oU, oU, oU, oU, oU, oU, oU] [(.int (0 : Int32))]))
                exact J107 (0 : Int32) (fun q => absurd rfl q)
              · skip
                refine Go.s (fun kz => XS.ifNo X0.here hx rfl (hb hby at_99) rfl (XT.ll_eq_f hc99) kz) ?_
                show Go p.tables e below P (s₁.setTop (mkF m 102 #[oJ p1, oS, oJ p2, oS, oJ p3, oS, oJ p4, oS, oJ p5, oS, oI md, oI (md &&& (7 : Int32)), oI nn, oI in1, oI in2, oI in3, oU, oU, oU, oU, oU, oU, oU, oU, oU, oU] []))
                refine Go.s (fun kz => XS.iconst X0.here hx rfl (hb hby at_102) kz) ?_
                refine Go.s (fun kz => XS.goto X0.here hx rfl (pc0 := 103) (pc' := 107) rfl (hb hby at_103) (by decide) (by decide) kz) ?_
                show Go p.tables e below P (s₁.setTop (mkF m 107 #[oJ p1, oS, oJ p2, oS, oJ p3, oS, oJ p4, oS, oJ p5, oS, oI md, oI (md &&& (7 : Int32)), oI nn, oI in1, oI in2, oI in3, oU, oU, oU, oU, oU, oU, oU, oU, oU, oU] [(.int (1 : Int32))]))
                exact J107 (1 : Int32) (fun _ => ⟨hc84, hc91, hc99⟩)
      by_cases hc50 : nn < (3 : Int32)
      · skip
        refine Go.s (fun kz => XS.icmpYes X0.here hx rfl (pc0 := 50) (pc' := 71) rfl (hb hby at_50) rfl (XT.ii_lt_t hc50) (by decide) (by decide) kz) ?_
        show Go p.tables e below P (s₁.setTop (mkF m 71 #[oJ p1, oS, oJ p2, oS, oJ p3, oS, oJ p4, oS, oJ p5, oS, oI md, oI (md &&& (7 : Int32)), oI nn, oI in1, oI in2, oU, oU, oU, oU, oU, oU, oU, oU, oU, oU, oU] []))
        refine Go.s (fun kz => XS.iconst X0.here hx rfl (hb hby at_71) kz) ?_
        show Go p.tables e below P (s₁.setTop (mkF m 72 #[oJ p1, oS, oJ p2, oS, oJ p3, oS, oJ p4, oS, oJ p5, oS, oI md, oI (md &&& (7 : Int32)), oI nn, oI in1, oI in2, oU, oU, oU, oU, oU, oU, oU, oU, oU, oU, oU] [(.int (0 : Int32))]))
        exact J72 (0 : Int32) (fun q => absurd rfl q)
      · skip
        refine Go.s (fun kz => XS.icmpNo X0.here hx rfl (hb hby at_50) rfl (XT.ii_lt_f hc50) kz) ?_
        show Go p.tables e below P (s₁.setTop (mkF m 53 #[oJ p1, oS, oJ p2, oS, oJ p3, oS, oJ p4, oS, oJ p5, oS, oI md, oI (md &&& (7 : Int32)), oI nn, oI in1, oI in2, oU, oU, oU, oU, oU, oU, oU, oU, oU, oU, oU] []))
        refine Go.s (fun kz => XT.lload X0.here hx rfl (hb hby at_53) rfl kz) ?_
        refine Go.s (fun kz => XT.lloadN X0.here hx rfl (hb hby at_55) rfl kz) ?_
        refine Go.s (fun kz => XT.lcmp X0.here hx rfl (hb hby at_56) rfl kz) ?_
        show Go p.tables e below P (s₁.setTop (mkF m 57 #[oJ p1, oS, oJ p2, oS, oJ p3, oS, oJ p4, oS, oJ p5, oS, oI md, oI (md &&& (7 : Int32)), oI nn, oI in1, oI in2, oU, oU, oU, oU, oU, oU, oU, oU, oU, oU, oU] [(.int (XT.cmpL p3 p1))]))
        by_cases hc57 : p3 = p1
        · skip
          refine Go.s (fun kz => XS.ifYes X0.here hx rfl (pc0 := 57) (pc' := 71) rfl (hb hby at_57) rfl (XT.ll_eq_t hc57) (by decide) (by decide) kz) ?_
          show Go p.tables e below P (s₁.setTop (mkF m 71 #[oJ p1, oS, oJ p2, oS, oJ p3, oS, oJ p4, oS, oJ p5, oS, oI md, oI (md &&& (7 : Int32)), oI nn, oI in1, oI in2, oU, oU, oU, oU, oU, oU, oU, oU, oU, oU, oU] []))
          refine Go.s (fun kz => XS.iconst X0.here hx rfl (hb hby at_71) kz) ?_
          show Go p.tables e below P (s₁.setTop (mkF m 72 #[oJ p1, oS, oJ p2, oS, oJ p3, oS, oJ p4, oS, oJ p5, oS, oI md, oI (md &&& (7 : Int32)), oI nn, oI in1, oI in2, oU, oU, oU, oU, oU, oU, oU, oU, oU, oU, oU] [(.int (0 : Int32))]))
          exact J72 (0 : Int32) (fun q => absurd rfl q)
        · skip
          refine Go.s (fun kz => XS.ifNo X0.here hx rfl (hb hby at_57) rfl (XT.ll_eq_f hc57) kz) ?_
          show Go p.tables e below P (s₁.setTop (mkF m 60 #[oJ p1, oS, oJ p2, oS, oJ p3, oS, oJ p4, oS, oJ p5, oS, oI md, oI (md &&& (7 : Int32)), oI nn, oI in1, oI in2, oU, oU, oU, oU, oU, oU, oU, oU, oU, oU, oU] []))
          refine Go.s (fun kz => XT.lload X0.here hx rfl (hb hby at_60) rfl kz) ?_
          refine Go.s (fun kz => XT.lloadN X0.here hx rfl (hb hby at_62) rfl kz) ?_
          refine Go.s (fun kz => XT.lcmp X0.here hx rfl (hb hby at_63) rfl kz) ?_
          show Go p.tables e below P (s₁.setTop (mkF m 64 #[oJ p1, oS, oJ p2, oS, oJ p3, oS, oJ p4, oS, oJ p5, oS, oI md, oI (md &&& (7 : Int32)), oI nn, oI in1, oI in2, oU, oU, oU, oU, oU, oU, oU, oU, oU, oU, oU] [(.int (XT.cmpL p3 p2))]))
          by_cases hc64 : p3 = p2
          · skip
            refine Go.s (fun kz => XS.ifYes X0.here hx rfl (pc0 := 64) (pc' := 71) rfl (hb hby at_64) rfl (XT.ll_eq_t hc64) (by decide) (by decide) kz) ?_
            show Go p.tables e below P (s₁.setTop (mkF m 71 #[oJ p1, oS, oJ p2, oS, oJ p3, oS, oJ p4, oS, oJ p5, oS, oI md, oI (md &&& (7 : Int32)), oI nn, oI in1, oI in2, oU, oU, oU, oU, oU, oU, oU, oU, oU, oU, oU] []))
            refine Go.s (fun kz => XS.iconst X0.here hx rfl (hb hby at_71) kz) ?_
            show Go p.tables e below P (s₁.setTop (mkF m 72 #[oJ p1, oS, oJ p2, oS, oJ p3, oS, oJ p4, oS, oJ p5, oS, oI md, oI (md &&& (7 : Int32)), oI nn, oI in1, oI in2, oU, oU, oU, oU, oU, oU, oU, oU, oU, oU, oU] [(.int (0 : Int32))]))
            exact J72 (0 : Int32) (fun q => absurd rfl q)
          · skip
            refine Go.s (fun kz => XS.ifNo X0.here hx rfl (hb hby at_64) rfl (XT.ll_eq_f hc64) kz) ?_
            show Go p.tables e below P (s₁.setTop (mkF m 67 #[oJ p1, oS, oJ p2, oS, oJ p3, oS, oJ p4, oS, oJ p5, oS, oI md, oI (md &&& (7 : Int32)), oI nn, oI in1, oI in2, oU, oU, oU, oU, oU, oU, oU, oU, oU, oU, oU] []))
            refine Go.s (fun kz => XS.iconst X0.here hx rfl (hb hby at_67) kz) ?_
            refine Go.s (fun kz => XS.goto X0.here hx rfl (pc0 := 68) (pc' := 72) rfl (hb hby at_68) (by decide) (by decide) kz) ?_
            show Go p.tables e below P (s₁.setTop (mkF m 72 #[oJ p1, oS, oJ p2, oS, oJ p3, oS, oJ p4, oS, oJ p5, oS, oI md, oI (md &&& (7 : Int32)), oI nn, oI in1, oI in2, oU, oU, oU, oU, oU, oU, oU, oU, oU, oU, oU] [(.int (1 : Int32))]))
            exact J72 (1 : Int32) (fun _ => ⟨hc57, hc64⟩)
    by_cases hc31 : nn < (2 : Int32)
    · skip
      refine Go.s (fun kz => XS.icmpYes X0.here hx rfl (pc0 := 31) (pc' := 44) rfl (hb hby at_31) rfl (XT.ii_lt_t hc31) (by decide) (by decide) kz) ?_
      show Go p.tables e below P (s₁.setTop (mkF m 44 #[oJ p1, oS, oJ p2, oS, oJ p3, oS, oJ p4, oS, oJ p5, oS, oI md, oI (md &&& (7 : Int32)), oI nn, oI in1, oU, oU, oU, oU, oU, oU, oU, oU, oU, oU, oU, oU] []))
      refine Go.s (fun kz => XS.iconst X0.here hx rfl (hb hby at_44) kz) ?_
      show Go p.tables e below P (s₁.setTop (mkF m 45 #[oJ p1, oS, oJ p2, oS, oJ p3, oS, oJ p4, oS, oJ p5, oS, oI md, oI (md &&& (7 : Int32)), oI nn, oI in1, oU, oU, oU, oU, oU, oU, oU, oU, oU, oU, oU, oU] [(.int (0 : Int32))]))
      exact J45 (0 : Int32) (fun q => absurd rfl q)
    · skip
      refine Go.s (fun kz => XS.icmpNo X0.here hx rfl (hb hby at_31) rfl (XT.ii_lt_f hc31) kz) ?_
      show Go p.tables e below P (s₁.setTop (mkF m 34 #[oJ p1, oS, oJ p2, oS, oJ p3, oS, oJ p4, oS, oJ p5, oS, oI md, oI (md &&& (7 : Int32)), oI nn, oI in1, oU, oU, oU, oU, oU, oU, oU, oU, oU, oU, oU, oU] []))
      refine Go.s (fun kz => XT.lloadN X0.here hx rfl (hb hby at_34) rfl kz) ?_
      refine Go.s (fun kz => XT.lloadN X0.here hx rfl (hb hby at_35) rfl kz) ?_
      refine Go.s (fun kz => XT.lcmp X0.here hx rfl (hb hby at_36) rfl kz) ?_
      show Go p.tables e below P (s₁.setTop (mkF m 37 #[oJ p1, oS, oJ p2, oS, oJ p3, oS, oJ p4, oS, oJ p5, oS, oI md, oI (md &&& (7 : Int32)), oI nn, oI in1, oU, oU, oU, oU, oU, oU, oU, oU, oU, oU, oU, oU] [(.int (XT.cmpL p2 p1))]))
      by_cases hc37 : p2 = p1
      · skip
        refine Go.s (fun kz => XS.ifYes X0.here hx rfl (pc0 := 37) (pc' := 44) rfl (hb hby at_37) rfl (XT.ll_eq_t hc37) (by decide) (by decide) kz) ?_
        show Go p.tables e below P (s₁.setTop (mkF m 44 #[oJ p1, oS, oJ p2, oS, oJ p3, oS, oJ p4, oS, oJ p5, oS, oI md, oI (md &&& (7 : Int32)), oI nn, oI in1, oU, oU, oU, oU, oU, oU, oU, oU, oU, oU, oU, oU] []))
        refine Go.s (fun kz => XS.iconst X0.here hx rfl (hb hby at_44) kz) ?_
        show Go p.tables e below P (s₁.setTop (mkF m 45 #[oJ p1, oS, oJ p2, oS, oJ p3, oS, oJ p4, oS, oJ p5, oS, oI md, oI (md &&& (7 : Int32)), oI nn, oI in1, oU, oU, oU, oU, oU, oU, oU, oU, oU, oU, oU, oU] [(.int (0 : Int32))]))
        exact J45 (0 : Int32) (fun q => absurd rfl q)
      · skip
        refine Go.s (fun kz => XS.ifNo X0.here hx rfl (hb hby at_37) rfl (XT.ll_eq_f hc37) kz) ?_
        show Go p.tables e below P (s₁.setTop (mkF m 40 #[oJ p1, oS, oJ p2, oS, oJ p3, oS, oJ p4, oS, oJ p5, oS, oI md, oI (md &&& (7 : Int32)), oI nn, oI in1, oU, oU, oU, oU, oU, oU, oU, oU, oU, oU, oU, oU] []))
        refine Go.s (fun kz => XS.iconst X0.here hx rfl (hb hby at_40) kz) ?_
        refine Go.s (fun kz => XS.goto X0.here hx rfl (pc0 := 41) (pc' := 45) rfl (hb hby at_41) (by decide) (by decide) kz) ?_
        show Go p.tables e below P (s₁.setTop (mkF m 45 #[oJ p1, oS, oJ p2, oS, oJ p3, oS, oJ p4, oS, oJ p5, oS, oI md, oI (md &&& (7 : Int32)), oI nn, oI in1, oU, oU, oU, oU, oU, oU, oU, oU, oU, oU, oU, oU] [(.int (1 : Int32))]))
        exact J45 (1 : Int32) (fun _ => hc37)
  by_cases hc18 : nn < (1 : Int32)
  · skip
    refine Go.s (fun kz => XS.icmpYes X0.here hx rfl (pc0 := 18) (pc' := 25) rfl (hb hby at_18) rfl (XT.ii_lt_t hc18) (by decide) (by decide) kz) ?_
    show Go p.tables e below P (s₁.setTop (mkF m 25 #[oJ p1, oS, oJ p2, oS, oJ p3, oS, oJ p4, oS, oJ p5, oS, oI md, oI (md &&& (7 : Int32)), oI nn, oU, oU, oU, oU, oU, oU, oU, oU, oU, oU, oU, oU, oU] []))
    refine Go.s (fun kz => XS.iconst X0.here hx rfl (hb hby at_25) kz) ?_
    show Go p.tables e below P (s₁.setTop (mkF m 26 #[oJ p1, oS, oJ p2, oS, oJ p3, oS, oJ p4, oS, oJ p5, oS, oI md, oI (md &&& (7 : Int32)), oI nn, oU, oU, oU, oU, oU, oU, oU, oU, oU, oU, oU, oU, oU] [(.int (0 : Int32))]))
    exact J26 (0 : Int32) 
  · skip
    refine Go.s (fun kz => XS.icmpNo X0.here hx rfl (hb hby at_18) rfl (XT.ii_lt_f hc18) kz) ?_
    show Go p.tables e below P (s₁.setTop (mkF m 21 #[oJ p1, oS, oJ p2, oS, oJ p3, oS, oJ p4, oS, oJ p5, oS, oI md, oI (md &&& (7 : Int32)), oI nn, oU, oU, oU, oU, oU, oU, oU, oU, oU, oU, oU, oU, oU] []))
    refine Go.s (fun kz => XS.iconst X0.here hx rfl (hb hby at_21) kz) ?_
    refine Go.s (fun kz => XS.goto X0.here hx rfl (pc0 := 22) (pc' := 26) rfl (hb hby at_22) (by decide) (by decide) kz) ?_
    show Go p.tables e below P (s₁.setTop (mkF m 26 #[oJ p1, oS, oJ p2, oS, oJ p3, oS, oJ p4, oS, oJ p5, oS, oI md, oI (md &&& (7 : Int32)), oI nn, oU, oU, oU, oU, oU, oU, oU, oU, oU, oU, oU, oU, oU] [(.int (1 : Int32))]))
    exact J26 (1 : Int32) 
set_option maxRecDepth 65536 in
set_option maxHeartbeats 40000000 in
theorem own_comes {Post : Tables → Env → Array Value → State → Outcome → State → Prop} (hpost : ∀ tb e args s v u, (limb_1_1.after args s (.returned v) u = true ∧ limb_1_2.after args s (.returned v) u = true ∧ True) → FrameEnd s (.returned v) u (Jvm.fieldLocs frame_1_writes args s ++ Jvm.arrayLocs frame_1_arrays args s ++ Jvm.staticLocs frame_1_statics s) 32 192 → Post tb e args s (.returned v) u) :
    ArmFor flags0 classFile x code maxLocals ret World_1 tables_1 room_1 Calls_1 rest_1 Pre_1 Post := by
  intro l hfl _ _ p e ha hc hk s m args below hf hA hF happ hP
  obtain ⟨hcalls, hrest, hpre⟩ := hP
  obtain ⟨-, -, -, hnamed, -, -, -, hat⟩ := (Spec.applies_iff hf).mp happ
  obtain ⟨hg, hn⟩ := and_e (Cond.before_iff.mp (show (Jvm.Cond.and given_1 narrow_1).before args s = true from hpre))
  obtain ⟨h1, g1⟩ := and_e hg
  obtain ⟨w0, w1, w2, w3, w4, w5, rfl⟩ : ∃ w0 w1 w2 w3 w4 w5 : Value, args = #[w0, w1, w2, w3, w4, w5] := by
    have hs : args.size = 6 := by simpa [Cond.value, given_1] using h1
    obtain ⟨L⟩ := args
    match L, hs with
    | [w0, w1, w2, w3, w4, w5], _ => exact ⟨w0, w1, w2, w3, w4, w5, rfl⟩
  have hw := fun d (hd : d ∈ tables_1) => atoms_spec (ws := Jvm.Cond.code x code maxLocals ret :: tables_1) hat d (List.mem_cons_of_mem _ hd)
  have hfit : Fit s := fun {y c} hc i hi => by
    obtain ⟨ha, rfl⟩ := Array.getElem?_eq_some_iff.mp hc
    have q := List.all_eq_true.mp ((Array.all_eq_true_iff_forall_mem.mp hF) _ (Array.getElem_mem ha)) i (List.mem_range.mpr hi)
    simpa [Array.getElem?_eq_getElem hi] using q
  obtain ⟨a0, g2⟩ := and_e g1
  obtain ⟨i0, ee0⟩ := isL_v a0
  obtain rfl : w0 = (.long i0) := Option.some.inj ee0
  obtain ⟨a1, g3⟩ := and_e g2
  obtain ⟨i1, ee1⟩ := isL_v a1
  obtain rfl : w1 = (.long i1) := Option.some.inj ee1
  obtain ⟨a2, g4⟩ := and_e g3
  obtain ⟨i2, ee2⟩ := isL_v a2
  obtain rfl : w2 = (.long i2) := Option.some.inj ee2
  obtain ⟨a3, g5⟩ := and_e g4
  obtain ⟨i3, ee3⟩ := isL_v a3
  obtain rfl : w3 = (.long i3) := Option.some.inj ee3
  obtain ⟨a4, g6⟩ := and_e g5
  obtain ⟨i4, ee4⟩ := isL_v a4
  obtain rfl : w4 = (.long i4) := Option.some.inj ee4
  obtain ⟨i5, ee5⟩ := is_v g6
  obtain rfl : w5 = (.int i5) := Option.some.inj ee5
  obtain ⟨n, o, h1, h2, h3, _, L, rfl, ⟨rfl, N⟩, hq⟩ := own_rm0 l s _ hw tables_1 i0 i1 i2 i3 i4 i5  s.heap s.heap.size (Nat.le_refl _)  p e ha hc hk s m _ below hf ((Spec.applies_iff_loose hf).mp happ).1 ⟨rfl, State.Warmed39.refl s, rfl⟩ trivial
  refine ⟨n, _, h1, h2, h3, hpost _ _ _ _ _ _ ⟨Cond.after_iff.mpr rfl, Cond.after_iff.mpr (eq_i res_at (Term.int_eval (1)) rfl), trivial⟩ ⟨hq.1, hq.2.1, (hq.2.2.sift fun y hy => Or.inr (N y hy)).mono (by decide) (by decide)⟩⟩
theorem main_1_1 : Claimed_1_1 := own_comes fun _ _ _ _ _ _ h hF => ⟨h.1, hF⟩
theorem main_1_2 : Claimed_1_2 := own_comes fun _ _ _ _ _ _ h hF => ⟨h.2.1, hF⟩
end Jvm.Pilot.@@N@@
namespace Jvm.Pilot.@@N@@
open Jvm Jvm.ClassFile Sem Op Lib Jvm.Free Jvm.Stand Jvm.Pilot.@@N@@.Jvm.D
/-! MADE BY PROGRAM (witnessworld.py) out of the Statement's table words and the real class files: 12 classes; the members and pool entries that the words name. The judged class is class 1, her method 1. -/
namespace start1
open Jvm.ClassFile
def u (s : String) : CpInfo := .utf8 (stringToUtf16 s)
/-- a pool by its gaps: so many unusable entries, then the entry; so many at the end -/
def gap : Nat → List CpInfo → List CpInfo
  | 0, r => r
  | n + 1, r => .unusable :: gap n r
def poolList (es : List (Nat × CpInfo)) (last : Nat) : List CpInfo := es.foldr (fun e r => gap e.1 (e.2 :: r)) (gap last [])
def pool (es : List (Nat × CpInfo)) (last : Nat) : Array CpInfo := ⟨poolList es last⟩
def fileOf (pool : Array CpInfo) (this : Nat) (attrs : Array Attribute := #[]) (ms : Array MethodInfo := #[]) (fl : Nat := 33) (sup : Nat := 0) (ifs : Array Nat := #[]) (fds : Array FieldInfo := #[]) : ClassFile where
  minorVersion := 0
  majorVersion := 65
  constantPool := pool
  accessFlags := fl
  thisClass := this
  superClass := sup
  interfaces := ifs
  fields := fds
  methods := ms
  attributes := attrs
def plain (name : String) (sup : Option ClassId) : Class where
  name := name
  kind := .ordinary
  loader := none
  accessFlags := 33
  super := sup
  interfaces := #[]
  cf := none
  fields := #[]
  methods := #[]
  instanceTypes := #[]
  staticTypes := #[]
  resolved := #[]
  callSites := []
  init := .initialized
  statics := none
  mirror := none

def pool0 : Array CpInfo := pool [(5, u "<init>"), (0, u "()V"), (1, .class_ 10), (1, u "java/lang/Object")] 113

def k0c0 : Code := { maxStack := 0, maxLocals := 1, code := object_method_1_code, exceptionTable := #[], attributes := #[] }
def k0m0 : Method := { name := "<init>", desc := "()V", sig := { parameters := [], returnType := none }, accessFlags := 1, code := some k0c0 }
/-- java/lang/Object -/
def k0 : Class := { plain "java/lang/Object" none with
  accessFlags := 33
  interfaces := #[]
  cf := some (fileOf pool0 8 #[] #[{ accessFlags := 1, nameIndex := 5, descriptorIndex := 6, attributes := #[] }] 33 0 #[] #[])
  fields := #[]
  methods := #[k0m0]
  instanceTypes := #[]
  staticTypes := #[]
  resolved := Array.replicate 124 none
  statics := none }

def pool1 : Array CpInfo := pool [(2, .class_ 4), (0, .nameAndType 5 6), (0, u "java/lang/Object"), (0, u "<init>"), (0, u "()V"), (0, .class_ 8), (0, u "com/example/rotunda/rotunda/BookSide$Level"), (0, .methodref 7 10), (0, .nameAndType 5 11), (0, u "(J)V"), (0, .long 2), (1, .long 3), (1, .long 4), (1, .class_ 19), (0, u "com/example/rotunda/rotunda/LevelTree"), (0, .methodref 18 3), (0, .methodref 18 22), (0, .nameAndType 23 24), (0, u "put"), (0, u "(JLcom/example/rotunda/rotunda/BookSide$Level;)V"), (0, .methodref 18 26), (0, .nameAndType 27 28), (0, u "get"), (0, u "(J)Lcom/example/rotunda/rotunda/BookSide$Level;"), (0, .class_ 30), (0, u "com/example/rotunda/rotunda/LevelTreeGetPinLaw"), (2, u "law"), (0, u "(JJJJJI)Z")] 7

def k1m0 : Method := { name := "<init>", desc := "()V", sig := { parameters := [], returnType := none }, accessFlags := 1, code := none }
def k1c1 : Code := { maxStack := 4, maxLocals := 26, code := code, exceptionTable := #[], attributes := #[] }
def k1m1 : Method := { name := "law", desc := "(JJJJJI)Z", sig := { parameters := [.long, .long, .long, .long, .long, .int], returnType := some .boolean }, accessFlags := 9, code := some k1c1 }
/-- com/example/rotunda/rotunda/LevelTreeGetPinLaw -/
def k1 : Class := { plain "com/example/rotunda/rotunda/LevelTreeGetPinLaw" (some 0) with
  accessFlags := 49
  interfaces := #[]
  cf := some (fileOf pool1 29 #[] #[{ accessFlags := 1, nameIndex := 5, descriptorIndex := 6, attributes := #[] }, { accessFlags := 9, nameIndex := 33, descriptorIndex := 34, attributes := #[] }] 49 2 #[] #[])
  fields := #[]
  methods := #[k1m0, k1m1]
  instanceTypes := #[]
  staticTypes := #[]
  resolved := Array.replicate 42 none
  statics := none }

def pool2 : Array CpInfo := pool [(1, .methodref 2 3), (0, .class_ 4), (0, .nameAndType 5 6), (0, u "java/lang/Object"), (0, u "<init>"), (0, u "()V"), (0, .fieldref 8 9), (0, .class_ 10), (0, .nameAndType 11 12), (0, u "com/example/rotunda/rotunda/BookSide$Level"), (0, u "price"), (0, u "J"), (8, u "last"), (0, u "Lcom/example/rotunda/rotunda/Order;"), (5, u "first"), (5, u "quantity"), (3, u "(J)V"), (9, .class_ 49), (0, u "com/example/rotunda/rotunda/BookSide")] 2

def k2c0 : Code := { maxStack := 3, maxLocals := 3, code := prog_7_method_1_code, exceptionTable := #[], attributes := #[] }
def k2m0 : Method := { name := "<init>", desc := "(J)V", sig := { parameters := [.long], returnType := none }, accessFlags := 0, code := some k2c0 }
/-- com/example/rotunda/rotunda/BookSide$Level -/
def k2 : Class := { plain "com/example/rotunda/rotunda/BookSide$Level" (some 0) with
  accessFlags := 48
  interfaces := #[]
  cf := some (fileOf pool2 8 #[.nestHost 48] #[{ accessFlags := 0, nameIndex := 5, descriptorIndex := 38, attributes := #[] }] 48 2 #[] #[{ accessFlags := 0, nameIndex := 11, descriptorIndex := 12, attributes := #[] }, { accessFlags := 0, nameIndex := 34, descriptorIndex := 12, attributes := #[] }, { accessFlags := 0, nameIndex := 28, descriptorIndex := 22, attributes := #[] }, { accessFlags := 0, nameIndex := 21, descriptorIndex := 22, attributes := #[] }])
  fields := #[{ name := "price", type := .long, accessFlags := 0, slot := 0, constantValue := 0 }, { name := "quantity", type := .long, accessFlags := 0, slot := 1, constantValue := 0 }, { name := "first", type := (.object "com/example/rotunda/rotunda/Order"), accessFlags := 0, slot := 2, constantValue := 0 }, { name := "last", type := (.object "com/example/rotunda/rotunda/Order"), accessFlags := 0, slot := 3, constantValue := 0 }]
  methods := #[k2m0]
  instanceTypes := #[.long, .long, (.object "com/example/rotunda/rotunda/Order"), (.object "com/example/rotunda/rotunda/Order")]
  staticTypes := #[]
  resolved := Array.replicate 52 none
  statics := none }

def pool3 : Array CpInfo := pool [(1, .methodref 2 3), (0, .class_ 4), (0, .nameAndType 5 6), (0, u "java/lang/Object"), (0, u "<init>"), (0, u "()V"), (0, .fieldref 8 9), (0, .class_ 10), (0, .nameAndType 11 12), (0, u "com/example/rotunda/rotunda/LevelTree"), (0, u "size"), (0, u "I"), (0, .fieldref 8 14), (0, .nameAndType 15 16), (0, u "root"), (0, u "Lcom/example/rotunda/rotunda/LevelTree$Node;"), (0, .fieldref 18 19), (0, .class_ 20), (0, .nameAndType 21 22), (0, u "com/example/rotunda/rotunda/LevelTree$Node"), (0, u "key"), (0, u "J"), (0, .fieldref 18 24), (0, .nameAndType 25 16), (0, u "left"), (0, .fieldref 18 27), (0, .nameAndType 28 16), (0, u "right"), (0, .fieldref 18 30), (0, .nameAndType 31 32), (0, u "level"), (0, u "Lcom/example/rotunda/rotunda/BookSide$Level;"), (0, .methodref 8 34), (0, .nameAndType 35 36), (0, u "put"), (0, u "(Lcom/example/rotunda/rotunda/LevelTree$Node;JLcom/example/rotunda/rotunda/BookSide$Level;)Lcom/example/rotunda/rotunda/LevelTree$Node;"), (7, u "(Lcom/example/rotunda/rotunda/LevelTree$Node;)Lcom/example/rotunda/rotunda/LevelTree$Node;"), (0, .fieldref 18 46), (0, .nameAndType 47 22), (0, u "quantity"), (2, u "quantityOf"), (0, u "(Lcom/example/rotunda/rotunda/LevelTree$Node;)J"), (3, .class_ 56), (0, u "com/example/rotunda/rotunda/LevelTree$BestFirst"), (3, .methodref 18 61), (0, .nameAndType 5 62), (0, u "(JLcom/example/rotunda/rotunda/BookSide$Level;)V"), (0, .methodref 8 64), (0, .nameAndType 65 44), (0, u "balanced"), (0, .methodref 8 67), (0, .nameAndType 68 69), (0, u "heightOf"), (0, u "(Lcom/example/rotunda/rotunda/LevelTree$Node;)I"), (0, .methodref 8 71), (0, .nameAndType 72 44), (0, u "withRightOnTop"), (0, .methodref 8 74), (0, .nameAndType 75 44), (0, u "withLeftOnTop"), (0, .methodref 18 77), (0, .nameAndType 78 6), (0, u "measure"), (0, .fieldref 18 80), (0, .nameAndType 81 12), (0, u "height"), (6, u "get"), (0, u "(J)Lcom/example/rotunda/rotunda/BookSide$Level;")] 19

def k3c0 : Code := { maxStack := 1, maxLocals := 1, code := prog_29_method_1_code, exceptionTable := #[], attributes := #[] }
def k3m0 : Method := { name := "<init>", desc := "()V", sig := { parameters := [], returnType := none }, accessFlags := 0, code := some k3c0 }
def k3c1 : Code := { maxStack := 4, maxLocals := 4, code := prog_29_method_4_code, exceptionTable := #[], attributes := #[] }
def k3m1 : Method := { name := "get", desc := "(J)Lcom/example/rotunda/rotunda/BookSide$Level;", sig := { parameters := [.long], returnType := some (.object "com/example/rotunda/rotunda/BookSide$Level") }, accessFlags := 0, code := some k3c1 }
def k3c2 : Code := { maxStack := 5, maxLocals := 4, code := prog_29_method_5_code, exceptionTable := #[], attributes := #[] }
def k3m2 : Method := { name := "put", desc := "(JLcom/example/rotunda/rotunda/BookSide$Level;)V", sig := { parameters := [.long, (.object "com/example/rotunda/rotunda/BookSide$Level")], returnType := none }, accessFlags := 0, code := some k3c2 }
def k3c3 : Code := { maxStack := 5, maxLocals := 4, code := prog_29_method_11_code, exceptionTable := #[], attributes := #[] }
def k3m3 : Method := { name := "put", desc := "(Lcom/example/rotunda/rotunda/LevelTree$Node;JLcom/example/rotunda/rotunda/BookSide$Level;)Lcom/example/rotunda/rotunda/LevelTree$Node;", sig := { parameters := [(.object "com/example/rotunda/rotunda/LevelTree$Node"), .long, (.object "com/example/rotunda/rotunda/BookSide$Level")], returnType := some (.object "com/example/rotunda/rotunda/LevelTree$Node") }, accessFlags := 10, code := some k3c3 }
def k3c4 : Code := { maxStack := 2, maxLocals := 3, code := prog_29_method_14_code, exceptionTable := #[], attributes := #[] }
def k3m4 : Method := { name := "balanced", desc := "(Lcom/example/rotunda/rotunda/LevelTree$Node;)Lcom/example/rotunda/rotunda/LevelTree$Node;", sig := { parameters := [(.object "com/example/rotunda/rotunda/LevelTree$Node")], returnType := some (.object "com/example/rotunda/rotunda/LevelTree$Node") }, accessFlags := 10, code := some k3c4 }
def k3c5 : Code := { maxStack := 2, maxLocals := 2, code := prog_29_method_15_code, exceptionTable := #[], attributes := #[] }
def k3m5 : Method := { name := "withLeftOnTop", desc := "(Lcom/example/rotunda/rotunda/LevelTree$Node;)Lcom/example/rotunda/rotunda/LevelTree$Node;", sig := { parameters := [(.object "com/example/rotunda/rotunda/LevelTree$Node")], returnType := some (.object "com/example/rotunda/rotunda/LevelTree$Node") }, accessFlags := 10, code := some k3c5 }
def k3c6 : Code := { maxStack := 2, maxLocals := 2, code := prog_29_method_16_code, exceptionTable := #[], attributes := #[] }
def k3m6 : Method := { name := "withRightOnTop", desc := "(Lcom/example/rotunda/rotunda/LevelTree$Node;)Lcom/example/rotunda/rotunda/LevelTree$Node;", sig := { parameters := [(.object "com/example/rotunda/rotunda/LevelTree$Node")], returnType := some (.object "com/example/rotunda/rotunda/LevelTree$Node") }, accessFlags := 10, code := some k3c6 }
def k3c7 : Code := { maxStack := 1, maxLocals := 1, code := prog_29_method_17_code, exceptionTable := #[], attributes := #[] }
def k3m7 : Method := { name := "heightOf", desc := "(Lcom/example/rotunda/rotunda/LevelTree$Node;)I", sig := { parameters := [(.object "com/example/rotunda/rotunda/LevelTree$Node")], returnType := some .int }, accessFlags := 10, code := some k3c7 }
def k3c8 : Code := { maxStack := 2, maxLocals := 1, code := prog_29_method_18_code, exceptionTable := #[], attributes := #[] }
def k3m8 : Method := { name := "quantityOf", desc := "(Lcom/example/rotunda/rotunda/LevelTree$Node;)J", sig := { parameters := [(.object "com/example/rotunda/rotunda/LevelTree$Node")], returnType := some .long }, accessFlags := 10, code := some k3c8 }
/-- com/example/rotunda/rotunda/LevelTree -/
def k3 : Class := { plain "com/example/rotunda/rotunda/LevelTree" (some 0) with
  accessFlags := 48
  interfaces := #[]
  cf := some (fileOf pool3 8 #[.nestMembers #[55, 18]] #[{ accessFlags := 0, nameIndex := 5, descriptorIndex := 6, attributes := #[] }, { accessFlags := 0, nameIndex := 88, descriptorIndex := 89, attributes := #[] }, { accessFlags := 0, nameIndex := 35, descriptorIndex := 62, attributes := #[] }, { accessFlags := 10, nameIndex := 35, descriptorIndex := 36, attributes := #[] }, { accessFlags := 10, nameIndex := 65, descriptorIndex := 44, attributes := #[] }, { accessFlags := 10, nameIndex := 75, descriptorIndex := 44, attributes := #[] }, { accessFlags := 10, nameIndex := 72, descriptorIndex := 44, attributes := #[] }, { accessFlags := 10, nameIndex := 68, descriptorIndex := 69, attributes := #[] }, { accessFlags := 10, nameIndex := 50, descriptorIndex := 51, attributes := #[] }] 48 2 #[] #[{ accessFlags := 2, nameIndex := 15, descriptorIndex := 16, attributes := #[] }, { accessFlags := 2, nameIndex := 11, descriptorIndex := 12, attributes := #[] }])
  fields := #[{ name := "root", type := (.object "com/example/rotunda/rotunda/LevelTree$Node"), accessFlags := 2, slot := 0, constantValue := 0 }, { name := "size", type := .int, accessFlags := 2, slot := 1, constantValue := 0 }]
  methods := #[k3m0, k3m1, k3m2, k3m3, k3m4, k3m5, k3m6, k3m7, k3m8]
  instanceTypes := #[(.object "com/example/rotunda/rotunda/LevelTree$Node"), .int]
  staticTypes := #[]
  resolved := Array.replicate 109 none
  statics := none }

def pool4 : Array CpInfo := pool [(1, .methodref 2 3), (0, .class_ 4), (0, .nameAndType 5 6), (0, u "java/lang/Object"), (0, u "<init>"), (0, u "()V"), (0, .fieldref 8 9), (0, .class_ 10), (0, .nameAndType 11 12), (0, u "com/example/rotunda/rotunda/LevelTree$Node"), (0, u "height"), (0, u "I"), (0, .fieldref 8 14), (0, .nameAndType 15 16), (0, u "key"), (0, u "J"), (0, .fieldref 8 18), (0, .nameAndType 19 20), (0, u "level"), (0, u "Lcom/example/rotunda/rotunda/BookSide$Level;"), (0, .fieldref 22 23), (0, .class_ 24), (0, .nameAndType 25 16), (0, u "com/example/rotunda/rotunda/BookSide$Level"), (0, u "quantity"), (0, .fieldref 8 23), (0, .fieldref 8 28), (0, .nameAndType 29 30), (0, u "left"), (0, u "Lcom/example/rotunda/rotunda/LevelTree$Node;"), (0, .methodref 32 33), (0, .class_ 34), (0, .nameAndType 35 36), (0, u "com/example/rotunda/rotunda/LevelTree"), (0, u "heightOf"), (0, u "(Lcom/example/rotunda/rotunda/LevelTree$Node;)I"), (0, .fieldref 8 38), (0, .nameAndType 39 30), (0, u "right"), (0, .methodref 41 42), (0, .class_ 43), (0, .nameAndType 44 45), (0, u "java/lang/Math"), (0, u "max"), (0, u "(II)I"), (0, .methodref 32 47), (0, .nameAndType 48 49), (0, u "quantityOf"), (0, u "(Lcom/example/rotunda/rotunda/LevelTree$Node;)J"), (0, u "(JLcom/example/rotunda/rotunda/BookSide$Level;)V"), (2, u "measure")] 8

def k4c0 : Code := { maxStack := 3, maxLocals := 4, code := prog_31_method_1_code, exceptionTable := #[], attributes := #[] }
def k4m0 : Method := { name := "<init>", desc := "(JLcom/example/rotunda/rotunda/BookSide$Level;)V", sig := { parameters := [.long, (.object "com/example/rotunda/rotunda/BookSide$Level")], returnType := none }, accessFlags := 0, code := some k4c0 }
def k4c1 : Code := { maxStack := 5, maxLocals := 1, code := prog_31_method_2_code, exceptionTable := #[], attributes := #[] }
def k4m1 : Method := { name := "measure", desc := "()V", sig := { parameters := [], returnType := none }, accessFlags := 0, code := some k4c1 }
/-- com/example/rotunda/rotunda/LevelTree$Node -/
def k4 : Class := { plain "com/example/rotunda/rotunda/LevelTree$Node" (some 0) with
  accessFlags := 48
  interfaces := #[]
  cf := some (fileOf pool4 8 #[.nestHost 32] #[{ accessFlags := 0, nameIndex := 5, descriptorIndex := 50, attributes := #[] }, { accessFlags := 0, nameIndex := 53, descriptorIndex := 6, attributes := #[] }] 48 2 #[] #[{ accessFlags := 16, nameIndex := 15, descriptorIndex := 16, attributes := #[] }, { accessFlags := 16, nameIndex := 19, descriptorIndex := 20, attributes := #[] }, { accessFlags := 0, nameIndex := 29, descriptorIndex := 30, attributes := #[] }, { accessFlags := 0, nameIndex := 39, descriptorIndex := 30, attributes := #[] }, { accessFlags := 0, nameIndex := 11, descriptorIndex := 12, attributes := #[] }, { accessFlags := 0, nameIndex := 25, descriptorIndex := 16, attributes := #[] }])
  fields := #[{ name := "key", type := .long, accessFlags := 16, slot := 0, constantValue := 0 }, { name := "level", type := (.object "com/example/rotunda/rotunda/BookSide$Level"), accessFlags := 16, slot := 1, constantValue := 0 }, { name := "left", type := (.object "com/example/rotunda/rotunda/LevelTree$Node"), accessFlags := 0, slot := 2, constantValue := 0 }, { name := "right", type := (.object "com/example/rotunda/rotunda/LevelTree$Node"), accessFlags := 0, slot := 3, constantValue := 0 }, { name := "height", type := .int, accessFlags := 0, slot := 4, constantValue := 0 }, { name := "quantity", type := .long, accessFlags := 0, slot := 5, constantValue := 0 }]
  methods := #[k4m0, k4m1]
  instanceTypes := #[.long, (.object "com/example/rotunda/rotunda/BookSide$Level"), (.object "com/example/rotunda/rotunda/LevelTree$Node"), (.object "com/example/rotunda/rotunda/LevelTree$Node"), .int, .long]
  staticTypes := #[]
  resolved := Array.replicate 62 none
  statics := none }

def pool5 : Array CpInfo := pool [(1, .class_ 2), (0, u "java/lang/Math"), (1, .class_ 6), (1, u "java/lang/Object"), (0, u "<init>"), (0, u "()V"), (89, .class_ 100), (1, u "java/lang/Math$RandomNumberGeneratorHolder"), (71, u "negativeZeroFloatBits"), (0, u "J"), (2, u "negativeZeroDoubleBits"), (21, u "max"), (46, u "$assertionsDisabled"), (0, u "Z"), (88, u "(II)I"), (2, u "twoToTheDoubleScaleDown"), (0, u "D"), (4, u "twoToTheDoubleScaleUp"), (9, u "E"), (3, u "PI"), (2, u "TAU"), (2, u "DEGREES_TO_RADIANS"), (0, u "RADIANS_TO_DEGREES")] 94

def k5m0 : Method := { name := "<init>", desc := "()V", sig := { parameters := [], returnType := none }, accessFlags := 2, code := none }
def k5c1 : Code := { maxStack := 2, maxLocals := 2, code := jdk_29_method_65_code, exceptionTable := #[], attributes := #[] }
def k5m1 : Method := { name := "max", desc := "(II)I", sig := { parameters := [.int, .int], returnType := some .int }, accessFlags := 9, code := some k5c1 }
/-- java/lang/Math -/
def k5 : Class := { plain "java/lang/Math" (some 0) with
  accessFlags := 49
  interfaces := #[]
  cf := some (fileOf pool5 1 #[.nestMembers #[98]] #[{ accessFlags := 2, nameIndex := 7, descriptorIndex := 8, attributes := #[] }, { accessFlags := 9, nameIndex := 198, descriptorIndex := 335, attributes := #[] }] 49 4 #[] #[{ accessFlags := 25, nameIndex := 354, descriptorIndex := 339, attributes := #[] }, { accessFlags := 25, nameIndex := 358, descriptorIndex := 339, attributes := #[] }, { accessFlags := 25, nameIndex := 361, descriptorIndex := 339, attributes := #[] }, { accessFlags := 26, nameIndex := 364, descriptorIndex := 339, attributes := #[] }, { accessFlags := 26, nameIndex := 365, descriptorIndex := 339, attributes := #[] }, { accessFlags := 26, nameIndex := 172, descriptorIndex := 173, attributes := #[] }, { accessFlags := 26, nameIndex := 176, descriptorIndex := 173, attributes := #[] }, { accessFlags := 8, nameIndex := 344, descriptorIndex := 339, attributes := #[] }, { accessFlags := 8, nameIndex := 338, descriptorIndex := 339, attributes := #[] }, { accessFlags := 4120, nameIndex := 245, descriptorIndex := 246, attributes := #[] }])
  fields := #[{ name := "E", type := .double, accessFlags := 25, slot := 0, constantValue := 0 }, { name := "PI", type := .double, accessFlags := 25, slot := 1, constantValue := 0 }, { name := "TAU", type := .double, accessFlags := 25, slot := 2, constantValue := 0 }, { name := "DEGREES_TO_RADIANS", type := .double, accessFlags := 26, slot := 3, constantValue := 0 }, { name := "RADIANS_TO_DEGREES", type := .double, accessFlags := 26, slot := 4, constantValue := 0 }, { name := "negativeZeroFloatBits", type := .long, accessFlags := 26, slot := 5, constantValue := 0 }, { name := "negativeZeroDoubleBits", type := .long, accessFlags := 26, slot := 6, constantValue := 0 }, { name := "twoToTheDoubleScaleUp", type := .double, accessFlags := 8, slot := 7, constantValue := 0 }, { name := "twoToTheDoubleScaleDown", type := .double, accessFlags := 8, slot := 8, constantValue := 0 }, { name := "$assertionsDisabled", type := .boolean, accessFlags := 4120, slot := 9, constantValue := 0 }]
  methods := #[k5m0, k5m1]
  instanceTypes := #[]
  staticTypes := #[.double, .double, .double, .double, .double, .long, .long, .double, .double, .boolean]
  resolved := Array.replicate 460 none
  statics := none }

def pool6 : Array CpInfo := pool [(1, u "java/lang/Cloneable"), (0, .class_ 1), (0, u "java/lang/Object"), (0, .class_ 3)] 3

/-- java/lang/Cloneable -/
def k6 : Class := { plain "java/lang/Cloneable" (some 0) with
  accessFlags := 1537
  interfaces := #[]
  cf := some (fileOf pool6 2 #[] #[] 1537 4 #[] #[])
  fields := #[]
  methods := #[]
  instanceTypes := #[]
  staticTypes := #[]
  resolved := Array.replicate 8 none
  statics := none }

def pool7 : Array CpInfo := pool [(1, u "java/io/Serializable"), (0, .class_ 1), (0, u "java/lang/Object"), (0, .class_ 3)] 3

/-- java/io/Serializable -/
def k7 : Class := { plain "java/io/Serializable" (some 0) with
  accessFlags := 1537
  interfaces := #[]
  cf := some (fileOf pool7 2 #[] #[] 1537 4 #[] #[])
  fields := #[]
  methods := #[]
  instanceTypes := #[]
  staticTypes := #[]
  resolved := Array.replicate 8 none
  statics := none }

/-- the primitive byte -/
def k8 : Class := { plain "byte" none with kind := .primitive 'B', accessFlags := 0x411 }
/-- [B -/
def k9 : Class := { plain "[B" (some 0) with kind := .array 8 .byte, interfaces := #[6, 7], accessFlags := 1041 }

/-- the primitive int -/
def k10 : Class := { plain "int" none with kind := .primitive 'I', accessFlags := 0x411 }
/-- [I -/
def k11 : Class := { plain "[I" (some 0) with kind := .array 10 .int, interfaces := #[6, 7], accessFlags := 1041 }

def heap : Heap := #[]
def classes : Array Class := #[k0, k1, k2, k3, k4, k5, k6, k7, k8, k9, k10, k11]
def interned : List (Array UInt16 × Addr) := []
def slotsUsed : Nat := 0
def theMethod : MethodId := ⟨1, 1⟩
def args0 : Array Value := #[.long 5, .long 7, .long 2, .long 9, .long 11, .int 34]
def aboutOver (below : List Frame) : State where
  vm := { classes := classes, interned := interned.toArray }
  heap := heap
  slotsUsed := slotsUsed
  threads := #[{ frames := .invoking theMethod args0 :: below }]
def below0 : List Frame := [.native { method := ⟨0, 0⟩, args := #[] }]
def about1 : State := aboutOver below0
def p0 : Program := .bare "" "" ""
def e0 : Env := launch0.env 0 0 0
theorem w_frames : about1.frames = Frame.invoking theMethod args0 :: below0 := rfl
set_option maxRecDepth 65536 in
theorem w_args : argsFit about1.vm theMethod args0 = true := by decide +kernel
set_option maxRecDepth 65536 in
theorem w_heap : heapFits about1 = true := by decide +kernel
set_option maxRecDepth 65536 in
theorem w_runnable : about1.curStatus? = some .runnable := by decide +kernel
set_option maxRecDepth 65536 in
theorem w_alone : about1.alone = true := by decide +kernel
set_option maxRecDepth 65536 in
theorem w_named : about1.methodNamed? x = some theMethod := by decide +kernel
set_option maxRecDepth 65536 in
theorem w_hears : about1.hears theMethod below0 = true := by decide +kernel
set_option maxRecDepth 65536 in
theorem w_ripe : about1.ripe theMethod args0 below0 = true := by decide +kernel
theorem w_running : about1.status = .running := rfl
set_option maxRecDepth 65536 in
theorem w_room : about1.hasRoom e0.platform room_1 = true :=
  launch0.hasRoom_least _ room_1 (by decide +kernel) (by decide +kernel) (by decide +kernel) (by decide +kernel) (by decide +kernel) (by decide +kernel)
theorem allAtoms_all (ts : List Jvm.Cond) (a : Array Jvm.Value) (st : Jvm.State) : (allAtoms ts).before a st = ts.all (fun c => c.before a st) := by
  induction ts with
  | nil => rfl
  | cons c t ih =>
    show (Jvm.Cond.and c (allAtoms t)).before a st = _
    rw [Jvm.Cond.before_and, ih, List.all_cons]
def words1 : List Jvm.Cond := Jvm.Cond.code x code maxLocals ret :: tables_1
/-- a 'code' word, met by the world's own term for the bytes: nothing is compared byte by byte -/
theorem code_word {y : MethodName} {bytes : ByteArray} {mx : Nat} {rt : Option FieldType} {a : Array Value} {s : State} {m : MethodId} {meth : Method} {c : Code} (h1 : s.methodNamed? y = some m) (h2 : s.vm.method? m = some meth) (h3 : meth.code = some c) (h4 : c.code = bytes)
    (h5 : (c.maxLocals == mx && c.exceptionTable.isEmpty && decide (c.maxStack ≤ mostOperands) && decide (meth.sig.returnType = rt) && !meth.locks && decide (parseMethodDescriptor y.desc = some meth.sig)) = true) : (Jvm.Cond.code y bytes mx rt).before a s = true := by
  simp only [Bool.and_eq_true, beq_iff_eq, Bool.not_eq_true', decide_eq_true_eq] at h5
  obtain ⟨⟨⟨⟨⟨g1, g2⟩, g3⟩, g4⟩, g5⟩, g6⟩ := h5
  simp [Cond.before, Cond.holds, Cond.value, h1, h2, h3, h4, g1, g2, g3, g4, g5, g6]
def isCode : Jvm.Cond → Bool
  | .code _ _ _ _ => true
  | _ => false
theorem all_split {L : List Jvm.Cond} {P : Jvm.Cond → Bool} (h1 : L.all (fun c => isCode c || P c) = true) (h2 : ∀ c ∈ L.filter isCode, P c = true) : L.all P = true := by
  refine List.all_eq_true.mpr fun c hc => ?_
  have h := List.all_eq_true.mp h1 c hc
  rcases Bool.eq_false_or_eq_true (isCode c) with hi | hi
  · exact h2 c (List.mem_filter.mpr ⟨hc, hi⟩)
  · simpa [hi] using h
set_option maxRecDepth 65536 in
theorem w_c0 : (Jvm.Cond.code x code maxLocals ret).before args0 about1 = true := code_word (m := ⟨1, 1⟩) (meth := k1m1) (c := k1c1) (by decide +kernel) rfl rfl rfl (by decide +kernel)
set_option maxRecDepth 65536 in
theorem w_c1 : (Jvm.Cond.code ({ cls := "com/example/rotunda/rotunda/BookSide$Level", name := "<init>", desc := "(J)V" } : Jvm.MethodName) prog_7_method_1_code (3 : Nat) (Option.none : Option Jvm.ClassFile.FieldType)).before args0 about1 = true := code_word (m := ⟨2, 0⟩) (meth := k2m0) (c := k2c0) (by decide +kernel) rfl rfl rfl (by decide +kernel)
set_option maxRecDepth 65536 in
theorem w_c2 : (Jvm.Cond.code ({ cls := "java/lang/Object", name := "<init>", desc := "()V" } : Jvm.MethodName) object_method_1_code (1 : Nat) (Option.none : Option Jvm.ClassFile.FieldType)).before args0 about1 = true := code_word (m := ⟨0, 0⟩) (meth := k0m0) (c := k0c0) (by decide +kernel) rfl rfl rfl (by decide +kernel)
set_option maxRecDepth 65536 in
theorem w_c3 : (Jvm.Cond.code ({ cls := "com/example/rotunda/rotunda/LevelTree", name := "<init>", desc := "()V" } : Jvm.MethodName) prog_29_method_1_code (1 : Nat) (Option.none : Option Jvm.ClassFile.FieldType)).before args0 about1 = true := code_word (m := ⟨3, 0⟩) (meth := k3m0) (c := k3c0) (by decide +kernel) rfl rfl rfl (by decide +kernel)
set_option maxRecDepth 65536 in
theorem w_c4 : (Jvm.Cond.code ({ cls := "com/example/rotunda/rotunda/LevelTree", name := "get", desc := "(J)Lcom/example/rotunda/rotunda/BookSide$Level;" } : Jvm.MethodName) prog_29_method_4_code (4 : Nat) (Option.some (Jvm.ClassFile.FieldType.object "com/example/rotunda/rotunda/BookSide$Level"))).before args0 about1 = true := code_word (m := ⟨3, 1⟩) (meth := k3m1) (c := k3c1) (by decide +kernel) rfl rfl rfl (by decide +kernel)
set_option maxRecDepth 65536 in
theorem w_c5 : (Jvm.Cond.code ({ cls := "com/example/rotunda/rotunda/LevelTree", name := "put", desc := "(JLcom/example/rotunda/rotunda/BookSide$Level;)V" } : Jvm.MethodName) prog_29_method_5_code (4 : Nat) (Option.none : Option Jvm.ClassFile.FieldType)).before args0 about1 = true := code_word (m := ⟨3, 2⟩) (meth := k3m2) (c := k3c2) (by decide +kernel) rfl rfl rfl (by decide +kernel)
set_option maxRecDepth 65536 in
theorem w_c6 : (Jvm.Cond.code ({ cls := "com/example/rotunda/rotunda/LevelTree", name := "put", desc := "(Lcom/example/rotunda/rotunda/LevelTree$Node;JLcom/example/rotunda/rotunda/BookSide$Level;)Lcom/example/rotunda/rotunda/LevelTree$Node;" } : Jvm.MethodName) prog_29_method_11_code (4 : Nat) (Option.some (Jvm.ClassFile.FieldType.object "com/example/rotunda/rotunda/LevelTree$Node"))).before args0 about1 = true := code_word (m := ⟨3, 3⟩) (meth := k3m3) (c := k3c3) (by decide +kernel) rfl rfl rfl (by decide +kernel)
set_option maxRecDepth 65536 in
theorem w_c7 : (Jvm.Cond.code ({ cls := "com/example/rotunda/rotunda/LevelTree$Node", name := "<init>", desc := "(JLcom/example/rotunda/rotunda/BookSide$Level;)V" } : Jvm.MethodName) prog_31_method_1_code (4 : Nat) (Option.none : Option Jvm.ClassFile.FieldType)).before args0 about1 = true := code_word (m := ⟨4, 0⟩) (meth := k4m0) (c := k4c0) (by decide +kernel) rfl rfl rfl (by decide +kernel)
set_option maxRecDepth 65536 in
theorem w_c8 : (Jvm.Cond.code ({ cls := "com/example/rotunda/rotunda/LevelTree", name := "balanced", desc := "(Lcom/example/rotunda/rotunda/LevelTree$Node;)Lcom/example/rotunda/rotunda/LevelTree$Node;" } : Jvm.MethodName) prog_29_method_14_code (3 : Nat) (Option.some (Jvm.ClassFile.FieldType.object "com/example/rotunda/rotunda/LevelTree$Node"))).before args0 about1 = true := code_word (m := ⟨3, 4⟩) (meth := k3m4) (c := k3c4) (by decide +kernel) rfl rfl rfl (by decide +kernel)
set_option maxRecDepth 65536 in
theorem w_c9 : (Jvm.Cond.code ({ cls := "com/example/rotunda/rotunda/LevelTree", name := "heightOf", desc := "(Lcom/example/rotunda/rotunda/LevelTree$Node;)I" } : Jvm.MethodName) prog_29_method_17_code (1 : Nat) (Option.some Jvm.ClassFile.FieldType.int)).before args0 about1 = true := code_word (m := ⟨3, 7⟩) (meth := k3m7) (c := k3c7) (by decide +kernel) rfl rfl rfl (by decide +kernel)
set_option maxRecDepth 65536 in
theorem w_c10 : (Jvm.Cond.code ({ cls := "com/example/rotunda/rotunda/LevelTree$Node", name := "measure", desc := "()V" } : Jvm.MethodName) prog_31_method_2_code (1 : Nat) (Option.none : Option Jvm.ClassFile.FieldType)).before args0 about1 = true := code_word (m := ⟨4, 1⟩) (meth := k4m1) (c := k4c1) (by decide +kernel) rfl rfl rfl (by decide +kernel)
set_option maxRecDepth 65536 in
theorem w_c11 : (Jvm.Cond.code ({ cls := "java/lang/Math", name := "max", desc := "(II)I" } : Jvm.MethodName) jdk_29_method_65_code (2 : Nat) (Option.some Jvm.ClassFile.FieldType.int)).before args0 about1 = true := code_word (m := ⟨5, 1⟩) (meth := k5m1) (c := k5c1) (by decide +kernel) rfl rfl rfl (by decide +kernel)
set_option maxRecDepth 65536 in
theorem w_c12 : (Jvm.Cond.code ({ cls := "com/example/rotunda/rotunda/LevelTree", name := "quantityOf", desc := "(Lcom/example/rotunda/rotunda/LevelTree$Node;)J" } : Jvm.MethodName) prog_29_method_18_code (1 : Nat) (Option.some Jvm.ClassFile.FieldType.long)).before args0 about1 = true := code_word (m := ⟨3, 8⟩) (meth := k3m8) (c := k3c8) (by decide +kernel) rfl rfl rfl (by decide +kernel)
set_option maxRecDepth 65536 in
theorem w_c13 : (Jvm.Cond.code ({ cls := "com/example/rotunda/rotunda/LevelTree", name := "withLeftOnTop", desc := "(Lcom/example/rotunda/rotunda/LevelTree$Node;)Lcom/example/rotunda/rotunda/LevelTree$Node;" } : Jvm.MethodName) prog_29_method_15_code (2 : Nat) (Option.some (Jvm.ClassFile.FieldType.object "com/example/rotunda/rotunda/LevelTree$Node"))).before args0 about1 = true := code_word (m := ⟨3, 5⟩) (meth := k3m5) (c := k3c5) (by decide +kernel) rfl rfl rfl (by decide +kernel)
set_option maxRecDepth 65536 in
theorem w_c14 : (Jvm.Cond.code ({ cls := "com/example/rotunda/rotunda/LevelTree", name := "withRightOnTop", desc := "(Lcom/example/rotunda/rotunda/LevelTree$Node;)Lcom/example/rotunda/rotunda/LevelTree$Node;" } : Jvm.MethodName) prog_29_method_16_code (2 : Nat) (Option.some (Jvm.ClassFile.FieldType.object "com/example/rotunda/rotunda/LevelTree$Node"))).before args0 about1 = true := code_word (m := ⟨3, 6⟩) (meth := k3m6) (c := k3c6) (by decide +kernel) rfl rfl rfl (by decide +kernel)
def codes1 : List Jvm.Cond := [Jvm.Cond.code x code maxLocals ret, Jvm.Cond.code ({ cls := "com/example/rotunda/rotunda/BookSide$Level", name := "<init>", desc := "(J)V" } : Jvm.MethodName) prog_7_method_1_code (3 : Nat) (Option.none : Option Jvm.ClassFile.FieldType), Jvm.Cond.code ({ cls := "java/lang/Object", name := "<init>", desc := "()V" } : Jvm.MethodName) object_method_1_code (1 : Nat) (Option.none : Option Jvm.ClassFile.FieldType), Jvm.Cond.code ({ cls := "com/example/rotunda/rotunda/LevelTree", name := "<init>", desc := "()V" } : Jvm.MethodName) prog_29_method_1_code (1 : Nat) (Option.none : Option Jvm.ClassFile.FieldType), Jvm.Cond.code ({ cls := "com/example/rotunda/rotunda/LevelTree", name := "get", desc := "(J)Lcom/example/rotunda/rotunda/BookSide$Level;" } : Jvm.MethodName) prog_29_method_4_code (4 : Nat) (Option.some (Jvm.ClassFile.FieldType.object "com/example/rotunda/rotunda/BookSide$Level")), Jvm.Cond.code ({ cls := "com/example/rotunda/rotunda/LevelTree", name := "put", desc := "(JLcom/example/rotunda/rotunda/BookSide$Level;)V" } : Jvm.MethodName) prog_29_method_5_code (4 : Nat) (Option.none : Option Jvm.ClassFile.FieldType), Jvm.Cond.code ({ cls := "com/example/rotunda/rotunda/LevelTree", name := "put", desc := "(Lcom/example/rotunda/rotunda/LevelTree$Node;JLcom/example/rotunda/rotunda/BookSide$Level;)Lcom/example/rotunda/rotunda/LevelTree$Node;" } : Jvm.MethodName) prog_29_method_11_code (4 : Nat) (Option.some (Jvm.ClassFile.FieldType.object "com/example/rotunda/rotunda/LevelTree$Node")), Jvm.Cond.code ({ cls := "com/example/rotunda/rotunda/LevelTree$Node", name := "<init>", desc := "(JLcom/example/rotunda/rotunda/BookSide$Level;)V" } : Jvm.MethodName) prog_31_method_1_code (4 : Nat) (Option.none : Option Jvm.ClassFile.FieldType), Jvm.Cond.code ({ cls := "com/example/rotunda/rotunda/LevelTree", name := "balanced", desc := "(Lcom/example/rotunda/rotunda/LevelTree$Node;)Lcom/example/rotunda/rotunda/LevelTree$Node;" } : Jvm.MethodName) prog_29_method_14_code (3 : Nat) (Option.some (Jvm.ClassFile.FieldType.object "com/example/rotunda/rotunda/LevelTree$Node")), Jvm.Cond.code ({ cls := "com/example/rotunda/rotunda/LevelTree", name := "heightOf", desc := "(Lcom/example/rotunda/rotunda/LevelTree$Node;)I" } : Jvm.MethodName) prog_29_method_17_code (1 : Nat) (Option.some Jvm.ClassFile.FieldType.int), Jvm.Cond.code ({ cls := "com/example/rotunda/rotunda/LevelTree$Node", name := "measure", desc := "()V" } : Jvm.MethodName) prog_31_method_2_code (1 : Nat) (Option.none : Option Jvm.ClassFile.FieldType), Jvm.Cond.code ({ cls := "java/lang/Math", name := "max", desc := "(II)I" } : Jvm.MethodName) jdk_29_method_65_code (2 : Nat) (Option.some Jvm.ClassFile.FieldType.int), Jvm.Cond.code ({ cls := "com/example/rotunda/rotunda/LevelTree", name := "quantityOf", desc := "(Lcom/example/rotunda/rotunda/LevelTree$Node;)J" } : Jvm.MethodName) prog_29_method_18_code (1 : Nat) (Option.some Jvm.ClassFile.FieldType.long), Jvm.Cond.code ({ cls := "com/example/rotunda/rotunda/LevelTree", name := "withLeftOnTop", desc := "(Lcom/example/rotunda/rotunda/LevelTree$Node;)Lcom/example/rotunda/rotunda/LevelTree$Node;" } : Jvm.MethodName) prog_29_method_15_code (2 : Nat) (Option.some (Jvm.ClassFile.FieldType.object "com/example/rotunda/rotunda/LevelTree$Node")), Jvm.Cond.code ({ cls := "com/example/rotunda/rotunda/LevelTree", name := "withRightOnTop", desc := "(Lcom/example/rotunda/rotunda/LevelTree$Node;)Lcom/example/rotunda/rotunda/LevelTree$Node;" } : Jvm.MethodName) prog_29_method_16_code (2 : Nat) (Option.some (Jvm.ClassFile.FieldType.object "com/example/rotunda/rotunda/LevelTree$Node"))]
set_option maxRecDepth 65536 in
theorem codes_eq : words1.filter isCode = codes1 := rfl
theorem w_codes : ∀ c ∈ words1.filter isCode, c.before args0 about1 = true := by
  rw [codes_eq]
  intro c hc
  simp only [codes1, List.mem_cons, List.not_mem_nil, or_false] at hc
  rcases hc with rfl | rfl | rfl | rfl | rfl | rfl | rfl | rfl | rfl | rfl | rfl | rfl | rfl | rfl | rfl
  · exact w_c0
  · exact w_c1
  · exact w_c2
  · exact w_c3
  · exact w_c4
  · exact w_c5
  · exact w_c6
  · exact w_c7
  · exact w_c8
  · exact w_c9
  · exact w_c10
  · exact w_c11
  · exact w_c12
  · exact w_c13
  · exact w_c14
set_option maxRecDepth 65536 in
theorem w_t1 : (words1.take 24).all (fun c => isCode c || c.before args0 about1) = true := by decide +kernel
set_option maxRecDepth 65536 in
theorem w_t2 : ((words1.drop 24).take 24).all (fun c => isCode c || c.before args0 about1) = true := by decide +kernel
set_option maxRecDepth 65536 in
theorem w_t3 : (((words1.drop 24).drop 24).take 24).all (fun c => isCode c || c.before args0 about1) = true := by decide +kernel
set_option maxRecDepth 65536 in
theorem w_t4 : (((words1.drop 24).drop 24).drop 24).all (fun c => isCode c || c.before args0 about1) = true := by decide +kernel
theorem w_tables : (allAtoms (Jvm.Cond.code x code maxLocals ret :: tables_1)).before args0 about1 = true := by
  rw [allAtoms_all]
  show words1.all (fun c => c.before args0 about1) = true
  refine all_split ?_ w_codes
  rw [← List.take_append_drop 24 words1, List.all_append, w_t1, ← List.take_append_drop 24 (words1.drop 24), List.all_append, w_t2, ← List.take_append_drop 24 ((words1.drop 24).drop 24), List.all_append, w_t3, w_t4]
  rfl
set_option maxRecDepth 65536 in
theorem w_case : (Jvm.Cond.and given_1 narrow_1).before args0 about1 = true := by decide +kernel
theorem w_applies : (headSpec (Jvm.Cond.code x code maxLocals ret :: tables_1) room_1).applies x e0.platform about1 = true :=
  (Spec.applies_iff w_frames).mpr ⟨w_running, w_runnable, w_alone, w_named, w_hears, w_ripe, w_room, w_tables⟩
theorem atStart : AtStart classFile x code maxLocals ret World_1 tables_1 room_1 Calls_1 rest_1 Pre_1 launch0 p0 e0 about1 theMethod args0 below0 :=
  ⟨lists_1, trivial, launch0.admits_env _ _ _, launch0.least_env, fairChoices_fair.cas, fairChoices_fair.clock, w_frames, w_args, w_heap, w_applies, trivial, trivial, w_case⟩
end start1
theorem witness_1 : WitnessClaimed_1 := ⟨start1.p0, start1.e0, start1.about1, start1.theMethod, start1.args0, start1.below0, start1.atStart⟩
end Jvm.Pilot.@@N@@
