import JvmDerived
import JvmDerived.Pilot.@@N@@Statement
import JvmDerived.Pilot.@@N@@Code
set_option linter.unusedVariables false
set_option linter.unusedSimpArgs false
@@BLOCK:NumsL.lean.txt@@
namespace Jvm.OwnKit
open Sem ClassFile Op Lib Jvm.Stand Jvm.Free Jvm.LawKit Jvm.RoadKit
def Go (tb : Tables) (e : Env) (below : List Frame) (P : State → Outcome → Prop) (S : State) : Prop := ∃ U o, Steps tb e below S U ∧ U.status = .running ∧ Ended U below o ∧ P U o
theorem Go.s {tb : Tables} {e : Env} {below : List Frame} {P : State → Outcome → Prop} {S S' : State} (k : ∀ {t : State}, Steps tb e below S' t → Steps tb e below S t) (f : Go tb e below P S') : Go tb e below P S := by
  obtain ⟨U, o, h1, h2⟩ := f
  exact ⟨U, o, k h1, h2⟩
theorem Go.cast {tb : Tables} {e : Env} {below : List Frame} {P : State → Outcome → Prop} {T : State} {g g' : JFrame} (q : g = g') (f : Go tb e below P (T.setTop g')) : Go tb e below P (T.setTop g) := q ▸ f
/-- the contract of a body, at one heap and one list of arguments -/
def Con (l : Launch) (Z : State) (y : MethodName) (bytes : ByteArray) (maxL : Nat) (ret : Option FieldType) (ws : List Jvm.Cond) (rm : Room) (as' : Array Value) (h : Heap) (Q : Option Value → Heap → List Loc → Prop) : Prop :=
  MetFree l y (head1 (Cond.code y bytes maxL ret :: ws) rm) (fun a U => a = as' ∧ Z.Warmed39 U.vm ∧ U.heap = h) (fun _ _ _ _ _ => True) (fun _ U o U' => ∃ v L, o = .returned v ∧ Q v U'.heap L ∧ FrameEnd U o U' L rm.cells rm.slots)
theorem Con.intro {l : Launch} {Z : State} {y : MethodName} {bytes : ByteArray} {maxL : Nat} {ret : Option FieldType} {ws : List Jvm.Cond} {rm : Room} {as' : Array Value} {h : Heap} {Q : Option Value → Heap → List Loc → Prop} (hpn : plainFor y = true)
    (body : ∀ (p : Program) (e : Env) (s : State) (m : MethodId) (below : List Frame) (meth : Method) (c : Code) (s₁ : State) (P : State → Outcome → Prop), p.tables.exec = Jvm.exec → c.code = bytes → c.maxLocals = maxL → s.vm.findClass y.cls = some m.cls → meth.name = y.name → meth.sig.returnType = ret → meth.locks = false → Z.Warmed39 s.vm →
      Stand p l e rm s m as' below meth c s₁ [] 0 0 → s₁.heap = h → (∀ U v L, Q v U.heap L → FrameEnd s (.returned v) U L rm.cells rm.slots → P U (.returned v)) → Go p.tables e below P (s₁.setTop (entryFrame m as' maxL))) :
    Con l Z y bytes maxL ret ws rm as' h Q := by
  refine MetFree.of_bodySF hpn hisR ?_
  intro p e s m args below meth c s₁ Bd hml0 hP hK
  obtain ⟨rfl, hZ, hh⟩ := hP
  exact body p e s m below meth c s₁ _ Bd.exec Bd.bytes hml0 (findClass_of_methodNamed Bd.named) (name_of_methodNamed Bd.named Bd.method).1 Bd.returns (BodyLoose.notSynchronized Bd) hZ (Stand.of_body Bd) (by rw [← hh, Bd.state]; rfl) fun U v L q f => ⟨v, L, rfl, q, f⟩
theorem Con.mono {l : Launch} {Z : State} {y : MethodName} {bytes : ByteArray} {maxL : Nat} {ret : Option FieldType} {ws : List Jvm.Cond} {rm : Room} {as' : Array Value} {h : Heap} {Q Q' : Option Value → Heap → List Loc → Prop} (C : Con l Z y bytes maxL ret ws rm as' h Q) (q : ∀ v h L, Q v h L → Q' v h L) : Con l Z y bytes maxL ret ws rm as' h Q' := by
  intro p e ha hc hk s m args below hf happ hP hK
  obtain ⟨n, o, h1, h2, h3, v, L, h4, h5, h6⟩ := C p e ha hc hk s m args below hf happ hP hK
  exact ⟨n, o, h1, h2, h3, v, L, h4, q _ _ _ h5, h6⟩
def ConH (l : Launch) (Z : State) (y : MethodName) (bytes : ByteArray) (maxL : Nat) (ret : Option FieldType) (hs : List (Nat × Nat × Nat × Nat)) (ws : List Jvm.Cond) (rm : Room) (as' : Array Value) (h : Heap) (Q : Option Value → Heap → List Loc → Prop) : Prop :=
  MetFree l y (head1 (Cond.codeWith y bytes maxL ret hs :: ws) rm) (fun a U => a = as' ∧ Z.Warmed39 U.vm ∧ U.heap = h) (fun _ _ _ _ _ => True) (fun _ U o U' => ∃ v L, o = .returned v ∧ Q v U'.heap L ∧ FrameEnd U o U' L rm.cells rm.slots)
theorem ConH.intro {l : Launch} {Z : State} {y : MethodName} {bytes : ByteArray} {maxL : Nat} {ret : Option FieldType} {hs : List (Nat × Nat × Nat × Nat)} {ws : List Jvm.Cond} {rm : Room} {as' : Array Value} {h : Heap} {Q : Option Value → Heap → List Loc → Prop} (hpn : plainFor y = true)
    (body : ∀ (p : Program) (e : Env) (s : State) (m : MethodId) (below : List Frame) (meth : Method) (c : Code) (s₁ : State) (P : State → Outcome → Prop), p.tables.exec = Jvm.exec → c.code = bytes → c.maxLocals = maxL → s.vm.findClass y.cls = some m.cls → meth.name = y.name → meth.sig.returnType = ret → meth.locks = false → Z.Warmed39 s.vm →
      Stand p l e rm s m as' below meth c s₁ [] 0 0 → s₁.heap = h → (∀ U v L, Q v U.heap L → FrameEnd s (.returned v) U L rm.cells rm.slots → P U (.returned v)) → Go p.tables e below P (s₁.setTop (entryFrame m as' maxL))) :
    ConH l Z y bytes maxL ret hs ws rm as' h Q := by
  refine MetFree.of_bodySF hpn hisWith ?_
  intro p e s m args below meth c s₁ Bd hml0 hP hK
  obtain ⟨rfl, hZ, hh⟩ := hP
  exact body p e s m below meth c s₁ _ Bd.exec Bd.bytes hml0 (findClass_of_methodNamed Bd.named) (name_of_methodNamed Bd.named Bd.method).1 Bd.returns (BodyLoose.notSynchronized Bd) hZ (Stand.of_body Bd) (by rw [← hh, Bd.state]; rfl) fun U v L q f => ⟨v, L, rfl, q, f⟩
section Walk
variable {p : Program} {l : Launch} {e : Env} {R : Room} {s : State} {m : MethodId} {args : Array Value} {below : List Frame} {meth : Method} {c : Code} {T : State} {locs : List Loc} {cells slots : Nat} {P : State → Outcome → Prop} {Z : State} {a0 : Array Value} {h : Heap}
theorem Go.ret (X : Stand p l e R s m args below meth c T locs cells slots) (hx : p.tables.exec = Jvm.exec) (hlk : meth.locks = false) {pc : Nat} {Ls : Array Slot} {w : Value} {t : FieldType} {i : Instr} {rest : List Value} (hret : meth.sig.returnType = some t) (hn : narrow t w = w)
    (hi : (i = .ireturn ∧ (t = .int ∨ t = .boolean ∨ t = .byte ∨ t = .char ∨ t = .short) ∧ ∃ z, w = .int z) ∨ (i = .lreturn ∧ t = .long ∧ ∃ z, w = .long z) ∨ (i = .dreturn ∧ t = .double ∧ ∃ z, w = .double z) ∨ (i = .freturn ∧ t = .float ∧ ∃ z, w = .float z) ∨ (i = .areturn ∧ t.isReference = true ∧ w.isRef = true))
    (hd : decode c.code pc = .ok (i, 1)) (hP : ∀ U : State, U.heap = T.heap → FrameEnd s (.returned (some w)) U locs cells slots → P U (.returned (some w))) : Go p.tables e below P (T.setTop (mkF m pc Ls (w :: rest))) := by
  obtain ⟨fs, hr, hrun, hended, hW, hsame⟩ := X.leave (v := some w) (fun h => by rw [hret] at h; cases h) hlk
  exact ⟨_, _, retOut X hx hret hn hi hd hr, hrun, hended, hP _ rfl ⟨⟨_, rfl⟩, hW, hsame⟩⟩
theorem Go.retI (X : Stand p l e R s m args below meth c T locs cells slots) (hx : p.tables.exec = Jvm.exec) (hlk : meth.locks = false) {pc : Nat} {Ls : Array Slot} {z : Int32} {rest : List Value} (hret : meth.sig.returnType = some .int)
    (hd : decode c.code pc = .ok (.ireturn, 1)) (hP : ∀ U : State, U.heap = T.heap → FrameEnd s (.returned (some (.int z))) U locs cells slots → P U (.returned (some (.int z)))) : Go p.tables e below P (T.setTop (mkF m pc Ls (.int z :: rest))) :=
  Go.ret X hx hlk hret rfl (Or.inl ⟨rfl, Or.inl rfl, _, rfl⟩) hd hP
theorem Go.retZ (X : Stand p l e R s m args below meth c T locs cells slots) (hx : p.tables.exec = Jvm.exec) (hlk : meth.locks = false) {pc : Nat} {Ls : Array Slot} {z : Int32} {rest : List Value} (hret : meth.sig.returnType = some .boolean) (hz : z = 0 ∨ z = 1)
    (hd : decode c.code pc = .ok (.ireturn, 1)) (hP : ∀ U : State, U.heap = T.heap → FrameEnd s (.returned (some (.int z))) U locs cells slots → P U (.returned (some (.int z)))) : Go p.tables e below P (T.setTop (mkF m pc Ls (.int z :: rest))) :=
  Go.ret X hx hlk hret (by rcases hz with rfl | rfl <;> rfl) (Or.inl ⟨rfl, Or.inr (Or.inl rfl), _, rfl⟩) hd hP
theorem Go.retJ (X : Stand p l e R s m args below meth c T locs cells slots) (hx : p.tables.exec = Jvm.exec) (hlk : meth.locks = false) {pc : Nat} {Ls : Array Slot} {z : Int64} {rest : List Value} (hret : meth.sig.returnType = some .long)
    (hd : decode c.code pc = .ok (.lreturn, 1)) (hP : ∀ U : State, U.heap = T.heap → FrameEnd s (.returned (some (.long z))) U locs cells slots → P U (.returned (some (.long z)))) : Go p.tables e below P (T.setTop (mkF m pc Ls (.long z :: rest))) :=
  Go.ret X hx hlk hret rfl (Or.inr (Or.inl ⟨rfl, rfl, _, rfl⟩)) hd hP
theorem Go.retR (X : Stand p l e R s m args below meth c T locs cells slots) (hx : p.tables.exec = Jvm.exec) (hlk : meth.locks = false) {pc : Nat} {Ls : Array Slot} {w : Value} {t : FieldType} {rest : List Value} (hret : meth.sig.returnType = some t) (ht : t.isReference = true) (hw : w.isRef = true)
    (hd : decode c.code pc = .ok (.areturn, 1)) (hP : ∀ U : State, U.heap = T.heap → FrameEnd s (.returned (some w)) U locs cells slots → P U (.returned (some w))) : Go p.tables e below P (T.setTop (mkF m pc Ls (w :: rest))) :=
  Go.ret X hx hlk hret (by rcases ref_cases hw with rfl | ⟨z, rfl⟩ <;> cases t <;> first | rfl | (cases ht)) (Or.inr (Or.inr (Or.inr (Or.inr ⟨rfl, ht, hw⟩)))) hd hP
theorem Go.retV (X : Stand p l e R s m args below meth c T locs cells slots) (hx : p.tables.exec = Jvm.exec) (hlk : meth.locks = false) {pc : Nat} {Ls : Array Slot} (hret : meth.sig.returnType = none)
    (hd : decode c.code pc = .ok (.return_, 1)) (hP : ∀ U : State, U.heap = T.heap → FrameEnd s (.returned none) U locs cells slots → P U (.returned none)) : Go p.tables e below P (T.setTop (mkF m pc Ls [])) := by
  obtain ⟨fs, hr, hrun, hended, hW, hsame⟩ := X.leave (v := none) (fun _ => rfl) hlk
  exact ⟨_, _, X.returnOut hx hret hd hr, hrun, hended, hP _ rfl ⟨⟨_, rfl⟩, hW, hsame⟩⟩
theorem Con.static {y : MethodName} {bytes : ByteArray} {maxL : Nat} {ret : Option FieldType} {rm : Room} {as' : Array Value} {Q : Option Value → Heap → List Loc → Prop} (C : Con l Z y bytes maxL ret [] rm as' h Q)
    (X : Stand p l e R s m args below meth c T locs cells slots) (hx : p.tables.exec = Jvm.exec) (hZ : Z.Warmed39 s.vm) {own : String} {index W : Nat} (hown : s.vm.findClass own = some m.cls)
    (wl : (Cond.methodLink own index y).before a0 Z = true) (wst : (Cond.static y).before a0 Z = true) (wz : (Cond.initialized y.cls).before a0 Z = true) (wc : (Cond.code y bytes maxL ret).before a0 Z = true)
    (hy : y.cls ≠ "java/lang/invoke/MethodHandle" ∧ y.cls ≠ "java/lang/invoke/VarHandle") (hf : rm.frames + 1 ≤ R.frames) (hl : W + (maxL + 11) + rm.locals ≤ R.locals) (hce : cells + rm.cells ≤ R.cells) (hsl : slots + rm.slots ≤ R.slots) (eT : T.heap = h)
    {g : JFrame} (hg : g.method = m) (hsize : g.locals.size = c.maxLocals) {argsL rest : List Value} (has : argsL.toArray = as') (hlen : ∀ sig, parseMethodDescriptor y.desc = some sig → argsL.length = sig.parameters.length)
    (hstack : g.stack = argsL.reverse ++ rest) (hW : 2 * g.monitorRoom + (rest.map fun v => v.category).sum ≤ W) (hdg : decode c.code g.pc = .ok (.invokestatic index, 3)) :
    ∃ (v : Option Value) (T' : State) (L : List Loc), Stand p l e R s m args below meth c T' (locs ++ L) (cells + rm.cells) (slots + rm.slots) ∧ Q v T'.heap L ∧
      ∀ {t : State}, Steps p.tables e below (T'.setTop { g with pc := g.pc + 3, stack := v.toList ++ rest }) t → Steps p.tables e below (T.setTop g) t := by
  obtain ⟨v, vm₁, ⟨T', L', k', n'⟩, -, X', ⟨L, hQ, e1, e2, e3⟩, st⟩ := Jvm.LawKit.callS X hx hown (mvT hZ wl) (mvT hZ wst) (mvT hZ wz) (mvT hZ wc) hy (backOf (W := W) C hZ wc wz hf hl) hg hsize hlen hstack hW hdg (fun _ _ => ⟨has, eT, hce, hsl⟩)
  dsimp only [Pt.U, Pt.locs, Pt.cells, Pt.slots] at X' e1 e2 e3 st hQ
  subst e1 e2 e3
  exact ⟨v, T', L, X', hQ, fun {t} k => st t k⟩
theorem Con.special {y : MethodName} {bytes : ByteArray} {maxL : Nat} {rm : Room} {as' : Array Value} {Q : Option Value → Heap → List Loc → Prop} (C : Con l Z y bytes maxL none [] rm as' h Q) (hy1 : y.name = "<init>")
    (X : Stand p l e R s m args below meth c T locs cells slots) (hx : p.tables.exec = Jvm.exec) (hZ : Z.Warmed39 s.vm) {own : String} {index W : Nat} (hown : s.vm.findClass own = some m.cls)
    (wl : (Cond.methodLink own index y).before a0 Z = true) (wi : (Cond.instanceMethod y).before a0 Z = true) (wz : (Cond.initialized y.cls).before a0 Z = true) (wc : (Cond.code y bytes maxL none).before a0 Z = true)
    (hy : y.cls ≠ "java/lang/invoke/MethodHandle" ∧ y.cls ≠ "java/lang/invoke/VarHandle") (hf : rm.frames + 1 ≤ R.frames) (hl : W + (maxL + 11) + rm.locals ≤ R.locals) (hce : cells + rm.cells ≤ R.cells) (hsl : slots + rm.slots ≤ R.slots) (eT : T.heap = h)
    {g : JFrame} (hg : g.method = m) (hsize : g.locals.size = c.maxLocals) {a : Addr} {argsL rest : List Value} (has : (Value.ref a :: argsL).toArray = as') (hlen : ∀ sig, parseMethodDescriptor y.desc = some sig → argsL.length = sig.parameters.length)
    (hstack : g.stack = argsL.reverse ++ .ref a :: rest) (hW : 2 * g.monitorRoom + (rest.map fun v => v.category).sum ≤ W) (hdg : decode c.code g.pc = .ok (.invokespecial index, 3)) :
    ∃ (v : Option Value) (T' : State) (L : List Loc), Stand p l e R s m args below meth c T' (locs ++ L) (cells + rm.cells) (slots + rm.slots) ∧ Q v T'.heap L ∧
      ∀ {t : State}, Steps p.tables e below (T'.setTop { g with pc := g.pc + 3, stack := v.toList ++ rest }) t → Steps p.tables e below (T.setTop g) t := by
  obtain ⟨v, vm₁, ⟨T', L', k', n'⟩, -, X', ⟨L, hQ, e1, e2, e3⟩, st⟩ := X.specialBack hx hy1 hown (mvT hZ wl) (mvT hZ wi) (mvT hZ wc) hy (backOf (W := W) C hZ wc wz hf hl) hg hsize (Steps.refl _) hlen hstack hW hdg (fun _ _ => ⟨has, eT, hce, hsl⟩)
  dsimp only [Pt.U, Pt.locs, Pt.cells, Pt.slots] at X' e1 e2 e3 st hQ
  subst e1 e2 e3
  exact ⟨v, T', L, X', hQ, fun {t} k => st.trans k⟩
theorem ConH.special {y : MethodName} {bytes : ByteArray} {maxL : Nat} {rm : Room} {as' : Array Value} {Q : Option Value → Heap → List Loc → Prop} {hs : List (Nat × Nat × Nat × Nat)} (C : ConH l Z y bytes maxL none hs [] rm as' h Q) (hy1 : y.name = "<init>")
    (X : Stand p l e R s m args below meth c T locs cells slots) (hx : p.tables.exec = Jvm.exec) (hZ : Z.Warmed39 s.vm) {own : String} {index W : Nat} (hown : s.vm.findClass own = some m.cls)
    (wl : (Cond.methodLink own index y).before a0 Z = true) (wi : (Cond.instanceMethod y).before a0 Z = true) (wz : (Cond.initialized y.cls).before a0 Z = true) (wc : (Cond.codeWith y bytes maxL none hs).before a0 Z = true)
    (hy : y.cls ≠ "java/lang/invoke/MethodHandle" ∧ y.cls ≠ "java/lang/invoke/VarHandle") (hf : rm.frames + 1 ≤ R.frames) (hl : W + (maxL + 11) + rm.locals ≤ R.locals) (hce : cells + rm.cells ≤ R.cells) (hsl : slots + rm.slots ≤ R.slots) (eT : T.heap = h)
    {g : JFrame} (hg : g.method = m) (hsize : g.locals.size = c.maxLocals) {a : Addr} {argsL rest : List Value} (has : (Value.ref a :: argsL).toArray = as') (hlen : ∀ sig, parseMethodDescriptor y.desc = some sig → argsL.length = sig.parameters.length)
    (hstack : g.stack = argsL.reverse ++ .ref a :: rest) (hW : 2 * g.monitorRoom + (rest.map fun v => v.category).sum ≤ W) (hdg : decode c.code g.pc = .ok (.invokespecial index, 3)) :
    ∃ (v : Option Value) (T' : State) (L : List Loc), Stand p l e R s m args below meth c T' (locs ++ L) (cells + rm.cells) (slots + rm.slots) ∧ Q v T'.heap L ∧
      ∀ {t : State}, Steps p.tables e below (T'.setTop { g with pc := g.pc + 3, stack := v.toList ++ rest }) t → Steps p.tables e below (T.setTop g) t := by
  obtain ⟨v, vm₁, ⟨T', L', k', n'⟩, -, X', ⟨L, hQ, e1, e2, e3⟩, st⟩ := X.specialBackH hx hy1 hown (mvT hZ wl) (mvT hZ wi) (mvT hZ wc) hy (backOfWith (W := W) C hZ wc wz hf hl) hg hsize (Steps.refl _) hlen hstack hW hdg (fun _ _ => ⟨has, eT, hce, hsl⟩)
  dsimp only [Pt.U, Pt.locs, Pt.cells, Pt.slots] at X' e1 e2 e3 st hQ
  subst e1 e2 e3
  exact ⟨v, T', L, X', hQ, fun {t} k => st.trans k⟩
theorem Con.virtual {y : MethodName} {bytes : ByteArray} {maxL : Nat} {ret : Option FieldType} {rm : Room} {as' : Array Value} {Q : Option Value → Heap → List Loc → Prop} (K : Con l Z y bytes maxL ret [] rm as' h Q)
    (X : Stand p l e R s m args below meth c T locs cells slots) (hx : p.tables.exec = Jvm.exec) (hZ : Z.Warmed39 s.vm) {own C : String} {index W : Nat} (hown : s.vm.findClass own = some m.cls)
    (wl : (Cond.methodLink own index y).before a0 Z = true) (wd : (Cond.declares y).before a0 Z = true) (wsel : (Cond.selects C y y).before a0 Z = true) (wi : (Cond.instanceMethod y).before a0 Z = true) (wz : (Cond.initialized y.cls).before a0 Z = true) (wc : (Cond.code y bytes maxL ret).before a0 Z = true)
    (hy : y.cls ≠ "java/lang/invoke/MethodHandle" ∧ y.cls ≠ "java/lang/invoke/VarHandle") (hf : rm.frames + 1 ≤ R.frames) (hl : W + (maxL + 11) + rm.locals ≤ R.locals) (hce : cells + rm.cells ≤ R.cells) (hsl : slots + rm.slots ≤ R.slots) (eT : T.heap = h)
    {g : JFrame} (hg : g.method = m) (hsize : g.locals.size = c.maxLocals) {a : Addr} (E : Exa Z h a C) {argsL rest : List Value} (has : (Value.ref a :: argsL).toArray = as') (hlen : ∀ sig, parseMethodDescriptor y.desc = some sig → argsL.length = sig.parameters.length)
    (hstack : g.stack = argsL.reverse ++ .ref a :: rest) (hW : 2 * g.monitorRoom + (rest.map fun v => v.category).sum ≤ W) (hdg : decode c.code g.pc = .ok (.invokevirtual index, 3)) :
    ∃ (v : Option Value) (T' : State) (L : List Loc), Stand p l e R s m args below meth c T' (locs ++ L) (cells + rm.cells) (slots + rm.slots) ∧ Q v T'.heap L ∧
      ∀ {t : State}, Steps p.tables e below (T'.setTop { g with pc := g.pc + 3, stack := v.toList ++ rest }) t → Steps p.tables e below (T.setTop g) t := by
  obtain ⟨cq, kq, qa, qb, qc⟩ := isOf hZ eT E
  obtain ⟨v, vm₁, ⟨T', L', k', n'⟩, -, X', ⟨L, hQ, e1, e2, e3⟩, st⟩ := X.virtualBack hx hown (mvT hZ wl) (mvT hZ wd) (notFace_of_selects (args := #[]) (mvT hZ wsel)) (mvT hZ wsel) (mvT hZ wi) hy (backOf (W := W) K hZ wc wz hf hl) qa qc hg hsize (Steps.refl _) hlen hstack hW hdg (fun _ _ => ⟨has, eT, hce, hsl⟩)
  dsimp only [Pt.U, Pt.locs, Pt.cells, Pt.slots] at X' e1 e2 e3 st hQ
  subst e1 e2 e3
  exact ⟨v, T', L, X', hQ, fun {t} k => st.trans k⟩
theorem Con.priv {y : MethodName} {bytes : ByteArray} {maxL : Nat} {ret : Option FieldType} {rm : Room} {as' : Array Value} {Q : Option Value → Heap → List Loc → Prop} (K : Con l Z y bytes maxL ret [] rm as' h Q)
    (X : Stand p l e R s m args below meth c T locs cells slots) (hx : p.tables.exec = Jvm.exec) (hZ : Z.Warmed39 s.vm) {own C : String} {index W kk : Nat} (hown : s.vm.findClass own = some m.cls)
    (wl : (Cond.methodLink own index y).before a0 Z = true) (wn : (Cond.instantiable y.cls kk).before a0 Z = true) (wp : (Cond.privateMethod y).before a0 Z = true) (wi : (Cond.instanceMethod y).before a0 Z = true) (wz : (Cond.initialized y.cls).before a0 Z = true) (wc : (Cond.code y bytes maxL ret).before a0 Z = true)
    (hy : y.cls ≠ "java/lang/invoke/MethodHandle" ∧ y.cls ≠ "java/lang/invoke/VarHandle") (hf : rm.frames + 1 ≤ R.frames) (hl : W + (maxL + 11) + rm.locals ≤ R.locals) (hce : cells + rm.cells ≤ R.cells) (hsl : slots + rm.slots ≤ R.slots) (eT : T.heap = h)
    {g : JFrame} (hg : g.method = m) (hsize : g.locals.size = c.maxLocals) {a : Addr} (E : Exa Z h a C) {argsL rest : List Value} (has : (Value.ref a :: argsL).toArray = as') (hlen : ∀ sig, parseMethodDescriptor y.desc = some sig → argsL.length = sig.parameters.length)
    (hstack : g.stack = argsL.reverse ++ .ref a :: rest) (hW : 2 * g.monitorRoom + (rest.map fun v => v.category).sum ≤ W) (hdg : decode c.code g.pc = .ok (.invokevirtual index, 3)) :
    ∃ (v : Option Value) (T' : State) (L : List Loc), Stand p l e R s m args below meth c T' (locs ++ L) (cells + rm.cells) (slots + rm.slots) ∧ Q v T'.heap L ∧
      ∀ {t : State}, Steps p.tables e below (T'.setTop { g with pc := g.pc + 3, stack := v.toList ++ rest }) t → Steps p.tables e below (T.setTop g) t := by
  have hpa : s.PrivateAt y := Cond.privateMethod_at (mvP hZ wp (args := args))
  have win : (Cond.instanceMethod y).before args s = true := mvT hZ wi
  have wnn : (Cond.instantiable y.cls kk).before args s = true := mvT hZ wn
  obtain ⟨ci, ki, i1, i2, i3, i4, -⟩ := Cond.instantiable_spec wnn
  have hni : ki.isInterface = false := (Bool.or_eq_false_iff.mp i4).1
  obtain ⟨cl, hcl, hob⟩ := E.cell
  obtain ⟨v, vm₁, ⟨T', L', k', n'⟩, -, X', ⟨L, hQ, e1, e2, e3⟩, st⟩ := X.privateBack hx hown (mvT hZ wl) win (selects_self_of_private i1 i2 hni hpa win hy) hpa (mvT hZ wc) hy (backOf (W := W) K hZ wc wz hf hl) hg hsize (Steps.refl _) (by rw [eT]; exact hcl) hob hlen hstack hW hdg (fun _ _ => ⟨has, eT, hce, hsl⟩)
  dsimp only [Pt.U, Pt.locs, Pt.cells, Pt.slots] at X' e1 e2 e3 st hQ
  subst e1 e2 e3
  exact ⟨v, T', L, X', hQ, fun {t} k => st.trans k⟩
theorem Con.virtualUp {x z : MethodName} {bytes : ByteArray} {maxL : Nat} {ret : Option FieldType} {rm : Room} {as' : Array Value} {Q : Option Value → Heap → List Loc → Prop} (K : Con l Z z bytes maxL ret [] rm as' h Q)
    (X : Stand p l e R s m args below meth c T locs cells slots) (hx : p.tables.exec = Jvm.exec) (hZ : Z.Warmed39 s.vm) {own C owner : String} {index W : Nat} (hown : s.vm.findClass own = some m.cls)
    (wl : (Cond.methodLink own index x).before a0 Z = true) (wsm : (Cond.sameMethod x.cls owner x.name x.desc).before a0 Z = true) (wd : (Cond.declares ⟨owner, x.name, x.desc⟩).before a0 Z = true) (wsel : (Cond.selects C x z).before a0 Z = true) (wi : (Cond.instanceMethod z).before a0 Z = true) (wz : (Cond.initialized z.cls).before a0 Z = true) (wc : (Cond.code z bytes maxL ret).before a0 Z = true)
    (ho : owner ≠ "java/lang/invoke/MethodHandle" ∧ owner ≠ "java/lang/invoke/VarHandle") (hf : rm.frames + 1 ≤ R.frames) (hl : W + (maxL + 11) + rm.locals ≤ R.locals) (hce : cells + rm.cells ≤ R.cells) (hsl : slots + rm.slots ≤ R.slots) (eT : T.heap = h)
    {g : JFrame} (hg : g.method = m) (hsize : g.locals.size = c.maxLocals) {a : Addr} (E : Exa Z h a C) {argsL rest : List Value} (has : (Value.ref a :: argsL).toArray = as') (hlen : ∀ sig, parseMethodDescriptor x.desc = some sig → argsL.length = sig.parameters.length)
    (hstack : g.stack = argsL.reverse ++ .ref a :: rest) (hW : 2 * g.monitorRoom + (rest.map fun v => v.category).sum ≤ W) (hdg : decode c.code g.pc = .ok (.invokevirtual index, 3)) :
    ∃ (v : Option Value) (T' : State) (L : List Loc), Stand p l e R s m args below meth c T' (locs ++ L) (cells + rm.cells) (slots + rm.slots) ∧ Q v T'.heap L ∧
      ∀ {t : State}, Steps p.tables e below (T'.setTop { g with pc := g.pc + 3, stack := v.toList ++ rest }) t → Steps p.tables e below (T.setTop g) t := by
  obtain ⟨cq, kq, qa, qb, qc⟩ := isOf hZ eT E
  obtain ⟨v, vm₁, ⟨T', L', k', n'⟩, -, X', ⟨L, hQ, e1, e2, e3⟩, st⟩ := X.virtualBackUp hx hown (mvT hZ wl) (mvT hZ wsm) (mvT hZ wd) ho (mvT hZ wsel) (mvT hZ wi) (backOf (W := W) K hZ wc wz hf hl) qa qc hg hsize (Steps.refl _) hlen hstack hW hdg (fun _ _ => ⟨has, eT, hce, hsl⟩)
  dsimp only [Pt.U, Pt.locs, Pt.cells, Pt.slots] at X' e1 e2 e3 st hQ
  subst e1 e2 e3
  exact ⟨v, T', L, X', hQ, fun {t} k => st.trans k⟩
/-- the cell of an object is one that the model knows -/
def Kn (h : Heap) (a : Addr) : Prop := ∃ cell : Cell, h[a]? = some cell ∧ cell.vm ≠ .unknown
theorem Kn.of_new {h' : Heap} {a : Addr} (u : ∃ cell : Cell, h'[a]? = some cell ∧ cell.vm = .none ∧ cell.monitor = {}) : Kn h' a := by obtain ⟨c, h1, h2, -⟩ := u; exact ⟨c, h1, by rw [h2]; simp⟩
theorem Kn.ext {h h' : Heap} {a : Addr} (F : Kn h a) (E : Ext h h') : Kn h' a := by obtain ⟨c, h1, h2⟩ := F; exact ⟨c, E.2 _ _ h1, h2⟩
theorem Kn.keep {h h' : Heap} {a : Addr} {ws : List Addr} (F : Kn h a) (K : Keep h h' ws) : Kn h' a := by
  obtain ⟨c, h1, h2⟩ := F; obtain ⟨c', q, -, q2, -⟩ := K.2.2 a c h1; exact ⟨c', q, by rw [q2]; exact h2⟩
theorem Kn.wr {h h' : Heap} {a b : Addr} {sl : Nat} {v : Value} (F : Kn h a) (W : Wr h h' b sl v) : Kn h' a := F.keep (Keep.of_wr W)
theorem Kn.fld {h : Heap} {a : Addr} {O n d : String} {v : Value} {Z : State} (F : Fld Z h a O n d v) : Kn h a := by obtain ⟨c, _, _, _, _, h1, -, -, h4, -⟩ := F; exact ⟨c, h1, h4⟩
theorem lremM {g : JFrame} {target : State} (X : Stand p l e R s m args below meth c T locs cells slots) (hx : p.tables.exec = Jvm.exec) (hg : g.method = m) {x y : Int64} {rest : List Value} (hd : decode c.code g.pc = .ok (.lrem, 1)) (hs : g.stack = .long y :: .long x :: rest) (hy : y ≠ 0)
    (hr : Steps p.tables e below (T.setTop { g with pc := g.pc + 1, stack := .long (x % y) :: rest }) target) : Steps p.tables e below (T.setTop g) target := by
  exact XT.lrem X.here hx hg hd hs hy (by rw [lrem_mod]; exact hr)
theorem Sta.own_keep {Z : State} {h h' : Heap} {C n d : String} {v : Value} {ws : List Addr} (F : Sta Z h C n d v) (K : Keep h h' ws) (q : ∀ a ∈ ws, ∃ C', Exa Z h a C') : Sta Z h' C n d v := by
  obtain ⟨cf, i, k, f, st, cell, h1, h2, h3, h4, h5, h6, h7⟩ := F
  refine ⟨cf, i, k, f, st, cell, h1, h2, h3, h4, K.2.1 st cell h5 fun hm => ?_, h6, h7⟩
  obtain ⟨C', c2, _, g1, -, -, g4, -⟩ := q st hm
  cases h5.symm.trans g1
  rw [h6] at g4; cases g4
theorem own_nar {t : FieldType} {v : Value} (h : v.isRef = true) (ht : t.isReference = true) : narrow t v = v := by
  rcases ref_cases h with rfl | ⟨z, rfl⟩ <;> cases t <;> first | rfl | (cases ht)
theorem own_fit {t : FieldType} {v : Value} (h : v.isRef = true) (ht : t.isReference = true) : fits t v = true := by
  rcases ref_cases h with rfl | ⟨z, rfl⟩ <;> cases t <;> first | rfl | (cases ht)
theorem own_eq_int {t : Term} {k : Int32} {args : Array Value} {first s : State} {o : Option Outcome} {idx : List Nat} (h : (Cond.eq t (Term.int k)).value args first o s idx = some true) : t.eval args first o idx s = some (.int k) := by
  simp only [Cond.value, Term.eval] at h
  cases ht : t.eval args first o idx s with
  | none => simp [ht] at h
  | some x => cases x <;> simp [ht] at h ⊢; exact h
theorem pop2L {g : JFrame} {target : State} (X : Stand p l e R s m args below meth c T locs cells slots) (hx : p.tables.exec = Jvm.exec) (hg : g.method = m) {x : Int64} {rest : List Value} (hd : decode c.code g.pc = .ok (.pop2, 1)) (hs : g.stack = .long x :: rest)
    (hr : Steps p.tables e below (T.setTop { g with pc := g.pc + 1, stack := rest }) target) : Steps p.tables e below (T.setTop g) target := by
  subst hg
  jvm_step X.here [X.here.top, hx, hd, Op.pop2.wp_sem, hs, Value.category]
  exact hr
theorem own_tdiv (D k : Int) : (0 ≤ D ∧ D.tdiv k = D / k) ∨ (D < 0 ∧ D.tdiv k = -((-D) / k)) := by
  rcases Int.lt_or_le D 0 with h | h
  · refine Or.inr ⟨h, ?_⟩
    have e : D.tdiv k = -((-D).tdiv k) := by rw [Int.neg_tdiv]; omega
    rw [e, Int.tdiv_eq_ediv_of_nonneg (by omega)]
  · exact Or.inl ⟨h, Int.tdiv_eq_ediv_of_nonneg h⟩
theorem own_tmod (D k : Int) : (0 ≤ D ∧ D.tmod k = D % k) ∨ (D < 0 ∧ D.tmod k = -((-D) % k)) := by
  rcases Int.lt_or_le D 0 with h | h
  · refine Or.inr ⟨h, ?_⟩
    have e : D.tmod k = -((-D).tmod k) := by rw [Int.neg_tmod]; omega
    rw [e, Int.tmod_eq_emod_of_nonneg (by omega)]
  · exact Or.inl ⟨h, Int.tmod_eq_emod_of_nonneg h⟩
end Walk
end Jvm.OwnKit
namespace Jvm.Pilot.@@N@@
open Jvm Jvm.ClassFile Sem Op Lib Jvm.Free Jvm.Stand Jvm.LawKit Jvm.RoadKit Bundle Jvm.Pilot.@@N@@.Jvm.D Jvm.OwnKit
def own_f1 (x : Int32) (y : Int32) : Int32 := (if x < y then y else x)
theorem own_ef1 (m : MethodId) (x : Int32) (y : Int32) : entryFrame m #[(.int x), (.int y)] 2 = mkF m 0 #[.val (.int x), .val (.int y)] [] := by
  (first | (simp [entryFrame, mkF, argsToLocals, Value.category]; done) | rfl)
theorem own_d1_0 : decode jdk_29_method_65_code 0 = .ok (.iload_n 0, 1) := by decide +kernel
theorem own_d1_1 : decode jdk_29_method_65_code 1 = .ok (.iload_n 1, 1) := by decide +kernel
theorem own_d1_2 : decode jdk_29_method_65_code 2 = .ok (.if_icmp .lt 7, 3) := by decide +kernel
theorem own_d1_9 : decode jdk_29_method_65_code 9 = .ok (.iload_n 1, 1) := by decide +kernel
theorem own_d1_10 : decode jdk_29_method_65_code 10 = .ok (.ireturn, 1) := by decide +kernel
theorem own_d1_5 : decode jdk_29_method_65_code 5 = .ok (.iload_n 0, 1) := by decide +kernel
theorem own_d1_6 : decode jdk_29_method_65_code 6 = .ok (.goto 4, 3) := by decide +kernel
set_option maxRecDepth 65536 in
set_option maxHeartbeats 40000000 in
theorem own_rm1 (l : Launch) (Z : State) (a0 : Array Value) (hw : ∀ d ∈ tables_1, d.before a0 Z = true) (ws : List Jvm.Cond) (x : Int32) (y : Int32) (h0 : Heap) (n0 : Nat) (Z0 : n0 ≤ h0.size)   :
    Con l Z (⟨"java/lang/Math", "max", "(II)I"⟩ : MethodName) jdk_29_method_65_code 2 (some .int) ws ({ frames := 0, cells := 0, slots := 0, locals := 0 } : Room) #[(.int x), (.int y)] h0 (fun v h L => v = some (.int (own_f1 x y)) ∧ Fr n0 L ∧ h = h0) := by
  refine Con.intro (Jvm.Free.JP.mathPlain rfl (by decide +kernel)) ?_
  intro p e s m below meth c s₁ P hx hby hml hown hnm hret hlk hZ X0 e0 hP
  have N0 := Fr.nil n0
  have hown : s.vm.findClass "java/lang/Math" = some m.cls := hown
  refine Go.cast (own_ef1 m x y) ?_
  show Go p.tables e below P (s₁.setTop (mkF m 0 #[.val (.int x), .val (.int y)] []))
  refine Go.s (fun kz => XS.iloadN X0.here hx rfl (hb hby own_d1_0) rfl kz) ?_
  show Go p.tables e below P (s₁.setTop (mkF m 1 #[.val (.int x), .val (.int y)] [(.int x)]))
  refine Go.s (fun kz => XS.iloadN X0.here hx rfl (hb hby own_d1_1) rfl kz) ?_
  show Go p.tables e below P (s₁.setTop (mkF m 2 #[.val (.int x), .val (.int y)] [(.int y), (.int x)]))
  by_cases hc2 : x < y
  · skip
    refine Go.s (fun kz => XS.icmpYes X0.here hx rfl (pc0 := 2) (pc' := 9) rfl (hb hby own_d1_2) rfl (XT.ii_lt_t hc2) (by decide) (by decide) kz) ?_
    show Go p.tables e below P (s₁.setTop (mkF m 9 #[.val (.int x), .val (.int y)] []))
    refine Go.s (fun kz => XS.iloadN X0.here hx rfl (hb hby own_d1_9) rfl kz) ?_
    show Go p.tables e below P (s₁.setTop (mkF m 10 #[.val (.int x), .val (.int y)] [(.int y)]))
    exact Go.retI X0 hx hlk hret (hb hby own_d1_10) (fun U hU hF => hP U _ _ (by rw [hU, e0]; exact ⟨congrArg some (congrArg Value.int (Eq.symm (by rw [own_f1]; rw [if_pos hc2]))), N0, rfl⟩) ⟨hF.1, hF.2.1, hF.2.2.mono (by decide) (by decide)⟩)
  · skip
    refine Go.s (fun kz => XS.icmpNo X0.here hx rfl (hb hby own_d1_2) rfl (XT.ii_lt_f hc2) kz) ?_
    show Go p.tables e below P (s₁.setTop (mkF m 5 #[.val (.int x), .val (.int y)] []))
    refine Go.s (fun kz => XS.iloadN X0.here hx rfl (hb hby own_d1_5) rfl kz) ?_
    show Go p.tables e below P (s₁.setTop (mkF m 6 #[.val (.int x), .val (.int y)] [(.int x)]))
    refine Go.s (fun kz => XS.goto X0.here hx rfl (pc0 := 6) (pc' := 10) rfl (hb hby own_d1_6) (by decide) (by decide) kz) ?_
    show Go p.tables e below P (s₁.setTop (mkF m 10 #[.val (.int x), .val (.int y)] [(.int x)]))
    exact Go.retI X0 hx hlk hret (hb hby own_d1_10) (fun U hU hF => hP U _ _ (by rw [hU, e0]; exact ⟨congrArg some (congrArg Value.int (Eq.symm (by rw [own_f1]; rw [if_neg hc2]))), N0, rfl⟩) ⟨hF.1, hF.2.1, hF.2.2.mono (by decide) (by decide)⟩)
-- (<init> returns nothing)
theorem own_ef3 (m : MethodId) (a : Addr) : entryFrame m #[(.ref a)] 1 = mkF m 0 #[.val (.ref a)] [] := by
  (first | (simp [entryFrame, mkF, argsToLocals, Value.category]; done) | rfl)
theorem own_pn_0 : plainName "java/lang/Record" = true := by first | (simp [plainName, overriddenIn]; done) | decide +kernel
theorem own_d3_0 : decode jdk_30_method_1_code 0 = .ok (.aload_n 0, 1) := by decide +kernel
theorem own_d3_1 : decode jdk_30_method_1_code 1 = .ok (.invokespecial 1, 3) := by decide +kernel
theorem own_d3_4 : decode jdk_30_method_1_code 4 = .ok (.return_, 1) := by decide +kernel
set_option maxRecDepth 65536 in
set_option maxHeartbeats 40000000 in
theorem own_rm3 (l : Launch) (Z : State) (a0 : Array Value) (hw : ∀ d ∈ tables_1, d.before a0 Z = true) (ws : List Jvm.Cond) (a : Addr) (h0 : Heap) (n0 : Nat) (Z0 : n0 ≤ h0.size)   :
    Con l Z (⟨"java/lang/Record", "<init>", "()V"⟩ : MethodName) jdk_30_method_1_code 1 none ws ({ frames := 1, cells := 0, slots := 0, locals := 12 } : Room) #[(.ref a)] h0 (fun v h L => v = none ∧ Fr n0 L ∧ h = h0) := by
  refine Con.intro (plainFor_of_name own_pn_0) ?_
  intro p e s m below meth c s₁ P hx hby hml hown hnm hret hlk hZ X0 e0 hP
  have N0 := Fr.nil n0
  have hown : s.vm.findClass "java/lang/Record" = some m.cls := hown
  refine Go.cast (own_ef3 m a) ?_
  show Go p.tables e below P (s₁.setTop (mkF m 0 #[.val (.ref a)] []))
  refine Go.s (fun kz => XS.aloadN X0.here hx rfl (hb hby own_d3_0) rfl rfl kz) ?_
  show Go p.tables e below P (s₁.setTop (mkF m 1 #[.val (.ref a)] [(.ref a)]))
  obtain ⟨T1, X1, e1, st1⟩ := initO X0 hx hZ hown (hw _ (List.mem_of_getElem? (i := 16) rfl)) (hw _ (List.mem_of_getElem? (i := 17) rfl)) (hw _ (List.mem_of_getElem? (i := 18) rfl)) e0 (g := (mkF m 1 #[.val (.ref a)] [(.ref a)])) rfl (by rw [hml]; rfl) rfl (hb hby own_d3_1) (by decide) (W := 0) (by show 2 * 0 + _ ≤ _; exact Nat.le_of_eq rfl) (by decide)
  refine Go.s (fun {t} => st1 t) ?_
  show Go p.tables e below P (T1.setTop (mkF m 4 #[.val (.ref a)] []))
  exact Go.retV X1 hx hlk hret (hb hby own_d3_4) (fun U hU hF => hP U _ _ (by rw [hU, e1]; exact ⟨rfl, N0, rfl⟩) ⟨hF.1, hF.2.1, hF.2.2.mono (by decide) (by decide)⟩)
theorem own_ef2 (m : MethodId) (a : Addr) (no : Int32) (ba : Int32) : entryFrame m #[(.ref a), (.int no), (.int ba)] 3 = mkF m 0 #[.val (.ref a), .val (.int no), .val (.int ba)] [] := by
  (first | (simp [entryFrame, mkF, argsToLocals, Value.category]; done) | rfl)
theorem own_pn_1 : plainName "com/example/heraldmesh/heraldmesh/plan/Mesh" = true := by first | (simp [plainName, overriddenIn]; done) | decide +kernel
theorem own_d2_0 : decode prog_87_method_1_code 0 = .ok (.aload_n 0, 1) := by decide +kernel
theorem own_pd_0 : parseMethodDescriptor "()V" = some ⟨[], none⟩ := by decide +kernel
theorem own_d2_1 : decode prog_87_method_1_code 1 = .ok (.invokespecial 1, 3) := by decide +kernel
theorem own_d2_4 : decode prog_87_method_1_code 4 = .ok (.iload_n 1, 1) := by decide +kernel
theorem own_d2_5 : decode prog_87_method_1_code 5 = .ok (.iconst 1, 1) := by decide +kernel
theorem own_d2_6 : decode prog_87_method_1_code 6 = .ok (.if_icmp .lt 8, 3) := by decide +kernel
theorem own_d2_9 : decode prog_87_method_1_code 9 = .ok (.iload_n 2, 1) := by decide +kernel
theorem own_d2_10 : decode prog_87_method_1_code 10 = .ok (.iconst 2, 1) := by decide +kernel
theorem own_d2_11 : decode prog_87_method_1_code 11 = .ok (.if_icmp .ge 18, 3) := by decide +kernel
theorem own_d2_29 : decode prog_87_method_1_code 29 = .ok (.aload_n 0, 1) := by decide +kernel
theorem own_d2_30 : decode prog_87_method_1_code 30 = .ok (.iload_n 1, 1) := by decide +kernel
theorem own_d2_31 : decode prog_87_method_1_code 31 = .ok (.putfield 16, 3) := by decide +kernel
theorem own_d2_34 : decode prog_87_method_1_code 34 = .ok (.aload_n 0, 1) := by decide +kernel
theorem own_d2_35 : decode prog_87_method_1_code 35 = .ok (.iload_n 2, 1) := by decide +kernel
theorem own_d2_36 : decode prog_87_method_1_code 36 = .ok (.putfield 22, 3) := by decide +kernel
theorem own_d2_39 : decode prog_87_method_1_code 39 = .ok (.return_, 1) := by decide +kernel
set_option maxRecDepth 65536 in
set_option maxHeartbeats 40000000 in
theorem own_rm2 (l : Launch) (Z : State) (a0 : Array Value) (hw : ∀ d ∈ tables_1, d.before a0 Z = true) (ws : List Jvm.Cond) (a : Addr) (no : Int32) (ba : Int32) (h0 : Heap) (n0 : Nat) (Z0 : n0 ≤ h0.size) (E0 : Exa Z h0 a "com/example/heraldmesh/heraldmesh/plan/Mesh") (U0 : Kn h0 a) (G0 : n0 ≤ a) (hp1 : ¬ no < 1) (hp2 : ¬ ba < 2) :
    Con l Z (⟨"com/example/heraldmesh/heraldmesh/plan/Mesh", "<init>", "(II)V"⟩ : MethodName) prog_87_method_1_code 3 none ws ({ frames := 2, cells := 0, slots := 0, locals := 24 } : Room) #[(.ref a), (.int no), (.int ba)] h0 (fun v h L => v = none ∧ Fr n0 L ∧ Keep h0 h [a] ∧ Fld Z h a "com/example/heraldmesh/heraldmesh/plan/Mesh" "base" "I" (.int ba) ∧ Fld Z h a "com/example/heraldmesh/heraldmesh/plan/Mesh" "nodes" "I" (.int no)) := by
  refine Con.intro (plainFor_of_name own_pn_1) ?_
  intro p e s m below meth c s₁ P hx hby hml hown hnm hret hlk hZ X0 e0 hP
  have N0 := Fr.nil n0
  have hown : s.vm.findClass "com/example/heraldmesh/heraldmesh/plan/Mesh" = some m.cls := hown
  refine Go.cast (own_ef2 m a no ba) ?_
  show Go p.tables e below P (s₁.setTop (mkF m 0 #[.val (.ref a), .val (.int no), .val (.int ba)] []))
  refine Go.s (fun kz => XS.aloadN X0.here hx rfl (hb hby own_d2_0) rfl rfl kz) ?_
  show Go p.tables e below P (s₁.setTop (mkF m 1 #[.val (.ref a), .val (.int no), .val (.int ba)] [(.ref a)]))
  obtain ⟨v1, T1, L1, X1, Q1, st1⟩ := Con.special (own_rm3 l Z a0 hw [] a h0 n0 Z0  ) rfl X0 hx hZ (W := 0) hown (hw _ (List.mem_of_getElem? (i := 11) rfl)) (hw _ (List.mem_of_getElem? (i := 12) rfl)) (hw _ (List.mem_of_getElem? (i := 14) rfl)) (hw _ (List.mem_of_getElem? (i := 15) rfl)) (by decide) (by decide) (by decide) (by decide) (by decide) e0 (g := (mkF m 1 #[.val (.ref a), .val (.int no), .val (.int ba)] [(.ref a)])) rfl (by rw [hml]; rfl) (argsL := []) (rest := []) rfl (lenOf own_pd_0 rfl) rfl (by show 2 * 0 + _ ≤ _; exact Nat.le_of_eq rfl) (hb hby own_d2_1)
  obtain ⟨rfl, Nq1, e1⟩ := Q1
  have N1 := Fr.app N0 Nq1
  refine Go.s (fun {t} => st1) ?_
  show Go p.tables e below P (T1.setTop (mkF m 4 #[.val (.ref a), .val (.int no), .val (.int ba)] []))
  refine Go.s (fun kz => XS.iloadN X1.here hx rfl (hb hby own_d2_4) rfl kz) ?_
  show Go p.tables e below P (T1.setTop (mkF m 5 #[.val (.ref a), .val (.int no), .val (.int ba)] [(.int no)]))
  refine Go.s (fun kz => XS.iconst X1.here hx rfl (hb hby own_d2_5) kz) ?_
  show Go p.tables e below P (T1.setTop (mkF m 6 #[.val (.ref a), .val (.int no), .val (.int ba)] [(.int (1 : Int32)), (.int no)]))
  refine Go.s (fun kz => XS.icmpNo X1.here hx rfl (hb hby own_d2_6) rfl (XT.ii_lt_f hp1) kz) ?_
  show Go p.tables e below P (T1.setTop (mkF m 9 #[.val (.ref a), .val (.int no), .val (.int ba)] []))
  refine Go.s (fun kz => XS.iloadN X1.here hx rfl (hb hby own_d2_9) rfl kz) ?_
  show Go p.tables e below P (T1.setTop (mkF m 10 #[.val (.ref a), .val (.int no), .val (.int ba)] [(.int ba)]))
  refine Go.s (fun kz => XS.iconst X1.here hx rfl (hb hby own_d2_10) kz) ?_
  show Go p.tables e below P (T1.setTop (mkF m 11 #[.val (.ref a), .val (.int no), .val (.int ba)] [(.int (2 : Int32)), (.int ba)]))
  refine Go.s (fun kz => XS.icmpYes X1.here hx rfl (pc0 := 11) (pc' := 29) rfl (hb hby own_d2_11) rfl (XT.ii_ge_t hp2) (by decide) (by decide) kz) ?_
  show Go p.tables e below P (T1.setTop (mkF m 29 #[.val (.ref a), .val (.int no), .val (.int ba)] []))
  refine Go.s (fun kz => XS.aloadN X1.here hx rfl (hb hby own_d2_29) rfl rfl kz) ?_
  show Go p.tables e below P (T1.setTop (mkF m 30 #[.val (.ref a), .val (.int no), .val (.int ba)] [(.ref a)]))
  refine Go.s (fun kz => XS.iloadN X1.here hx rfl (hb hby own_d2_30) rfl kz) ?_
  show Go p.tables e below P (T1.setTop (mkF m 31 #[.val (.ref a), .val (.int no), .val (.int ba)] [(.int no), (.ref a)]))
  obtain ⟨u2, Fo2⟩ := fld_laid E0 U0 (hw _ (List.mem_of_getElem? (i := 6) rfl)) (Or.inr (hw _ (List.mem_of_getElem? (i := 20) rfl)))
  obtain ⟨T2, H2, X2, e2, W2, st2⟩ := putF X1 hx hZ hown (host := "") (Or.inl (hw _ (List.mem_of_getElem? (i := 19) rfl))) Via.refl e1 Fo2 E0 (Or.inr ⟨(hw _ (List.mem_of_getElem? (i := 20) rfl)), rfl, hnm⟩) (hw _ (List.mem_of_getElem? (i := 6) rfl)) (ty := .int) (by decide) rfl rfl (g := (mkF m 31 #[.val (.ref a), .val (.int no), .val (.int ba)] [(.int no), (.ref a)])) rfl rfl (hb hby own_d2_31)
  refine Go.s (fun {t} => st2 t) ?_
  have Fw2 := Fld.same W2 Fo2
  have E0_3 := Exa.wr W2 E0
  have U0_4 := Kn.wr U0 W2
  have N2 := Fr.snoc X2 N1 G0
  have Zs2 := Nat.le_trans Z0 (Keep.of_wr W2).1
  have K2 : Keep h0 H2 [a] := (Keep.refl h0 [a]).wr W2 (Or.inl (List.mem_of_getElem? (i := 0) rfl))
  show Go p.tables e below P (T2.setTop (mkF m 34 #[.val (.ref a), .val (.int no), .val (.int ba)] []))
  refine Go.s (fun kz => XS.aloadN X2.here hx rfl (hb hby own_d2_34) rfl rfl kz) ?_
  show Go p.tables e below P (T2.setTop (mkF m 35 #[.val (.ref a), .val (.int no), .val (.int ba)] [(.ref a)]))
  refine Go.s (fun kz => XS.iloadN X2.here hx rfl (hb hby own_d2_35) rfl kz) ?_
  show Go p.tables e below P (T2.setTop (mkF m 36 #[.val (.ref a), .val (.int no), .val (.int ba)] [(.int ba), (.ref a)]))
  obtain ⟨u5, Fo5⟩ := fld_laid E0_3 U0_4 (hw _ (List.mem_of_getElem? (i := 6) rfl)) (Or.inr (hw _ (List.mem_of_getElem? (i := 22) rfl)))
  obtain ⟨T5, H5, X5, e5, W5, st5⟩ := putF X2 hx hZ hown (host := "") (Or.inl (hw _ (List.mem_of_getElem? (i := 21) rfl))) Via.refl e2 Fo5 E0_3 (Or.inr ⟨(hw _ (List.mem_of_getElem? (i := 22) rfl)), rfl, hnm⟩) (hw _ (List.mem_of_getElem? (i := 6) rfl)) (ty := .int) (by decide) rfl rfl (g := (mkF m 36 #[.val (.ref a), .val (.int no), .val (.int ba)] [(.int ba), (.ref a)])) rfl rfl (hb hby own_d2_36)
  refine Go.s (fun {t} => st5 t) ?_
  have Fw5 := Fld.same W5 Fo5
  have E0_6 := Exa.wr W5 E0_3
  have U0_7 := Kn.wr U0_4 W5
  have Fw2_8 := Fld.other W5 Fw2 (Or.inr (slot_ne (Or.inr (hw _ (List.mem_of_getElem? (i := 20) rfl))) (Or.inr (hw _ (List.mem_of_getElem? (i := 22) rfl))) (by decide) (t := .int) (t' := .int) (by decide) (by decide)))
  have N5 := Fr.snoc X5 N2 G0
  have Zs5 := Nat.le_trans Zs2 (Keep.of_wr W5).1
  have K5 : Keep h0 H5 [a] := K2.wr W5 (Or.inl (List.mem_of_getElem? (i := 0) rfl))
  show Go p.tables e below P (T5.setTop (mkF m 39 #[.val (.ref a), .val (.int no), .val (.int ba)] []))
  exact Go.retV X5 hx hlk hret (hb hby own_d2_39) (fun U hU hF => hP U _ _ (by rw [hU, e5]; exact ⟨rfl, N5, K5, Fw5, Fw2_8⟩) ⟨hF.1, hF.2.1, hF.2.2.mono (by decide) (by decide)⟩)
theorem own_pw (no ba : Int32) (k : Nat) (hb : 2 ≤ ba.toInt) (hj : ∀ j, j < k → ba.toInt ^ j < no.toInt) : 0 < ba.toInt ^ k ∧ ba.toInt ^ k < 2 ^ 62 := by
  have hpos : 0 < ba.toInt ^ k := Int.pow_pos (by omega)
  refine ⟨hpos, ?_⟩
  cases k with
  | zero => rw [Int.pow_zero]; decide
  | succ k =>
    have h1 := hj k (Nat.lt_succ_self k)
    have h2 := no.toInt_lt
    have h3 := ba.toInt_lt
    have h4 : 0 < ba.toInt ^ k := Int.pow_pos (by omega)
    rw [Int.pow_succ]
    have h5 : ba.toInt ^ k * ba.toInt ≤ ba.toInt ^ k * 2 ^ 31 := Int.mul_le_mul_of_nonneg_left (by omega) (by omega)
    omega
theorem own_two (b : Int) (h : 2 ≤ b) : ∀ k : Nat, (2 : Int) ^ k ≤ b ^ k
  | 0 => by rw [Int.pow_zero, Int.pow_zero]; exact Int.le_refl _
  | k + 1 => by
    have q := own_two b h k
    have p : 0 < b ^ k := Int.pow_pos (by omega)
    rw [Int.pow_succ, Int.pow_succ]
    have h5 : b ^ k * 2 ≤ b ^ k * b := Int.mul_le_mul_of_nonneg_left h (by omega)
    omega
theorem own_top (no ba : Int32) (hb : 2 ≤ ba.toInt) (h : ba.toInt ^ 31 < no.toInt) : False := by
  have q := own_two ba.toInt hb 31
  have := no.toInt_lt
  omega
theorem own_of (z : Int) (h1 : 0 < z) (h2 : z < 2 ^ 62) : (Int64.ofInt z).toInt = z := by
  rw [Int64.toInt_ofInt]; exact Jvm.Kit.bmod64 (by omega) (by omega)
theorem own_mul (ba : Int32) (k : Nat) : Int64.ofInt (ba.toInt ^ k) * ba.toInt64 = Int64.ofInt (ba.toInt ^ (k + 1)) := by
  have e : ba.toInt64 = Int64.ofInt ba.toInt := by
    apply Int64.toInt_inj.mp
    have h2 := ba.toInt_lt; have h3 := ba.le_toInt
    rw [Jvm.Kit.i64_of_i32, Int64.toInt_ofInt, Jvm.Kit.bmod64 (by omega) (by omega)]
  rw [e, ← Int64.ofInt_mul, Int.pow_succ]
theorem own_ef5 (m : MethodId) (a : Addr) : entryFrame m #[(.ref a)] 4 = mkF m 0 #[.val (.ref a), .unset, .unset, .unset] [] := by
  (first | (simp [entryFrame, mkF, argsToLocals, Value.category]; done) | rfl)
theorem own_d5_0 : decode prog_87_method_2_code 0 = .ok (.iconst 0, 1) := by decide +kernel
theorem own_d5_1 : decode prog_87_method_2_code 1 = .ok (.istore_n 1, 1) := by decide +kernel
theorem own_d5_2 : decode prog_87_method_2_code 2 = .ok (.lconst 1, 1) := by decide +kernel
theorem own_d5_3 : decode prog_87_method_2_code 3 = .ok (.lstore_n 2, 1) := by decide +kernel
theorem own_d5_4 : decode prog_87_method_2_code 4 = .ok (.lload_n 2, 1) := by decide +kernel
theorem own_d5_5 : decode prog_87_method_2_code 5 = .ok (.aload_n 0, 1) := by decide +kernel
theorem own_d5_6 : decode prog_87_method_2_code 6 = .ok (.getfield 16, 3) := by decide +kernel
theorem own_d5_9 : decode prog_87_method_2_code 9 = .ok (.i2l, 1) := by decide +kernel
theorem own_d5_10 : decode prog_87_method_2_code 10 = .ok (.lcmp, 1) := by decide +kernel
theorem own_d5_11 : decode prog_87_method_2_code 11 = .ok (.ifCond .ge 17, 3) := by decide +kernel
theorem own_d5_14 : decode prog_87_method_2_code 14 = .ok (.iinc 1 1, 3) := by decide +kernel
theorem own_d5_17 : decode prog_87_method_2_code 17 = .ok (.lload_n 2, 1) := by decide +kernel
theorem own_d5_18 : decode prog_87_method_2_code 18 = .ok (.aload_n 0, 1) := by decide +kernel
theorem own_d5_19 : decode prog_87_method_2_code 19 = .ok (.getfield 22, 3) := by decide +kernel
theorem own_d5_22 : decode prog_87_method_2_code 22 = .ok (.i2l, 1) := by decide +kernel
theorem own_d5_23 : decode prog_87_method_2_code 23 = .ok (.lmul, 1) := by decide +kernel
theorem own_d5_24 : decode prog_87_method_2_code 24 = .ok (.lstore_n 2, 1) := by decide +kernel
theorem own_d5_25 : decode prog_87_method_2_code 25 = .ok (.goto (-21), 3) := by decide +kernel
theorem own_d5_28 : decode prog_87_method_2_code 28 = .ok (.iload_n 1, 1) := by decide +kernel
theorem own_d5_29 : decode prog_87_method_2_code 29 = .ok (.ireturn, 1) := by decide +kernel
set_option maxRecDepth 65536 in
set_option maxHeartbeats 40000000 in
theorem own_rm5 (l : Launch) (Z : State) (a0 : Array Value) (hw : ∀ d ∈ tables_1, d.before a0 Z = true) (ws : List Jvm.Cond) (a : Addr) (no ba : Int32) (h0 : Heap) (n0 : Nat) (Z0 : n0 ≤ h0.size) (F_nodes : Fld Z h0 a "com/example/heraldmesh/heraldmesh/plan/Mesh" "nodes" "I" (.int no)) (F_base : Fld Z h0 a "com/example/heraldmesh/heraldmesh/plan/Mesh" "base" "I" (.int ba)) (hb2 : 2 ≤ ba.toInt) :
    Con l Z (⟨"com/example/heraldmesh/heraldmesh/plan/Mesh", "deepestLevel", "()I"⟩ : MethodName) prog_87_method_2_code 4 (some .int) ws ({ frames := 0, cells := 0, slots := 0, locals := 0 } : Room) #[(.ref a)] h0 (fun v h L => (∃ k : Nat, v = some (.int (Int32.ofNat k)) ∧ k ≤ 31 ∧ no.toInt ≤ ba.toInt ^ k ∧ ∀ j, j < k → ba.toInt ^ j < no.toInt) ∧ Fr n0 L ∧ h = h0) := by
  refine Con.intro (plainFor_of_name own_pn_1) ?_
  intro p e s m below meth c s₁ P hx hby hml hown hnm hret hlk hZ X0 e0 hP
  have N0 := Fr.nil n0
  have hown : s.vm.findClass "com/example/heraldmesh/heraldmesh/plan/Mesh" = some m.cls := hown
  refine Go.cast (own_ef5 m a) ?_
  show Go p.tables e below P (s₁.setTop (mkF m 0 #[.val (.ref a), .unset, .unset, .unset] []))
  refine Go.s (fun kz => XS.iconst X0.here hx rfl (hb hby own_d5_0) kz) ?_
  show Go p.tables e below P (s₁.setTop (mkF m 1 #[.val (.ref a), .unset, .unset, .unset] [(.int (0 : Int32))]))
  refine Go.s (fun kz => XS.istoreN X0.here hx rfl (hb hby own_d5_1) rfl (l' := #[.val (.ref a), .val (.int (0 : Int32)), .unset, .unset]) rfl kz) ?_
  show Go p.tables e below P (s₁.setTop (mkF m 2 #[.val (.ref a), .val (.int (0 : Int32)), .unset, .unset] []))
  refine Go.s (fun kz => XT.lconst X0.here hx rfl (hb hby own_d5_2) kz) ?_
  show Go p.tables e below P (s₁.setTop (mkF m 3 #[.val (.ref a), .val (.int (0 : Int32)), .unset, .unset] [(.long (1 : Int64))]))
  refine Go.s (fun kz => XT.lstoreN X0.here hx rfl (hb hby own_d5_3) rfl (l' := #[.val (.ref a), .val (.int (0 : Int32)), .val (.long (1 : Int64)), .second]) rfl kz) ?_
  show Go p.tables e below P (s₁.setTop (mkF m 4 #[.val (.ref a), .val (.int (0 : Int32)), .val (.long (1 : Int64)), .second] []))
  have LOOP : ∀ (r k : Nat) (T : State), Stand p l e ({ frames := 0, cells := 0, slots := 0, locals := 0 } : Room) s m #[(.ref a)] below meth c T [] 0 0 → T.heap = h0 → k + r = 32 → (∀ j, j < k → ba.toInt ^ j < no.toInt) → Go p.tables e below P (T.setTop (mkF m 4 #[.val (.ref a), .val (.int (Int32.ofNat k)), .val (.long (Int64.ofInt (ba.toInt ^ k))), .second] [])) := by
    intro r
    induction r with
    | zero => intro k T X eT hk hj; exact (own_top no ba hb2 (hj 31 (by omega))).elim
    | succ r ih =>
      intro k T X eT hk hj
      have pw := own_pw no ba k hb2 hj
      refine Go.s (fun kz => XT.lloadN X.here hx rfl (hb hby own_d5_4) rfl kz) ?_
      show Go p.tables e below P (T.setTop (mkF m 5 #[.val (.ref a), .val (.int (Int32.ofNat k)), .val (.long (Int64.ofInt (ba.toInt ^ k))), .second] [(.long (Int64.ofInt (ba.toInt ^ k)))]))
      refine Go.s (fun kz => XS.aloadN X.here hx rfl (hb hby own_d5_5) rfl rfl kz) ?_
      show Go p.tables e below P (T.setTop (mkF m 6 #[.val (.ref a), .val (.int (Int32.ofNat k)), .val (.long (Int64.ofInt (ba.toInt ^ k))), .second] [(.ref a), (.long (Int64.ofInt (ba.toInt ^ k)))]))
      obtain ⟨T1, X1, e1, st1⟩ := getF X hx hZ hown (host := "") (Or.inl (hw _ (List.mem_of_getElem? (i := 19) rfl))) Via.refl eT F_nodes (g := (mkF m 6 #[.val (.ref a), .val (.int (Int32.ofNat k)), .val (.long (Int64.ofInt (ba.toInt ^ k))), .second] [(.ref a), (.long (Int64.ofInt (ba.toInt ^ k)))])) rfl rfl (hb hby own_d5_6)
      refine Go.s (fun {t} => st1 t) ?_
      show Go p.tables e below P (T1.setTop (mkF m 9 #[.val (.ref a), .val (.int (Int32.ofNat k)), .val (.long (Int64.ofInt (ba.toInt ^ k))), .second] [(.int no), (.long (Int64.ofInt (ba.toInt ^ k)))]))
      refine Go.s (fun kz => XT.i2l X1.here hx rfl (hb hby own_d5_9) rfl kz) ?_
      show Go p.tables e below P (T1.setTop (mkF m 10 #[.val (.ref a), .val (.int (Int32.ofNat k)), .val (.long (Int64.ofInt (ba.toInt ^ k))), .second] [(.long no.toInt64), (.long (Int64.ofInt (ba.toInt ^ k)))]))
      refine Go.s (fun kz => XT.lcmp X1.here hx rfl (hb hby own_d5_10) rfl kz) ?_
      show Go p.tables e below P (T1.setTop (mkF m 11 #[.val (.ref a), .val (.int (Int32.ofNat k)), .val (.long (Int64.ofInt (ba.toInt ^ k))), .second] [(.int (XT.cmpL (Int64.ofInt (ba.toInt ^ k)) no.toInt64))]))
      by_cases hc11 : (Int64.ofInt (ba.toInt ^ k)) < no.toInt64
      · skip
        refine Go.s (fun kz => XS.ifNo X1.here hx rfl (hb hby own_d5_11) rfl (XT.ll_ge_f hc11) kz) ?_
        show Go p.tables e below P (T1.setTop (mkF m 14 #[.val (.ref a), .val (.int (Int32.ofNat k)), .val (.long (Int64.ofInt (ba.toInt ^ k))), .second] []))
        refine Go.s (fun kz => XS.iinc X1.here hx rfl (hb hby own_d5_14) rfl (l' := #[.val (.ref a), .val (.int ((Int32.ofNat k) + (1 : Int32))), .val (.long (Int64.ofInt (ba.toInt ^ k))), .second]) rfl kz) ?_
        show Go p.tables e below P (T1.setTop (mkF m 17 #[.val (.ref a), .val (.int ((Int32.ofNat k) + (1 : Int32))), .val (.long (Int64.ofInt (ba.toInt ^ k))), .second] []))
        refine Go.s (fun kz => XT.lloadN X1.here hx rfl (hb hby own_d5_17) rfl kz) ?_
        show Go p.tables e below P (T1.setTop (mkF m 18 #[.val (.ref a), .val (.int ((Int32.ofNat k) + (1 : Int32))), .val (.long (Int64.ofInt (ba.toInt ^ k))), .second] [(.long (Int64.ofInt (ba.toInt ^ k)))]))
        refine Go.s (fun kz => XS.aloadN X1.here hx rfl (hb hby own_d5_18) rfl rfl kz) ?_
        show Go p.tables e below P (T1.setTop (mkF m 19 #[.val (.ref a), .val (.int ((Int32.ofNat k) + (1 : Int32))), .val (.long (Int64.ofInt (ba.toInt ^ k))), .second] [(.ref a), (.long (Int64.ofInt (ba.toInt ^ k)))]))
        obtain ⟨T2, X2, e2, st2⟩ := getF X1 hx hZ hown (host := "") (Or.inl (hw _ (List.mem_of_getElem? (i := 21) rfl))) Via.refl e1 F_base (g := (mkF m 19 #[.val (.ref a), .val (.int ((Int32.ofNat k) + (1 : Int32))), .val (.long (Int64.ofInt (ba.toInt ^ k))), .second] [(.ref a), (.long (Int64.ofInt (ba.toInt ^ k)))])) rfl rfl (hb hby own_d5_19)
        refine Go.s (fun {t} => st2 t) ?_
        show Go p.tables e below P (T2.setTop (mkF m 22 #[.val (.ref a), .val (.int ((Int32.ofNat k) + (1 : Int32))), .val (.long (Int64.ofInt (ba.toInt ^ k))), .second] [(.int ba), (.long (Int64.ofInt (ba.toInt ^ k)))]))
        refine Go.s (fun kz => XT.i2l X2.here hx rfl (hb hby own_d5_22) rfl kz) ?_
        show Go p.tables e below P (T2.setTop (mkF m 23 #[.val (.ref a), .val (.int ((Int32.ofNat k) + (1 : Int32))), .val (.long (Int64.ofInt (ba.toInt ^ k))), .second] [(.long ba.toInt64), (.long (Int64.ofInt (ba.toInt ^ k)))]))
        refine Go.s (fun kz => XT.lmul X2.here hx rfl (hb hby own_d5_23) rfl kz) ?_
        show Go p.tables e below P (T2.setTop (mkF m 24 #[.val (.ref a), .val (.int ((Int32.ofNat k) + (1 : Int32))), .val (.long (Int64.ofInt (ba.toInt ^ k))), .second] [(.long ((Int64.ofInt (ba.toInt ^ k)) * ba.toInt64))]))
        refine Go.s (fun kz => XT.lstoreN X2.here hx rfl (hb hby own_d5_24) rfl (l' := #[.val (.ref a), .val (.int ((Int32.ofNat k) + (1 : Int32))), .val (.long ((Int64.ofInt (ba.toInt ^ k)) * ba.toInt64)), .second]) rfl kz) ?_
        show Go p.tables e below P (T2.setTop (mkF m 25 #[.val (.ref a), .val (.int ((Int32.ofNat k) + (1 : Int32))), .val (.long ((Int64.ofInt (ba.toInt ^ k)) * ba.toInt64)), .second] []))
        refine Go.s (fun kz => XS.goto X2.here hx rfl (pc0 := 25) (pc' := 4) rfl (hb hby own_d5_25) (by decide) (by decide) kz) ?_
        show Go p.tables e below P (T2.setTop (mkF m 4 #[.val (.ref a), .val (.int ((Int32.ofNat k) + (1 : Int32))), .val (.long ((Int64.ofInt (ba.toInt ^ k)) * ba.toInt64)), .second] []))
        have ek : Int32.ofNat k + 1 = Int32.ofNat (k + 1) := ofNat_add_one32 k
        rw [ek, own_mul]
        exact ih (k + 1) T2 X2 e2 (by omega) (fun j hj' => by
          rcases Nat.lt_succ_iff_lt_or_eq.mp hj' with q | rfl
          · exact hj j q
          · have z := hc11; rw [Int64.lt_iff_toInt_lt, own_of _ pw.1 pw.2, Jvm.Kit.i64_of_i32] at z; exact z)
      · skip
        refine Go.s (fun kz => XS.ifYes X1.here hx rfl (pc0 := 11) (pc' := 28) rfl (hb hby own_d5_11) rfl (XT.ll_ge_t hc11) (by decide) (by decide) kz) ?_
        show Go p.tables e below P (T1.setTop (mkF m 28 #[.val (.ref a), .val (.int (Int32.ofNat k)), .val (.long (Int64.ofInt (ba.toInt ^ k))), .second] []))
        refine Go.s (fun kz => XS.iloadN X1.here hx rfl (hb hby own_d5_28) rfl kz) ?_
        show Go p.tables e below P (T1.setTop (mkF m 29 #[.val (.ref a), .val (.int (Int32.ofNat k)), .val (.long (Int64.ofInt (ba.toInt ^ k))), .second] [(.int (Int32.ofNat k))]))
        exact Go.retI X1 hx hlk hret (hb hby own_d5_29) (fun U hU hF => hP U _ _ (by rw [hU, e1]; exact ⟨⟨k, rfl, by omega, by have z := hc11; rw [Int64.lt_iff_toInt_lt, own_of _ pw.1 pw.2, Jvm.Kit.i64_of_i32] at z; omega, hj⟩, N0, rfl⟩) ⟨hF.1, hF.2.1, hF.2.2.mono (by decide) (by decide)⟩)
  have q0 := LOOP 32 0 s₁ X0 e0 rfl (fun j q => absurd q (Nat.not_lt_zero j))
  rw [show Int32.ofNat 0 = (0 : Int32) from rfl, show Int64.ofInt (ba.toInt ^ 0) = (1 : Int64) from by rw [Int.pow_zero]; rfl] at q0
  exact q0
theorem own_n (a n : Int32) (h : n = own_f1 1 (a &&& 2147483647)) : 1 ≤ n.toInt := by
  have e := Jvm.Kit.i32_mask a 2147483647 (k := 31) (by decide) (by decide)
  have c1 : (1 : Int32).toInt = 1 := rfl
  rw [h, own_f1]
  split <;> rename_i q <;> rw [Int32.lt_iff_toInt_lt] at q <;> omega
theorem own_b (a n : Int32) (h : n = own_f1 2 (a &&& 2147483647)) : 2 ≤ n.toInt := by
  have e := Jvm.Kit.i32_mask a 2147483647 (k := 31) (by decide) (by decide)
  have c1 : (2 : Int32).toInt = 2 := rfl
  rw [h, own_f1]
  split <;> rename_i q <;> rw [Int32.lt_iff_toInt_lt] at q <;> omega
theorem own_ge1 (n : Int32) (h : 1 ≤ n.toInt) : ¬ n < 1 := by rw [Int32.lt_iff_toInt_lt]; have c : (1 : Int32).toInt = 1 := rfl; omega
theorem own_ge2 (n : Int32) (h : 2 ≤ n.toInt) : ¬ n < 2 := by rw [Int32.lt_iff_toInt_lt]; have c : (2 : Int32).toInt = 2 := rfl; omega
theorem own_ofn (k : Nat) (h : k ≤ 31) : (Int32.ofNat k).toInt = k := Int32.toInt_ofNat_of_lt (by omega)
theorem own_lv (k : Nat) (h : k ≤ 31) : ¬ Int32.ofNat k < 0 ∧ ¬ 31 < Int32.ofNat k := by
  have e := own_ofn k h
  have c0 : (0 : Int32).toInt = 0 := rfl
  have c1 : (31 : Int32).toInt = 31 := rfl
  rw [Int32.lt_iff_toInt_lt, Int32.lt_iff_toInt_lt]; omega
theorem own_one (n b : Int32) (k : Nat) (h : n = 1) (hj : ∀ j, j < k → b.toInt ^ j < n.toInt) : Int32.ofNat k = 0 := by
  cases k with
  | zero => rfl
  | succ k =>
    have q := hj 0 (Nat.succ_pos k)
    rw [Int.pow_zero, h] at q
    have c1 : (1 : Int32).toInt = 1 := rfl
    omega
theorem own_plain (n b up : Int) (k1 k2 : Nat) (hb : 2 ≤ b) (hn : 2 ≤ n) (hup : up = (n - 1) / b + 1) (a1 : n ≤ b ^ k1) (a2 : ∀ j, j < k1 → b ^ j < n) (b1 : up ≤ b ^ k2) (b2 : ∀ j, j < k2 → b ^ j < up) : k1 = k2 + 1 := by
  have key : ∀ j : Nat, up ≤ b ^ j ↔ n ≤ b ^ (j + 1) := fun j => by
    have z := Int.ediv_lt_iff_lt_mul (a := n - 1) (b := b ^ j) (c := b) (by omega)
    rw [Int.pow_succ]
    omega
  have h1 := (key k2).mp b1
  have h2 : ¬ k2 + 1 < k1 := fun q => by have := a2 _ q; omega
  cases k1 with
  | zero => rw [Int.pow_zero] at a1; omega
  | succ j =>
    have h3 := (key j).mpr a1
    have h4 : ¬ j < k2 := fun q => by have := b2 _ q; omega
    omega
theorem own_up (n b up : Int32) (h : up = (n - 1) / b + 1) (hn : 1 ≤ n.toInt) (hb : 2 ≤ b.toInt) : up.toInt = (n.toInt - 1) / b.toInt + 1 := by
  have c1 : (1 : Int32).toInt = 1 := rfl
  have := n.toInt_lt
  have s : (n - 1).toInt = n.toInt - 1 := by rw [Jvm.Kit.i32_sub (by omega) (by omega), c1]
  have d : ((n - 1) / b).toInt = (n.toInt - 1) / b.toInt := by
    rw [Jvm.Kit.i32_div (by omega), s, Int.tdiv_eq_ediv_of_nonneg (by omega)]
  have := n.toInt_lt
  have g1 := Int.ediv_nonneg (a := n.toInt - 1) (b := b.toInt) (by omega) (by omega)
  have g2 : (n.toInt - 1) / b.toInt ≤ n.toInt - 1 := Int.ediv_le_self _ (by omega)
  rw [h, Jvm.Kit.i32_add (by omega) (by omega), d, c1]
theorem own_up1 (n b up : Int32) (h : up = (n - 1) / b + 1) (hn : 1 ≤ n.toInt) (hb : 2 ≤ b.toInt) : 1 ≤ up.toInt := by
  have q := own_up n b up h hn hb
  have g1 := Int.ediv_nonneg (a := n.toInt - 1) (b := b.toInt) (by omega) (by omega)
  omega
theorem own_nz (b : Int32) (hb : 2 ≤ b.toInt) : b ≠ 0 := by
  intro q; rw [q] at hb; exact absurd hb (by decide)
theorem own_last (n b up : Int32) (k1 k2 : Nat) (g1 : k1 ≤ 31) (g2 : k2 ≤ 31) (hb : 2 ≤ b.toInt) (hn : 1 ≤ n.toInt) (h1 : ¬ n = 1) (h : up = (n - 1) / b + 1) (a1 : n.toInt ≤ b.toInt ^ k1) (a2 : ∀ j, j < k1 → b.toInt ^ j < n.toInt) (b1 : up.toInt ≤ b.toInt ^ k2) (b2 : ∀ j, j < k2 → b.toInt ^ j < up.toInt) : Int32.ofNat k1 = 1 + Int32.ofNat k2 := by
  have c1 : (1 : Int32).toInt = 1 := rfl
  have hn' : n.toInt ≠ 1 := fun q => h1 (Int32.toInt_inj.mp (by rw [q, c1]))
  have q := own_plain n.toInt b.toInt up.toInt k1 k2 hb (by omega) (own_up n b up h hn hb) a1 a2 b1 b2
  have e1 := own_ofn k1 g1
  have e2 := own_ofn k2 g2
  apply Int32.toInt_inj.mp
  rw [Jvm.Kit.i32_add (by omega) (by omega)]
  omega
theorem own_ef0 (m : MethodId) (p0 : Int32) (p1 : Int32) : entryFrame m #[(.int p0), (.int p1)] maxLocals = mkF m 0 #[.val (.int p0), .val (.int p1), .unset, .unset, .unset, .unset, .unset, .unset] [] := by
  (first | (simp [entryFrame, mkF, argsToLocals, Value.category, maxLocals]; done) | rfl)
theorem own_pn_2 : plainName "com/example/heraldmesh/heraldmesh/plan/MeshDeepestLevelPinLaw" = true := by first | (simp [plainName, overriddenIn]; done) | decide +kernel
theorem own_pd_1 : parseMethodDescriptor "(II)I" = some ⟨[.int, .int], some .int⟩ := by decide +kernel
theorem own_pd_2 : parseMethodDescriptor "(II)V" = some ⟨[.int, .int], none⟩ := by decide +kernel
theorem own_pd_3 : parseMethodDescriptor "()I" = some ⟨[], some .int⟩ := by decide +kernel
set_option maxRecDepth 65536 in
set_option maxHeartbeats 40000000 in
theorem own_rm0 (l : Launch) (Z : State) (a0 : Array Value) (hw : ∀ d ∈ tables_1, d.before a0 Z = true) (ws : List Jvm.Cond) (p0 : Int32) (p1 : Int32) (h0 : Heap) (n0 : Nat) (Z0 : n0 ≤ h0.size)  :
    Con l Z x code maxLocals ret ws room_1 #[(.int p0), (.int p1)] h0 (fun v h L => v = some (.int 1) ∧ Fr n0 L) := by
  refine Con.intro (plainFor_of_name own_pn_2) ?_
  intro p e s m below meth c s₁ P hx hby hml hown hnm hret hlk hZ X0 e0 hP
  have N0 := Fr.nil n0
  have hml : c.maxLocals = 8 := hml
  have hown : s.vm.findClass "com/example/heraldmesh/heraldmesh/plan/MeshDeepestLevelPinLaw" = some m.cls := hown
  have hret : meth.sig.returnType = some .boolean := hret
  refine Go.cast (own_ef0 m p0 p1) ?_
  show Go p.tables e below P (s₁.setTop (mkF m 0 #[.val (.int p0), .val (.int p1), .unset, .unset, .unset, .unset, .unset, .unset] []))
  refine Go.s (fun kz => XS.iconst X0.here hx rfl (hb hby at_0) kz) ?_
  show Go p.tables e below P (s₁.setTop (mkF m 1 #[.val (.int p0), .val (.int p1), .unset, .unset, .unset, .unset, .unset, .unset] [(.int (1 : Int32))]))
  refine Go.s (fun kz => XS.iloadN X0.here hx rfl (hb hby at_1) rfl kz) ?_
  show Go p.tables e below P (s₁.setTop (mkF m 2 #[.val (.int p0), .val (.int p1), .unset, .unset, .unset, .unset, .unset, .unset] [(.int p0), (.int (1 : Int32))]))
  refine Go.s (fun kz => X0.ldcI hx hown (mvT hZ (hw _ (List.mem_of_getElem? (i := 0) rfl))) rfl (hb hby at_2) kz) ?_
  show Go p.tables e below P (s₁.setTop (mkF m 4 #[.val (.int p0), .val (.int p1), .unset, .unset, .unset, .unset, .unset, .unset] [(.int (2147483647 : Int32)), (.int p0), (.int (1 : Int32))]))
  refine Go.s (fun kz => XS.iand X0.here hx rfl (hb hby at_4) rfl kz) ?_
  show Go p.tables e below P (s₁.setTop (mkF m 5 #[.val (.int p0), .val (.int p1), .unset, .unset, .unset, .unset, .unset, .unset] [(.int (p0 &&& (2147483647 : Int32))), (.int (1 : Int32))]))
  obtain ⟨v1, T1, L1, X1, Q1, st1⟩ := Con.static (own_rm1 l Z a0 hw [] (1 : Int32) (p0 &&& (2147483647 : Int32)) h0 n0 Z0  ) X0 hx hZ (W := 0) hown (hw _ (List.mem_of_getElem? (i := 1) rfl)) (hw _ (List.mem_of_getElem? (i := 2) rfl)) (hw _ (List.mem_of_getElem? (i := 3) rfl)) (hw _ (List.mem_of_getElem? (i := 4) rfl)) (by decide) (by decide) (by decide) (by decide) (by decide) e0 (g := (mkF m 5 #[.val (.int p0), .val (.int p1), .unset, .unset, .unset, .unset, .unset, .unset] [(.int (p0 &&& (2147483647 : Int32))), (.int (1 : Int32))])) rfl (by rw [hml]; rfl) (argsL := [(.int (1 : Int32)), (.int (p0 &&& (2147483647 : Int32)))]) (rest := []) rfl (lenOf own_pd_1 rfl) rfl (by show 2 * 0 + _ ≤ _; exact Nat.le_of_eq rfl) (hb hby at_5)
  obtain ⟨rfl, Nq1, e1⟩ := Q1
  have N1 := Fr.app N0 Nq1
  refine Go.s (fun {t} => st1) ?_
  show Go p.tables e below P (T1.setTop (mkF m 8 #[.val (.int p0), .val (.int p1), .unset, .unset, .unset, .unset, .unset, .unset] [(.int (own_f1 (1 : Int32) (p0 &&& (2147483647 : Int32))))]))
  refine Go.s (fun kz => XS.istoreN X1.here hx rfl (hb hby at_8) rfl (l' := #[.val (.int p0), .val (.int p1), .val (.int (own_f1 (1 : Int32) (p0 &&& (2147483647 : Int32)))), .unset, .unset, .unset, .unset, .unset]) rfl kz) ?_
  show Go p.tables e below P (T1.setTop (mkF m 9 #[.val (.int p0), .val (.int p1), .val (.int (own_f1 (1 : Int32) (p0 &&& (2147483647 : Int32)))), .unset, .unset, .unset, .unset, .unset] []))
  refine (?_ : ∀ n : Int32, n = (own_f1 (1 : Int32) (p0 &&& (2147483647 : Int32))) → Go p.tables e below P (T1.setTop (mkF m 9 #[.val (.int p0), .val (.int p1), .val (.int n), .unset, .unset, .unset, .unset, .unset] []))) _ rfl
  intro n hn
  have h1 := own_n p0 n hn
  have hp1_n := own_ge1 n h1
  refine Go.s (fun kz => XS.iconst X1.here hx rfl (hb hby at_9) kz) ?_
  show Go p.tables e below P (T1.setTop (mkF m 10 #[.val (.int p0), .val (.int p1), .val (.int n), .unset, .unset, .unset, .unset, .unset] [(.int (2 : Int32))]))
  refine Go.s (fun kz => XS.iloadN X1.here hx rfl (hb hby at_10) rfl kz) ?_
  show Go p.tables e below P (T1.setTop (mkF m 11 #[.val (.int p0), .val (.int p1), .val (.int n), .unset, .unset, .unset, .unset, .unset] [(.int p1), (.int (2 : Int32))]))
  refine Go.s (fun kz => X1.ldcI hx hown (mvT hZ (hw _ (List.mem_of_getElem? (i := 0) rfl))) rfl (hb hby at_11) kz) ?_
  show Go p.tables e below P (T1.setTop (mkF m 13 #[.val (.int p0), .val (.int p1), .val (.int n), .unset, .unset, .unset, .unset, .unset] [(.int (2147483647 : Int32)), (.int p1), (.int (2 : Int32))]))
  refine Go.s (fun kz => XS.iand X1.here hx rfl (hb hby at_13) rfl kz) ?_
  show Go p.tables e below P (T1.setTop (mkF m 14 #[.val (.int p0), .val (.int p1), .val (.int n), .unset, .unset, .unset, .unset, .unset] [(.int (p1 &&& (2147483647 : Int32))), (.int (2 : Int32))]))
  obtain ⟨v2, T2, L2, X2, Q2, st2⟩ := Con.static (own_rm1 l Z a0 hw [] (2 : Int32) (p1 &&& (2147483647 : Int32)) h0 n0 Z0  ) X1 hx hZ (W := 0) hown (hw _ (List.mem_of_getElem? (i := 1) rfl)) (hw _ (List.mem_of_getElem? (i := 2) rfl)) (hw _ (List.mem_of_getElem? (i := 3) rfl)) (hw _ (List.mem_of_getElem? (i := 4) rfl)) (by decide) (by decide) (by decide) (by decide) (by decide) e1 (g := (mkF m 14 #[.val (.int p0), .val (.int p1), .val (.int n), .unset, .unset, .unset, .unset, .unset] [(.int (p1 &&& (2147483647 : Int32))), (.int (2 : Int32))])) rfl (by rw [hml]; rfl) (argsL := [(.int (2 : Int32)), (.int (p1 &&& (2147483647 : Int32)))]) (rest := []) rfl (lenOf own_pd_1 rfl) rfl (by show 2 * 0 + _ ≤ _; exact Nat.le_of_eq rfl) (hb hby at_14)
  obtain ⟨rfl, Nq2, e2⟩ := Q2
  have N2 := Fr.app N1 Nq2
  refine Go.s (fun {t} => st2) ?_
  show Go p.tables e below P (T2.setTop (mkF m 17 #[.val (.int p0), .val (.int p1), .val (.int n), .unset, .unset, .unset, .unset, .unset] [(.int (own_f1 (2 : Int32) (p1 &&& (2147483647 : Int32))))]))
  refine Go.s (fun kz => XS.istoreN X2.here hx rfl (hb hby at_17) rfl (l' := #[.val (.int p0), .val (.int p1), .val (.int n), .val (.int (own_f1 (2 : Int32) (p1 &&& (2147483647 : Int32)))), .unset, .unset, .unset, .unset]) rfl kz) ?_
  show Go p.tables e below P (T2.setTop (mkF m 18 #[.val (.int p0), .val (.int p1), .val (.int n), .val (.int (own_f1 (2 : Int32) (p1 &&& (2147483647 : Int32)))), .unset, .unset, .unset, .unset] []))
  refine (?_ : ∀ b : Int32, b = (own_f1 (2 : Int32) (p1 &&& (2147483647 : Int32))) → Go p.tables e below P (T2.setTop (mkF m 18 #[.val (.int p0), .val (.int p1), .val (.int n), .val (.int b), .unset, .unset, .unset, .unset] []))) _ rfl
  intro b hbx
  have hb2 := own_b p1 b hbx
  have hp2 := own_ge2 b hb2
  obtain ⟨T3, H3, X3, e3, E3, A3, D3, U3, st3⟩ := newO X2 hx hZ hown (hw _ (List.mem_of_getElem? (i := 5) rfl)) (hw _ (List.mem_of_getElem? (i := 6) rfl)) (hw _ (List.mem_of_getElem? (i := 7) rfl)) e2 (g := (mkF m 18 #[.val (.int p0), .val (.int p1), .val (.int n), .val (.int b), .unset, .unset, .unset, .unset] [])) rfl (hb hby at_18) (by decide) (by decide)
  refine Go.s (fun {t} => st3 t) ?_
  obtain ⟨b3, g3⟩ : ∃ z, z = h0.size := ⟨_, rfl⟩
  rw [← g3] at A3 D3 U3
  rw [← g3]
  have G_b3 : n0 ≤ b3 := Nat.le_trans Z0 (Nat.le_of_eq g3.symm)
  have Zs3 := Nat.le_trans Z0 E3.1
  have Kn3 := Kn.of_new U3
  show Go p.tables e below P (T3.setTop (mkF m 21 #[.val (.int p0), .val (.int p1), .val (.int n), .val (.int b), .unset, .unset, .unset, .unset] [(.ref b3)]))
  refine Go.s (fun kz => XS.dup X3.here hx rfl (hb hby at_21) rfl rfl kz) ?_
  show Go p.tables e below P (T3.setTop (mkF m 22 #[.val (.int p0), .val (.int p1), .val (.int n), .val (.int b), .unset, .unset, .unset, .unset] [(.ref b3), (.ref b3)]))
  refine Go.s (fun kz => XS.iloadN X3.here hx rfl (hb hby at_22) rfl kz) ?_
  show Go p.tables e below P (T3.setTop (mkF m 23 #[.val (.int p0), .val (.int p1), .val (.int n), .val (.int b), .unset, .unset, .unset, .unset] [(.int n), (.ref b3), (.ref b3)]))
  refine Go.s (fun kz => XS.iloadN X3.here hx rfl (hb hby at_23) rfl kz) ?_
  show Go p.tables e below P (T3.setTop (mkF m 24 #[.val (.int p0), .val (.int p1), .val (.int n), .val (.int b), .unset, .unset, .unset, .unset] [(.int b), (.int n), (.ref b3), (.ref b3)]))
  obtain ⟨v4, T4, L4, X4, Q4, st4⟩ := Con.special (own_rm2 l Z a0 hw [] b3 n b H3 n0 Zs3 A3 Kn3 G_b3  hp1_n hp2) rfl X3 hx hZ (W := 1) hown (hw _ (List.mem_of_getElem? (i := 8) rfl)) (hw _ (List.mem_of_getElem? (i := 9) rfl)) (hw _ (List.mem_of_getElem? (i := 7) rfl)) (hw _ (List.mem_of_getElem? (i := 10) rfl)) (by decide) (by decide) (by decide) (by decide) (by decide) e3 (g := (mkF m 24 #[.val (.int p0), .val (.int p1), .val (.int n), .val (.int b), .unset, .unset, .unset, .unset] [(.int b), (.int n), (.ref b3), (.ref b3)])) rfl (by rw [hml]; rfl) (argsL := [(.int n), (.int b)]) (rest := [(.ref b3)]) rfl (lenOf own_pd_2 rfl) rfl (by show 2 * 0 + _ ≤ _; exact Nat.le_of_eq rfl) (hb hby at_24)
  obtain ⟨H4, e4⟩ : ∃ z, T4.heap = z := ⟨_, rfl⟩
  rw [e4] at Q4
  obtain ⟨rfl, Nq4, Kq4, Fq4_base, Fq4_nodes⟩ := Q4
  have N4 := Fr.app N2 Nq4
  have Zs4 := Nat.le_trans Zs3 Kq4.1
  have A3_5 := Exa.keep A3 Kq4
  have Kn3_6 := Kn.keep Kn3 Kq4
  refine Go.s (fun {t} => st4) ?_
  show Go p.tables e below P (T4.setTop (mkF m 27 #[.val (.int p0), .val (.int p1), .val (.int n), .val (.int b), .unset, .unset, .unset, .unset] [(.ref b3)]))
  refine Go.s (fun kz => XS.astore X4.here hx rfl (hb hby at_27) rfl rfl (l' := #[.val (.int p0), .val (.int p1), .val (.int n), .val (.int b), .val (.ref b3), .unset, .unset, .unset]) rfl kz) ?_
  show Go p.tables e below P (T4.setTop (mkF m 29 #[.val (.int p0), .val (.int p1), .val (.int n), .val (.int b), .val (.ref b3), .unset, .unset, .unset] []))
  refine Go.s (fun kz => XS.aload X4.here hx rfl (hb hby at_29) rfl rfl kz) ?_
  show Go p.tables e below P (T4.setTop (mkF m 31 #[.val (.int p0), .val (.int p1), .val (.int n), .val (.int b), .val (.ref b3), .unset, .unset, .unset] [(.ref b3)]))
  obtain ⟨v7, T7, L7, X7, Q7, st7⟩ := Con.virtual (own_rm5 l Z a0 hw [] b3 n b H4 n0 Zs4 Fq4_nodes Fq4_base hb2) X4 hx hZ (W := 0) hown (hw _ (List.mem_of_getElem? (i := 23) rfl)) (hw _ (List.mem_of_getElem? (i := 24) rfl)) (hw _ (List.mem_of_getElem? (i := 26) rfl)) (hw _ (List.mem_of_getElem? (i := 25) rfl)) (hw _ (List.mem_of_getElem? (i := 7) rfl)) (hw _ (List.mem_of_getElem? (i := 27) rfl)) (by decide) (by decide) (by decide) (by decide) (by decide) e4 (g := (mkF m 31 #[.val (.int p0), .val (.int p1), .val (.int n), .val (.int b), .val (.ref b3), .unset, .unset, .unset] [(.ref b3)])) rfl (by rw [hml]; rfl) A3_5 (argsL := []) (rest := []) rfl (lenOf own_pd_3 rfl) rfl (by show 2 * 0 + _ ≤ _; exact Nat.le_of_eq rfl) (hb hby at_31)
  obtain ⟨⟨k7, rfl, hk7, hn7, hj7⟩, Nq7, e7⟩ := Q7
  have N7 := Fr.app N4 Nq7
  refine Go.s (fun {t} => st7) ?_
  show Go p.tables e below P (T7.setTop (mkF m 34 #[.val (.int p0), .val (.int p1), .val (.int n), .val (.int b), .val (.ref b3), .unset, .unset, .unset] [(.int (Int32.ofNat k7))]))
  refine Go.s (fun kz => XS.istore X7.here hx rfl (hb hby at_34) rfl (l' := #[.val (.int p0), .val (.int p1), .val (.int n), .val (.int b), .val (.ref b3), .val (.int (Int32.ofNat k7)), .unset, .unset]) rfl kz) ?_
  show Go p.tables e below P (T7.setTop (mkF m 36 #[.val (.int p0), .val (.int p1), .val (.int n), .val (.int b), .val (.ref b3), .val (.int (Int32.ofNat k7)), .unset, .unset] []))
  refine Go.s (fun kz => XS.iload X7.here hx rfl (hb hby at_36) rfl kz) ?_
  show Go p.tables e below P (T7.setTop (mkF m 38 #[.val (.int p0), .val (.int p1), .val (.int n), .val (.int b), .val (.ref b3), .val (.int (Int32.ofNat k7)), .unset, .unset] [(.int (Int32.ofNat k7))]))
  refine Go.s (fun kz => XS.ifNo X7.here hx rfl (hb hby at_38) rfl (XT.i0_lt_f (own_lv k7 hk7).1) kz) ?_
  show Go p.tables e below P (T7.setTop (mkF m 41 #[.val (.int p0), .val (.int p1), .val (.int n), .val (.int b), .val (.ref b3), .val (.int (Int32.ofNat k7)), .unset, .unset] []))
  refine Go.s (fun kz => XS.iload X7.here hx rfl (hb hby at_41) rfl kz) ?_
  show Go p.tables e below P (T7.setTop (mkF m 43 #[.val (.int p0), .val (.int p1), .val (.int n), .val (.int b), .val (.ref b3), .val (.int (Int32.ofNat k7)), .unset, .unset] [(.int (Int32.ofNat k7))]))
  refine Go.s (fun kz => XS.bipush X7.here hx rfl (hb hby at_43) kz) ?_
  show Go p.tables e below P (T7.setTop (mkF m 45 #[.val (.int p0), .val (.int p1), .val (.int n), .val (.int b), .val (.ref b3), .val (.int (Int32.ofNat k7)), .unset, .unset] [(.int (31 : Int32)), (.int (Int32.ofNat k7))]))
  refine Go.s (fun kz => XS.icmpYes X7.here hx rfl (pc0 := 45) (pc' := 50) rfl (hb hby at_45) rfl (XT.ii_le_t (own_lv k7 hk7).2) (by decide) (by decide) kz) ?_
  show Go p.tables e below P (T7.setTop (mkF m 50 #[.val (.int p0), .val (.int p1), .val (.int n), .val (.int b), .val (.ref b3), .val (.int (Int32.ofNat k7)), .unset, .unset] []))
  refine Go.s (fun kz => XS.iloadN X7.here hx rfl (hb hby at_50) rfl kz) ?_
  show Go p.tables e below P (T7.setTop (mkF m 51 #[.val (.int p0), .val (.int p1), .val (.int n), .val (.int b), .val (.ref b3), .val (.int (Int32.ofNat k7)), .unset, .unset] [(.int n)]))
  refine Go.s (fun kz => XS.iconst X7.here hx rfl (hb hby at_51) kz) ?_
  show Go p.tables e below P (T7.setTop (mkF m 52 #[.val (.int p0), .val (.int p1), .val (.int n), .val (.int b), .val (.ref b3), .val (.int (Int32.ofNat k7)), .unset, .unset] [(.int (1 : Int32)), (.int n)]))
  by_cases hc52 : n = (1 : Int32)
  · skip
    refine Go.s (fun kz => XS.icmpNo X7.here hx rfl (hb hby at_52) rfl (XT.ii_ne_f hc52) kz) ?_
    show Go p.tables e below P (T7.setTop (mkF m 55 #[.val (.int p0), .val (.int p1), .val (.int n), .val (.int b), .val (.ref b3), .val (.int (Int32.ofNat k7)), .unset, .unset] []))
    refine Go.s (fun kz => XS.iload X7.here hx rfl (hb hby at_55) rfl kz) ?_
    show Go p.tables e below P (T7.setTop (mkF m 57 #[.val (.int p0), .val (.int p1), .val (.int n), .val (.int b), .val (.ref b3), .val (.int (Int32.ofNat k7)), .unset, .unset] [(.int (Int32.ofNat k7))]))
    refine Go.s (fun kz => XS.ifNo X7.here hx rfl (hb hby at_57) rfl (XT.i0_ne_f (own_one n b k7 hc52 hj7)) kz) ?_
    show Go p.tables e below P (T7.setTop (mkF m 60 #[.val (.int p0), .val (.int p1), .val (.int n), .val (.int b), .val (.ref b3), .val (.int (Int32.ofNat k7)), .unset, .unset] []))
    refine Go.s (fun kz => XS.iconst X7.here hx rfl (hb hby at_60) kz) ?_
    show Go p.tables e below P (T7.setTop (mkF m 61 #[.val (.int p0), .val (.int p1), .val (.int n), .val (.int b), .val (.ref b3), .val (.int (Int32.ofNat k7)), .unset, .unset] [(.int (1 : Int32))]))
    refine Go.s (fun kz => XS.goto X7.here hx rfl (pc0 := 61) (pc' := 65) rfl (hb hby at_61) (by decide) (by decide) kz) ?_
    show Go p.tables e below P (T7.setTop (mkF m 65 #[.val (.int p0), .val (.int p1), .val (.int n), .val (.int b), .val (.ref b3), .val (.int (Int32.ofNat k7)), .unset, .unset] [(.int (1 : Int32))]))
    exact Go.retZ X7 hx hlk hret (by decide) (hb hby at_65) (fun U hU hF => hP U _ _ ⟨rfl, N7⟩ ⟨hF.1, hF.2.1, hF.2.2.mono (by decide) (by decide)⟩)
  · skip
    refine Go.s (fun kz => XS.icmpYes X7.here hx rfl (pc0 := 52) (pc' := 66) rfl (hb hby at_52) rfl (XT.ii_ne_t hc52) (by decide) (by decide) kz) ?_
    show Go p.tables e below P (T7.setTop (mkF m 66 #[.val (.int p0), .val (.int p1), .val (.int n), .val (.int b), .val (.ref b3), .val (.int (Int32.ofNat k7)), .unset, .unset] []))
    refine Go.s (fun kz => XS.iloadN X7.here hx rfl (hb hby at_66) rfl kz) ?_
    show Go p.tables e below P (T7.setTop (mkF m 67 #[.val (.int p0), .val (.int p1), .val (.int n), .val (.int b), .val (.ref b3), .val (.int (Int32.ofNat k7)), .unset, .unset] [(.int n)]))
    refine Go.s (fun kz => XS.iconst X7.here hx rfl (hb hby at_67) kz) ?_
    show Go p.tables e below P (T7.setTop (mkF m 68 #[.val (.int p0), .val (.int p1), .val (.int n), .val (.int b), .val (.ref b3), .val (.int (Int32.ofNat k7)), .unset, .unset] [(.int (1 : Int32)), (.int n)]))
    refine Go.s (fun kz => XS.isub X7.here hx rfl (hb hby at_68) rfl kz) ?_
    show Go p.tables e below P (T7.setTop (mkF m 69 #[.val (.int p0), .val (.int p1), .val (.int n), .val (.int b), .val (.ref b3), .val (.int (Int32.ofNat k7)), .unset, .unset] [(.int (n - (1 : Int32)))]))
    refine Go.s (fun kz => XS.iloadN X7.here hx rfl (hb hby at_69) rfl kz) ?_
    show Go p.tables e below P (T7.setTop (mkF m 70 #[.val (.int p0), .val (.int p1), .val (.int n), .val (.int b), .val (.ref b3), .val (.int (Int32.ofNat k7)), .unset, .unset] [(.int b), (.int (n - (1 : Int32)))]))
    refine Go.s (fun kz => XS.idiv X7.here hx rfl (hb hby at_70) rfl (own_nz b hb2) kz) ?_
    show Go p.tables e below P (T7.setTop (mkF m 71 #[.val (.int p0), .val (.int p1), .val (.int n), .val (.int b), .val (.ref b3), .val (.int (Int32.ofNat k7)), .unset, .unset] [(.int ((n - (1 : Int32)) / b))]))
    refine Go.s (fun kz => XS.iconst X7.here hx rfl (hb hby at_71) kz) ?_
    show Go p.tables e below P (T7.setTop (mkF m 72 #[.val (.int p0), .val (.int p1), .val (.int n), .val (.int b), .val (.ref b3), .val (.int (Int32.ofNat k7)), .unset, .unset] [(.int (1 : Int32)), (.int ((n - (1 : Int32)) / b))]))
    refine Go.s (fun kz => XS.iadd X7.here hx rfl (hb hby at_72) rfl kz) ?_
    show Go p.tables e below P (T7.setTop (mkF m 73 #[.val (.int p0), .val (.int p1), .val (.int n), .val (.int b), .val (.ref b3), .val (.int (Int32.ofNat k7)), .unset, .unset] [(.int (((n - (1 : Int32)) / b) + (1 : Int32)))]))
    refine Go.s (fun kz => XS.istore X7.here hx rfl (hb hby at_73) rfl (l' := #[.val (.int p0), .val (.int p1), .val (.int n), .val (.int b), .val (.ref b3), .val (.int (Int32.ofNat k7)), .val (.int (((n - (1 : Int32)) / b) + (1 : Int32))), .unset]) rfl kz) ?_
    show Go p.tables e below P (T7.setTop (mkF m 75 #[.val (.int p0), .val (.int p1), .val (.int n), .val (.int b), .val (.ref b3), .val (.int (Int32.ofNat k7)), .val (.int (((n - (1 : Int32)) / b) + (1 : Int32))), .unset] []))
    refine (?_ : ∀ up : Int32, up = (((n - (1 : Int32)) / b) + (1 : Int32)) → Go p.tables e below P (T7.setTop (mkF m 75 #[.val (.int p0), .val (.int p1), .val (.int n), .val (.int b), .val (.ref b3), .val (.int (Int32.ofNat k7)), .val (.int up), .unset] []))) _ rfl
    intro up hup
    have hp1_up := own_ge1 up (own_up1 n b up hup h1 hb2)
    obtain ⟨T8, H8, X8, e8, E8, A8, D8, U8, st8⟩ := newO X7 hx hZ hown (hw _ (List.mem_of_getElem? (i := 5) rfl)) (hw _ (List.mem_of_getElem? (i := 6) rfl)) (hw _ (List.mem_of_getElem? (i := 7) rfl)) e7 (g := (mkF m 75 #[.val (.int p0), .val (.int p1), .val (.int n), .val (.int b), .val (.ref b3), .val (.int (Int32.ofNat k7)), .val (.int up), .unset] [])) rfl (hb hby at_75) (by decide) (by decide)
    refine Go.s (fun {t} => st8 t) ?_
    obtain ⟨b8, g8⟩ : ∃ z, z = H4.size := ⟨_, rfl⟩
    rw [← g8] at A8 D8 U8
    rw [← g8]
    have ne_b3_b8 : b3 ≠ b8 := Nat.ne_of_lt (Nat.lt_of_lt_of_le A3_5.lt (Nat.le_of_eq g8.symm))
    have A3_9 := Exa.ext E8 A3_5
    have Kn3_10 := Kn.ext Kn3_6 E8
    have Fq4_base_11 := Fld.ext E8 Fq4_base
    have Fq4_nodes_12 := Fld.ext E8 Fq4_nodes
    have G_b8 : n0 ≤ b8 := Nat.le_trans Zs4 (Nat.le_of_eq g8.symm)
    have Zs8 := Nat.le_trans Zs4 E8.1
    have Kn8 := Kn.of_new U8
    show Go p.tables e below P (T8.setTop (mkF m 78 #[.val (.int p0), .val (.int p1), .val (.int n), .val (.int b), .val (.ref b3), .val (.int (Int32.ofNat k7)), .val (.int up), .unset] [(.ref b8)]))
    refine Go.s (fun kz => XS.dup X8.here hx rfl (hb hby at_78) rfl rfl kz) ?_
    show Go p.tables e below P (T8.setTop (mkF m 79 #[.val (.int p0), .val (.int p1), .val (.int n), .val (.int b), .val (.ref b3), .val (.int (Int32.ofNat k7)), .val (.int up), .unset] [(.ref b8), (.ref b8)]))
    refine Go.s (fun kz => XS.iload X8.here hx rfl (hb hby at_79) rfl kz) ?_
    show Go p.tables e below P (T8.setTop (mkF m 81 #[.val (.int p0), .val (.int p1), .val (.int n), .val (.int b), .val (.ref b3), .val (.int (Int32.ofNat k7)), .val (.int up), .unset] [(.int up), (.ref b8), (.ref b8)]))
    refine Go.s (fun kz => XS.iloadN X8.here hx rfl (hb hby at_81) rfl kz) ?_
    show Go p.tables e below P (T8.setTop (mkF m 82 #[.val (.int p0), .val (.int p1), .val (.int n), .val (.int b), .val (.ref b3), .val (.int (Int32.ofNat k7)), .val (.int up), .unset] [(.int b), (.int up), (.ref b8), (.ref b8)]))
    obtain ⟨v13, T13, L13, X13, Q13, st13⟩ := Con.special (own_rm2 l Z a0 hw [] b8 up b H8 n0 Zs8 A8 Kn8 G_b8  hp1_up hp2) rfl X8 hx hZ (W := 1) hown (hw _ (List.mem_of_getElem? (i := 8) rfl)) (hw _ (List.mem_of_getElem? (i := 9) rfl)) (hw _ (List.mem_of_getElem? (i := 7) rfl)) (hw _ (List.mem_of_getElem? (i := 10) rfl)) (by decide) (by decide) (by decide) (by decide) (by decide) e8 (g := (mkF m 82 #[.val (.int p0), .val (.int p1), .val (.int n), .val (.int b), .val (.ref b3), .val (.int (Int32.ofNat k7)), .val (.int up), .unset] [(.int b), (.int up), (.ref b8), (.ref b8)])) rfl (by rw [hml]; rfl) (argsL := [(.int up), (.int b)]) (rest := [(.ref b8)]) rfl (lenOf own_pd_2 rfl) rfl (by show 2 * 0 + _ ≤ _; exact Nat.le_of_eq rfl) (hb hby at_82)
    obtain ⟨H13, e13⟩ : ∃ z, T13.heap = z := ⟨_, rfl⟩
    rw [e13] at Q13
    obtain ⟨rfl, Nq13, Kq13, Fq13_base, Fq13_nodes⟩ := Q13
    have N13 := Fr.app N7 Nq13
    have Zs13 := Nat.le_trans Zs8 Kq13.1
    have A3_14 := Exa.keep A3_9 Kq13
    have Kn3_15 := Kn.keep Kn3_10 Kq13
    have Fq4_base_16 := Fld.keep Fq4_base_11 Kq13 (ninS ne_b3_b8 nin0)
    have Fq4_nodes_17 := Fld.keep Fq4_nodes_12 Kq13 (ninS ne_b3_b8 nin0)
    have A8_18 := Exa.keep A8 Kq13
    have Kn8_19 := Kn.keep Kn8 Kq13
    refine Go.s (fun {t} => st13) ?_
    show Go p.tables e below P (T13.setTop (mkF m 85 #[.val (.int p0), .val (.int p1), .val (.int n), .val (.int b), .val (.ref b3), .val (.int (Int32.ofNat k7)), .val (.int up), .unset] [(.ref b8)]))
    refine Go.s (fun kz => XS.astore X13.here hx rfl (hb hby at_85) rfl rfl (l' := #[.val (.int p0), .val (.int p1), .val (.int n), .val (.int b), .val (.ref b3), .val (.int (Int32.ofNat k7)), .val (.int up), .val (.ref b8)]) rfl kz) ?_
    show Go p.tables e below P (T13.setTop (mkF m 87 #[.val (.int p0), .val (.int p1), .val (.int n), .val (.int b), .val (.ref b3), .val (.int (Int32.ofNat k7)), .val (.int up), .val (.ref b8)] []))
    refine Go.s (fun kz => XS.iload X13.here hx rfl (hb hby at_87) rfl kz) ?_
    show Go p.tables e below P (T13.setTop (mkF m 89 #[.val (.int p0), .val (.int p1), .val (.int n), .val (.int b), .val (.ref b3), .val (.int (Int32.ofNat k7)), .val (.int up), .val (.ref b8)] [(.int (Int32.ofNat k7))]))
    refine Go.s (fun kz => XS.iconst X13.here hx rfl (hb hby at_89) kz) ?_
    show Go p.tables e below P (T13.setTop (mkF m 90 #[.val (.int p0), .val (.int p1), .val (.int n), .val (.int b), .val (.ref b3), .val (.int (Int32.ofNat k7)), .val (.int up), .val (.ref b8)] [(.int (1 : Int32)), (.int (Int32.ofNat k7))]))
    refine Go.s (fun kz => XS.aload X13.here hx rfl (hb hby at_90) rfl rfl kz) ?_
    show Go p.tables e below P (T13.setTop (mkF m 92 #[.val (.int p0), .val (.int p1), .val (.int n), .val (.int b), .val (.ref b3), .val (.int (Int32.ofNat k7)), .val (.int up), .val (.ref b8)] [(.ref b8), (.int (1 : Int32)), (.int (Int32.ofNat k7))]))
    obtain ⟨v20, T20, L20, X20, Q20, st20⟩ := Con.virtual (own_rm5 l Z a0 hw [] b8 up b H13 n0 Zs13 Fq13_nodes Fq13_base hb2) X13 hx hZ (W := 2) hown (hw _ (List.mem_of_getElem? (i := 23) rfl)) (hw _ (List.mem_of_getElem? (i := 24) rfl)) (hw _ (List.mem_of_getElem? (i := 26) rfl)) (hw _ (List.mem_of_getElem? (i := 25) rfl)) (hw _ (List.mem_of_getElem? (i := 7) rfl)) (hw _ (List.mem_of_getElem? (i := 27) rfl)) (by decide) (by decide) (by decide) (by decide) (by decide) e13 (g := (mkF m 92 #[.val (.int p0), .val (.int p1), .val (.int n), .val (.int b), .val (.ref b3), .val (.int (Int32.ofNat k7)), .val (.int up), .val (.ref b8)] [(.ref b8), (.int (1 : Int32)), (.int (Int32.ofNat k7))])) rfl (by rw [hml]; rfl) A8_18 (argsL := []) (rest := [(.int (1 : Int32)), (.int (Int32.ofNat k7))]) rfl (lenOf own_pd_3 rfl) rfl (by show 2 * 0 + _ ≤ _; exact Nat.le_of_eq rfl) (hb hby at_92)
    obtain ⟨⟨k20, rfl, hk20, hn20, hj20⟩, Nq20, e20⟩ := Q20
    have N20 := Fr.app N13 Nq20
    refine Go.s (fun {t} => st20) ?_
    show Go p.tables e below P (T20.setTop (mkF m 95 #[.val (.int p0), .val (.int p1), .val (.int n), .val (.int b), .val (.ref b3), .val (.int (Int32.ofNat k7)), .val (.int up), .val (.ref b8)] [(.int (Int32.ofNat k20)), (.int (1 : Int32)), (.int (Int32.ofNat k7))]))
    refine Go.s (fun kz => XS.iadd X20.here hx rfl (hb hby at_95) rfl kz) ?_
    show Go p.tables e below P (T20.setTop (mkF m 96 #[.val (.int p0), .val (.int p1), .val (.int n), .val (.int b), .val (.ref b3), .val (.int (Int32.ofNat k7)), .val (.int up), .val (.ref b8)] [(.int ((1 : Int32) + (Int32.ofNat k20))), (.int (Int32.ofNat k7))]))
    refine Go.s (fun kz => XS.icmpNo X20.here hx rfl (hb hby at_96) rfl (XT.ii_ne_f (own_last n b up k7 k20 hk7 hk20 hb2 h1 hc52 hup hn7 hj7 hn20 hj20)) kz) ?_
    show Go p.tables e below P (T20.setTop (mkF m 99 #[.val (.int p0), .val (.int p1), .val (.int n), .val (.int b), .val (.ref b3), .val (.int (Int32.ofNat k7)), .val (.int up), .val (.ref b8)] []))
    refine Go.s (fun kz => XS.iconst X20.here hx rfl (hb hby at_99) kz) ?_
    show Go p.tables e below P (T20.setTop (mkF m 100 #[.val (.int p0), .val (.int p1), .val (.int n), .val (.int b), .val (.ref b3), .val (.int (Int32.ofNat k7)), .val (.int up), .val (.ref b8)] [(.int (1 : Int32))]))
    refine Go.s (fun kz => XS.goto X20.here hx rfl (pc0 := 100) (pc' := 104) rfl (hb hby at_100) (by decide) (by decide) kz) ?_
    show Go p.tables e below P (T20.setTop (mkF m 104 #[.val (.int p0), .val (.int p1), .val (.int n), .val (.int b), .val (.ref b3), .val (.int (Int32.ofNat k7)), .val (.int up), .val (.ref b8)] [(.int (1 : Int32))]))
    exact Go.retZ X20 hx hlk hret (by decide) (hb hby at_104) (fun U hU hF => hP U _ _ ⟨rfl, N20⟩ ⟨hF.1, hF.2.1, hF.2.2.mono (by decide) (by decide)⟩)
set_option maxRecDepth 65536 in
set_option maxHeartbeats 40000000 in
theorem own_comes {Post : Tables → Env → Array Value → State → Outcome → State → Prop} (hpost : ∀ tb e args s v u, (limb_1_1.after args s (.returned v) u = true ∧ limb_1_2.after args s (.returned v) u = true ∧ True) → FrameEnd s (.returned v) u (Jvm.fieldLocs frame_1_writes args s ++ Jvm.arrayLocs frame_1_arrays args s ++ Jvm.staticLocs frame_1_statics s) 16 128 → Post tb e args s (.returned v) u) :
    ArmFor flags0 classFile x code maxLocals ret World_1 tables_1 room_1 Calls_1 rest_1 Pre_1 Post := by
  intro l hfl _ _ p e ha hc hk s m args below hf hA hF happ hP
  obtain ⟨hcalls, hrest, hpre⟩ := hP
  obtain ⟨-, -, -, hnamed, -, -, -, hat⟩ := (Spec.applies_iff hf).mp happ
  obtain ⟨hg, hn⟩ := and_e (Cond.before_iff.mp (show (Jvm.Cond.and given_1 narrow_1).before args s = true from hpre))
  obtain ⟨h1, g1⟩ := and_e hg
  obtain ⟨w0, w1, rfl⟩ : ∃ w0 w1 : Value, args = #[w0, w1] := by
    have hs : args.size = 2 := by simpa [Cond.value, given_1] using h1
    obtain ⟨L⟩ := args
    match L, hs with
    | [w0, w1], _ => exact ⟨w0, w1, rfl⟩
  have hw := fun d (hd : d ∈ tables_1) => atoms_spec (ws := Jvm.Cond.code x code maxLocals ret :: tables_1) hat d (List.mem_cons_of_mem _ hd)
  have hfit : Fit s := fun {y c} hc i hi => by
    obtain ⟨ha, rfl⟩ := Array.getElem?_eq_some_iff.mp hc
    have q := List.all_eq_true.mp ((Array.all_eq_true_iff_forall_mem.mp hF) _ (Array.getElem_mem ha)) i (List.mem_range.mpr hi)
    simpa [Array.getElem?_eq_getElem hi] using q
  obtain ⟨a0, g2⟩ := and_e g1
  obtain ⟨i0, ee0⟩ := is_v a0
  obtain rfl : w0 = (.int i0) := Option.some.inj ee0
  obtain ⟨i1, ee1⟩ := is_v g2
  obtain rfl : w1 = (.int i1) := Option.some.inj ee1
  obtain ⟨n, o, h1, h2, h3, _, L, rfl, ⟨rfl, N⟩, hq⟩ := own_rm0 l s _ hw tables_1 i0 i1  s.heap s.heap.size (Nat.le_refl _)  p e ha hc hk s m _ below hf ((Spec.applies_iff_loose hf).mp happ).1 ⟨rfl, State.Warmed39.refl s, rfl⟩ trivial
  refine ⟨n, _, h1, h2, h3, hpost _ _ _ _ _ _ ⟨Cond.after_iff.mpr rfl, Cond.after_iff.mpr (eq_i res_at (Term.int_eval (1)) rfl), trivial⟩ ⟨hq.1, hq.2.1, (hq.2.2.sift fun y hy => Or.inr (N y hy)).mono (by decide) (by decide)⟩⟩
theorem main_1_1 : Claimed_1_1 := own_comes fun _ _ _ _ _ _ h hF => ⟨h.1, hF⟩
theorem main_1_2 : Claimed_1_2 := own_comes fun _ _ _ _ _ _ h hF => ⟨h.2.1, hF⟩
end Jvm.Pilot.@@N@@
namespace Jvm.Pilot.@@N@@
open Jvm Jvm.ClassFile Sem Op Lib Jvm.Free Jvm.Stand Jvm.Pilot.@@N@@.Jvm.D
/-! MADE BY PROGRAM (witnessworld.py) out of the Statement's table words and the real class files: 11 classes; the members and pool entries that the words name. The judged class is class 1, her method 1. -/
namespace start1
open Jvm.ClassFile
def u (s : String) : CpInfo := .utf8 (stringToUtf16 s)
/-- a pool by its gaps: so many unusable entries, then the entry; so many at the end -/
def gap : Nat → List CpInfo → List CpInfo
  | 0, r => r
  | n + 1, r => .unusable :: gap n r
def poolList (es : List (Nat × CpInfo)) (last : Nat) : List CpInfo := es.foldr (fun e r => gap e.1 (e.2 :: r)) (gap last [])
def pool (es : List (Nat × CpInfo)) (last : Nat) : Array CpInfo := ⟨poolList es last⟩
def fileOf (pool : Array CpInfo) (this : Nat) (attrs : Array Attribute := #[]) (ms : Array MethodInfo := #[]) (fl : Nat := 33) (sup : Nat := 0) (ifs : Array Nat := #[]) (fds : Array FieldInfo := #[]) : ClassFile where
  minorVersion := 0
  majorVersion := 65
  constantPool := pool
  accessFlags := fl
  thisClass := this
  superClass := sup
  interfaces := ifs
  fields := fds
  methods := ms
  attributes := attrs
def plain (name : String) (sup : Option ClassId) : Class where
  name := name
  kind := .ordinary
  loader := none
  accessFlags := 33
  super := sup
  interfaces := #[]
  cf := none
  fields := #[]
  methods := #[]
  instanceTypes := #[]
  staticTypes := #[]
  resolved := #[]
  callSites := []
  init := .initialized
  statics := none
  mirror := none

def pool0 : Array CpInfo := pool [(5, u "<init>"), (0, u "()V"), (1, .class_ 10), (1, u "java/lang/Object")] 113

def k0c0 : Code := { maxStack := 0, maxLocals := 1, code := object_method_1_code, exceptionTable := #[], attributes := #[] }
def k0m0 : Method := { name := "<init>", desc := "()V", sig := { parameters := [], returnType := none }, accessFlags := 1, code := some k0c0 }
/-- java/lang/Object -/
def k0 : Class := { plain "java/lang/Object" none with
  accessFlags := 33
  interfaces := #[]
  cf := some (fileOf pool0 8 #[] #[{ accessFlags := 1, nameIndex := 5, descriptorIndex := 6, attributes := #[] }] 33 0 #[] #[])
  fields := #[]
  methods := #[k0m0]
  instanceTypes := #[]
  staticTypes := #[]
  resolved := Array.replicate 124 none
  statics := none }

def pool1 : Array CpInfo := pool [(2, .class_ 4), (1, u "java/lang/Object"), (0, u "<init>"), (0, u "()V"), (0, .integer 2147483647), (0, .methodref 9 10), (0, .class_ 11), (0, .nameAndType 12 13), (0, u "java/lang/Math"), (0, u "max"), (0, u "(II)I"), (0, .class_ 15), (0, u "com/example/heraldmesh/heraldmesh/plan/Mesh"), (0, .methodref 14 17), (0, .nameAndType 5 18), (0, u "(II)V"), (0, .methodref 14 20), (0, .nameAndType 21 22), (0, u "deepestLevel"), (0, u "()I"), (0, .class_ 24), (0, u "com/example/heraldmesh/heraldmesh/plan/MeshDeepestLevelPinLaw"), (2, u "law"), (0, u "(II)Z")] 3

def k1m0 : Method := { name := "<init>", desc := "()V", sig := { parameters := [], returnType := none }, accessFlags := 1, code := none }
def k1c1 : Code := { maxStack := 4, maxLocals := 8, code := code, exceptionTable := #[], attributes := #[] }
def k1m1 : Method := { name := "law", desc := "(II)Z", sig := { parameters := [.int, .int], returnType := some .boolean }, accessFlags := 9, code := some k1c1 }
/-- com/example/heraldmesh/heraldmesh/plan/MeshDeepestLevelPinLaw -/
def k1 : Class := { plain "com/example/heraldmesh/heraldmesh/plan/MeshDeepestLevelPinLaw" (some 0) with
  accessFlags := 49
  interfaces := #[]
  cf := some (fileOf pool1 23 #[] #[{ accessFlags := 1, nameIndex := 5, descriptorIndex := 6, attributes := #[] }, { accessFlags := 9, nameIndex := 27, descriptorIndex := 28, attributes := #[] }] 49 2 #[] #[])
  fields := #[]
  methods := #[k1m0, k1m1]
  instanceTypes := #[]
  staticTypes := #[]
  resolved := Array.replicate 32 none
  statics := none }

def pool2 : Array CpInfo := pool [(1, .class_ 2), (0, u "java/lang/Math"), (1, .class_ 6), (1, u "java/lang/Object"), (0, u "<init>"), (0, u "()V"), (89, .class_ 100), (1, u "java/lang/Math$RandomNumberGeneratorHolder"), (71, u "negativeZeroFloatBits"), (0, u "J"), (2, u "negativeZeroDoubleBits"), (21, u "max"), (46, u "$assertionsDisabled"), (0, u "Z"), (88, u "(II)I"), (2, u "twoToTheDoubleScaleDown"), (0, u "D"), (4, u "twoToTheDoubleScaleUp"), (9, u "E"), (3, u "PI"), (2, u "TAU"), (2, u "DEGREES_TO_RADIANS"), (0, u "RADIANS_TO_DEGREES")] 94

def k2m0 : Method := { name := "<init>", desc := "()V", sig := { parameters := [], returnType := none }, accessFlags := 2, code := none }
def k2c1 : Code := { maxStack := 2, maxLocals := 2, code := jdk_29_method_65_code, exceptionTable := #[], attributes := #[] }
def k2m1 : Method := { name := "max", desc := "(II)I", sig := { parameters := [.int, .int], returnType := some .int }, accessFlags := 9, code := some k2c1 }
/-- java/lang/Math -/
def k2 : Class := { plain "java/lang/Math" (some 0) with
  accessFlags := 49
  interfaces := #[]
  cf := some (fileOf pool2 1 #[.nestMembers #[98]] #[{ accessFlags := 2, nameIndex := 7, descriptorIndex := 8, attributes := #[] }, { accessFlags := 9, nameIndex := 198, descriptorIndex := 335, attributes := #[] }] 49 4 #[] #[{ accessFlags := 25, nameIndex := 354, descriptorIndex := 339, attributes := #[] }, { accessFlags := 25, nameIndex := 358, descriptorIndex := 339, attributes := #[] }, { accessFlags := 25, nameIndex := 361, descriptorIndex := 339, attributes := #[] }, { accessFlags := 26, nameIndex := 364, descriptorIndex := 339, attributes := #[] }, { accessFlags := 26, nameIndex := 365, descriptorIndex := 339, attributes := #[] }, { accessFlags := 26, nameIndex := 172, descriptorIndex := 173, attributes := #[] }, { accessFlags := 26, nameIndex := 176, descriptorIndex := 173, attributes := #[] }, { accessFlags := 8, nameIndex := 344, descriptorIndex := 339, attributes := #[] }, { accessFlags := 8, nameIndex := 338, descriptorIndex := 339, attributes := #[] }, { accessFlags := 4120, nameIndex := 245, descriptorIndex := 246, attributes := #[] }])
  fields := #[{ name := "E", type := .double, accessFlags := 25, slot := 0, constantValue := 0 }, { name := "PI", type := .double, accessFlags := 25, slot := 1, constantValue := 0 }, { name := "TAU", type := .double, accessFlags := 25, slot := 2, constantValue := 0 }, { name := "DEGREES_TO_RADIANS", type := .double, accessFlags := 26, slot := 3, constantValue := 0 }, { name := "RADIANS_TO_DEGREES", type := .double, accessFlags := 26, slot := 4, constantValue := 0 }, { name := "negativeZeroFloatBits", type := .long, accessFlags := 26, slot := 5, constantValue := 0 }, { name := "negativeZeroDoubleBits", type := .long, accessFlags := 26, slot := 6, constantValue := 0 }, { name := "twoToTheDoubleScaleUp", type := .double, accessFlags := 8, slot := 7, constantValue := 0 }, { name := "twoToTheDoubleScaleDown", type := .double, accessFlags := 8, slot := 8, constantValue := 0 }, { name := "$assertionsDisabled", type := .boolean, accessFlags := 4120, slot := 9, constantValue := 0 }]
  methods := #[k2m0, k2m1]
  instanceTypes := #[]
  staticTypes := #[.double, .double, .double, .double, .double, .long, .long, .double, .double, .boolean]
  resolved := Array.replicate 460 none
  statics := none }

def pool3 : Array CpInfo := pool [(1, .methodref 2 3), (0, .class_ 4), (0, .nameAndType 5 6), (0, u "java/lang/Object"), (0, u "<init>"), (0, u "()V"), (0, .class_ 8), (0, u "java/lang/Record")] 13

def k3c0 : Code := { maxStack := 1, maxLocals := 1, code := jdk_30_method_1_code, exceptionTable := #[], attributes := #[] }
def k3m0 : Method := { name := "<init>", desc := "()V", sig := { parameters := [], returnType := none }, accessFlags := 4, code := some k3c0 }
/-- java/lang/Record -/
def k3 : Class := { plain "java/lang/Record" (some 0) with
  accessFlags := 1057
  interfaces := #[]
  cf := some (fileOf pool3 7 #[] #[{ accessFlags := 4, nameIndex := 5, descriptorIndex := 6, attributes := #[] }] 1057 2 #[] #[])
  fields := #[]
  methods := #[k3m0]
  instanceTypes := #[]
  staticTypes := #[]
  resolved := Array.replicate 22 none
  statics := none }

def pool4 : Array CpInfo := pool [(1, .methodref 2 3), (0, .class_ 4), (0, .nameAndType 5 6), (0, u "java/lang/Record"), (0, u "<init>"), (0, u "()V"), (9, .fieldref 17 18), (0, .class_ 19), (0, .nameAndType 20 21), (0, u "com/example/heraldmesh/heraldmesh/plan/Mesh"), (0, u "nodes"), (0, u "I"), (0, .fieldref 17 23), (0, .nameAndType 24 21), (0, u "base"), (2, u "deepestLevel"), (0, u "()I"), (12, u "(II)V")] 39

def k4c0 : Code := { maxStack := 4, maxLocals := 3, code := prog_87_method_1_code, exceptionTable := #[], attributes := #[] }
def k4m0 : Method := { name := "<init>", desc := "(II)V", sig := { parameters := [.int, .int], returnType := none }, accessFlags := 1, code := some k4c0 }
def k4c1 : Code := { maxStack := 4, maxLocals := 4, code := prog_87_method_2_code, exceptionTable := #[], attributes := #[] }
def k4m1 : Method := { name := "deepestLevel", desc := "()I", sig := { parameters := [], returnType := some .int }, accessFlags := 1, code := some k4c1 }
/-- com/example/heraldmesh/heraldmesh/plan/Mesh -/
def k4 : Class := { plain "com/example/heraldmesh/heraldmesh/plan/Mesh" (some 3) with
  accessFlags := 49
  interfaces := #[]
  cf := some (fileOf pool4 17 #[] #[{ accessFlags := 1, nameIndex := 5, descriptorIndex := 41, attributes := #[] }, { accessFlags := 1, nameIndex := 27, descriptorIndex := 28, attributes := #[] }] 49 2 #[] #[{ accessFlags := 18, nameIndex := 20, descriptorIndex := 21, attributes := #[] }, { accessFlags := 18, nameIndex := 24, descriptorIndex := 21, attributes := #[] }])
  fields := #[{ name := "nodes", type := .int, accessFlags := 18, slot := 0, constantValue := 0 }, { name := "base", type := .int, accessFlags := 18, slot := 1, constantValue := 0 }]
  methods := #[k4m0, k4m1]
  instanceTypes := #[.int, .int]
  staticTypes := #[]
  resolved := Array.replicate 81 none
  statics := none }

def pool5 : Array CpInfo := pool [(1, u "java/lang/Cloneable"), (0, .class_ 1), (0, u "java/lang/Object"), (0, .class_ 3)] 3

/-- java/lang/Cloneable -/
def k5 : Class := { plain "java/lang/Cloneable" (some 0) with
  accessFlags := 1537
  interfaces := #[]
  cf := some (fileOf pool5 2 #[] #[] 1537 4 #[] #[])
  fields := #[]
  methods := #[]
  instanceTypes := #[]
  staticTypes := #[]
  resolved := Array.replicate 8 none
  statics := none }

def pool6 : Array CpInfo := pool [(1, u "java/io/Serializable"), (0, .class_ 1), (0, u "java/lang/Object"), (0, .class_ 3)] 3

/-- java/io/Serializable -/
def k6 : Class := { plain "java/io/Serializable" (some 0) with
  accessFlags := 1537
  interfaces := #[]
  cf := some (fileOf pool6 2 #[] #[] 1537 4 #[] #[])
  fields := #[]
  methods := #[]
  instanceTypes := #[]
  staticTypes := #[]
  resolved := Array.replicate 8 none
  statics := none }

/-- the primitive byte -/
def k7 : Class := { plain "byte" none with kind := .primitive 'B', accessFlags := 0x411 }
/-- [B -/
def k8 : Class := { plain "[B" (some 0) with kind := .array 7 .byte, interfaces := #[5, 6], accessFlags := 1041 }

/-- the primitive int -/
def k9 : Class := { plain "int" none with kind := .primitive 'I', accessFlags := 0x411 }
/-- [I -/
def k10 : Class := { plain "[I" (some 0) with kind := .array 9 .int, interfaces := #[5, 6], accessFlags := 1041 }

def heap : Heap := #[]
def classes : Array Class := #[k0, k1, k2, k3, k4, k5, k6, k7, k8, k9, k10]
def interned : List (Array UInt16 × Addr) := []
def slotsUsed : Nat := 0
def theMethod : MethodId := ⟨1, 1⟩
def args0 : Array Value := #[.int 10, .int 3]
def aboutOver (below : List Frame) : State where
  vm := { classes := classes, interned := interned.toArray }
  heap := heap
  slotsUsed := slotsUsed
  threads := #[{ frames := .invoking theMethod args0 :: below }]
def below0 : List Frame := [.native { method := ⟨0, 0⟩, args := #[] }]
def about1 : State := aboutOver below0
def p0 : Program := .bare "" "" ""
def e0 : Env := launch0.env 0 0 0
theorem w_frames : about1.frames = Frame.invoking theMethod args0 :: below0 := rfl
set_option maxRecDepth 65536 in
theorem w_args : argsFit about1.vm theMethod args0 = true := by decide +kernel
set_option maxRecDepth 65536 in
theorem w_heap : heapFits about1 = true := by decide +kernel
set_option maxRecDepth 65536 in
theorem w_runnable : about1.curStatus? = some .runnable := by decide +kernel
set_option maxRecDepth 65536 in
theorem w_alone : about1.alone = true := by decide +kernel
set_option maxRecDepth 65536 in
theorem w_named : about1.methodNamed? x = some theMethod := by decide +kernel
set_option maxRecDepth 65536 in
theorem w_hears : about1.hears theMethod below0 = true := by decide +kernel
set_option maxRecDepth 65536 in
theorem w_ripe : about1.ripe theMethod args0 below0 = true := by decide +kernel
theorem w_running : about1.status = .running := rfl
set_option maxRecDepth 65536 in
theorem w_room : about1.hasRoom e0.platform room_1 = true :=
  launch0.hasRoom_least _ room_1 (by decide +kernel) (by decide +kernel) (by decide +kernel) (by decide +kernel) (by decide +kernel) (by decide +kernel)
theorem allAtoms_all (ts : List Jvm.Cond) (a : Array Jvm.Value) (st : Jvm.State) : (allAtoms ts).before a st = ts.all (fun c => c.before a st) := by
  induction ts with
  | nil => rfl
  | cons c t ih =>
    show (Jvm.Cond.and c (allAtoms t)).before a st = _
    rw [Jvm.Cond.before_and, ih, List.all_cons]
def words1 : List Jvm.Cond := Jvm.Cond.code x code maxLocals ret :: tables_1
/-- a 'code' word, met by the world's own term for the bytes: nothing is compared byte by byte -/
theorem code_word {y : MethodName} {bytes : ByteArray} {mx : Nat} {rt : Option FieldType} {a : Array Value} {s : State} {m : MethodId} {meth : Method} {c : Code} (h1 : s.methodNamed? y = some m) (h2 : s.vm.method? m = some meth) (h3 : meth.code = some c) (h4 : c.code = bytes)
    (h5 : (c.maxLocals == mx && c.exceptionTable.isEmpty && decide (c.maxStack ≤ mostOperands) && decide (meth.sig.returnType = rt) && !meth.locks && decide (parseMethodDescriptor y.desc = some meth.sig)) = true) : (Jvm.Cond.code y bytes mx rt).before a s = true := by
  simp only [Bool.and_eq_true, beq_iff_eq, Bool.not_eq_true', decide_eq_true_eq] at h5
  obtain ⟨⟨⟨⟨⟨g1, g2⟩, g3⟩, g4⟩, g5⟩, g6⟩ := h5
  simp [Cond.before, Cond.holds, Cond.value, h1, h2, h3, h4, g1, g2, g3, g4, g5, g6]
def isCode : Jvm.Cond → Bool
  | .code _ _ _ _ => true
  | _ => false
theorem all_split {L : List Jvm.Cond} {P : Jvm.Cond → Bool} (h1 : L.all (fun c => isCode c || P c) = true) (h2 : ∀ c ∈ L.filter isCode, P c = true) : L.all P = true := by
  refine List.all_eq_true.mpr fun c hc => ?_
  have h := List.all_eq_true.mp h1 c hc
  rcases Bool.eq_false_or_eq_true (isCode c) with hi | hi
  · exact h2 c (List.mem_filter.mpr ⟨hc, hi⟩)
  · simpa [hi] using h
set_option maxRecDepth 65536 in
theorem w_c0 : (Jvm.Cond.code x code maxLocals ret).before args0 about1 = true := code_word (m := ⟨1, 1⟩) (meth := k1m1) (c := k1c1) (by decide +kernel) rfl rfl rfl (by decide +kernel)
set_option maxRecDepth 65536 in
theorem w_c1 : (Jvm.Cond.code ({ cls := "java/lang/Math", name := "max", desc := "(II)I" } : Jvm.MethodName) jdk_29_method_65_code (2 : Nat) (Option.some Jvm.ClassFile.FieldType.int)).before args0 about1 = true := code_word (m := ⟨2, 1⟩) (meth := k2m1) (c := k2c1) (by decide +kernel) rfl rfl rfl (by decide +kernel)
set_option maxRecDepth 65536 in
theorem w_c2 : (Jvm.Cond.code ({ cls := "com/example/heraldmesh/heraldmesh/plan/Mesh", name := "<init>", desc := "(II)V" } : Jvm.MethodName) prog_87_method_1_code (3 : Nat) (Option.none : Option Jvm.ClassFile.FieldType)).before args0 about1 = true := code_word (m := ⟨4, 0⟩) (meth := k4m0) (c := k4c0) (by decide +kernel) rfl rfl rfl (by decide +kernel)
set_option maxRecDepth 65536 in
theorem w_c3 : (Jvm.Cond.code ({ cls := "java/lang/Record", name := "<init>", desc := "()V" } : Jvm.MethodName) jdk_30_method_1_code (1 : Nat) (Option.none : Option Jvm.ClassFile.FieldType)).before args0 about1 = true := code_word (m := ⟨3, 0⟩) (meth := k3m0) (c := k3c0) (by decide +kernel) rfl rfl rfl (by decide +kernel)
set_option maxRecDepth 65536 in
theorem w_c4 : (Jvm.Cond.code ({ cls := "java/lang/Object", name := "<init>", desc := "()V" } : Jvm.MethodName) object_method_1_code (1 : Nat) (Option.none : Option Jvm.ClassFile.FieldType)).before args0 about1 = true := code_word (m := ⟨0, 0⟩) (meth := k0m0) (c := k0c0) (by decide +kernel) rfl rfl rfl (by decide +kernel)
set_option maxRecDepth 65536 in
theorem w_c5 : (Jvm.Cond.code ({ cls := "com/example/heraldmesh/heraldmesh/plan/Mesh", name := "deepestLevel", desc := "()I" } : Jvm.MethodName) prog_87_method_2_code (4 : Nat) (Option.some Jvm.ClassFile.FieldType.int)).before args0 about1 = true := code_word (m := ⟨4, 1⟩) (meth := k4m1) (c := k4c1) (by decide +kernel) rfl rfl rfl (by decide +kernel)
def codes1 : List Jvm.Cond := [Jvm.Cond.code x code maxLocals ret, Jvm.Cond.code ({ cls := "java/lang/Math", name := "max", desc := "(II)I" } : Jvm.MethodName) jdk_29_method_65_code (2 : Nat) (Option.some Jvm.ClassFile.FieldType.int), Jvm.Cond.code ({ cls := "com/example/heraldmesh/heraldmesh/plan/Mesh", name := "<init>", desc := "(II)V" } : Jvm.MethodName) prog_87_method_1_code (3 : Nat) (Option.none : Option Jvm.ClassFile.FieldType), Jvm.Cond.code ({ cls := "java/lang/Record", name := "<init>", desc := "()V" } : Jvm.MethodName) jdk_30_method_1_code (1 : Nat) (Option.none : Option Jvm.ClassFile.FieldType), Jvm.Cond.code ({ cls := "java/lang/Object", name := "<init>", desc := "()V" } : Jvm.MethodName) object_method_1_code (1 : Nat) (Option.none : Option Jvm.ClassFile.FieldType), Jvm.Cond.code ({ cls := "com/example/heraldmesh/heraldmesh/plan/Mesh", name := "deepestLevel", desc := "()I" } : Jvm.MethodName) prog_87_method_2_code (4 : Nat) (Option.some Jvm.ClassFile.FieldType.int)]
set_option maxRecDepth 65536 in
theorem codes_eq : words1.filter isCode = codes1 := rfl
theorem w_codes : ∀ c ∈ words1.filter isCode, c.before args0 about1 = true := by
  rw [codes_eq]
  intro c hc
  simp only [codes1, List.mem_cons, List.not_mem_nil, or_false] at hc
  rcases hc with rfl | rfl | rfl | rfl | rfl | rfl
  · exact w_c0
  · exact w_c1
  · exact w_c2
  · exact w_c3
  · exact w_c4
  · exact w_c5
set_option maxRecDepth 65536 in
theorem w_t1 : (words1.take 24).all (fun c => isCode c || c.before args0 about1) = true := by decide +kernel
set_option maxRecDepth 65536 in
theorem w_t2 : (words1.drop 24).all (fun c => isCode c || c.before args0 about1) = true := by decide +kernel
theorem w_tables : (allAtoms (Jvm.Cond.code x code maxLocals ret :: tables_1)).before args0 about1 = true := by
  rw [allAtoms_all]
  show words1.all (fun c => c.before args0 about1) = true
  refine all_split ?_ w_codes
  rw [← List.take_append_drop 24 words1, List.all_append, w_t1, w_t2]
  rfl
set_option maxRecDepth 65536 in
theorem w_case : (Jvm.Cond.and given_1 narrow_1).before args0 about1 = true := by decide +kernel
theorem w_applies : (headSpec (Jvm.Cond.code x code maxLocals ret :: tables_1) room_1).applies x e0.platform about1 = true :=
  (Spec.applies_iff w_frames).mpr ⟨w_running, w_runnable, w_alone, w_named, w_hears, w_ripe, w_room, w_tables⟩
theorem atStart : AtStart classFile x code maxLocals ret World_1 tables_1 room_1 Calls_1 rest_1 Pre_1 launch0 p0 e0 about1 theMethod args0 below0 :=
  ⟨lists_1, trivial, launch0.admits_env _ _ _, launch0.least_env, fairChoices_fair.cas, fairChoices_fair.clock, w_frames, w_args, w_heap, w_applies, trivial, trivial, w_case⟩
end start1
theorem witness_1 : WitnessClaimed_1 := ⟨start1.p0, start1.e0, start1.about1, start1.theMethod, start1.args0, start1.below0, start1.atStart⟩
end Jvm.Pilot.@@N@@
