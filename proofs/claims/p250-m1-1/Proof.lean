import JvmDerived
import JvmDerived.Pilot.@@N@@Statement
import JvmDerived.Pilot.@@N@@Code
set_option linter.unusedVariables false
set_option linter.unusedSimpArgs false
@@BLOCK:NumsL.lean.txt@@
namespace Jvm.Pilot.@@N@@
open Jvm Jvm.ClassFile Sem Op Lib Jvm.Free Jvm.Stand Jvm.LawKit Jvm.RoadKit Bundle Jvm.Pilot.@@N@@.Jvm.D
/-! my own layer: what stands still in a walk (own_Cx, own_Mx), where it stands (own_Sx), what is left of it (own_Fin) -/
abbrev own_Cx : Type := Program × Launch × Env × Room × State × MethodId × Array Value × List Frame × Method × Code
def own_Sx (n0 : Nat) : own_Cx → State → Heap → Nat → Nat → Prop
  | (p, l, e, R, s, m, args, below, meth, c), T, h, cl, sl => ∃ locs, Stand p l e R s m args below meth c T locs cl sl ∧ Fr n0 locs ∧ T.heap = h ∧ n0 ≤ s.heap.size ∧ cl ≤ R.cells ∧ sl ≤ R.slots
def own_Mx (Z : State) (a0 : Array Value) : own_Cx → ByteArray → String → Nat → Option FieldType → Room → Prop
  | (p, l, e, R, s, m, args, below, meth, c), code, own, mx, ret, rm => p.tables.exec = Jvm.exec ∧ c.code = code ∧ c.maxLocals = mx ∧ s.vm.findClass own = some m.cls ∧ meth.sig.returnType = ret ∧ meth.locks = false ∧ Z.Warmed39 s.vm ∧ R = rm ∧ (∀ d ∈ tables_1, d.before a0 Z = true)
def own_Fin (n0 : Nat) : own_Cx → (Option Value → Heap → Prop) → State → Nat → Array Slot → List Value → Prop
  | (p, l, e, R, s, m, args, below, meth, c), P, T, pc, L, S => ∃ s₂ o, Steps p.tables e below (T.setTop (mkF m pc L S)) s₂ ∧ s₂.status = .running ∧ Ended s₂ below o ∧ ∃ v L', o = .returned v ∧ (P v s₂.heap ∧ Fr n0 L') ∧ FrameEnd s o s₂ L' R.cells R.slots
/-- a method's contract: from these arguments and this heap it returns, and P says what and with which heap -/
def own_Met (l : Launch) (Z : State) (n0 : Nat) (y : MethodName) (code : ByteArray) (mx : Nat) (ret : Option FieldType) (rm : Room) (args : Array Value) (h0 : Heap) (P : Option Value → Heap → Prop) : Prop :=
  ∀ ws : List Jvm.Cond, MetFree l y (head1 (Jvm.Cond.code y code mx ret :: ws) rm) (fun a U => a = args ∧ Z.Warmed39 U.vm ∧ U.heap = h0) (fun _ _ _ _ _ => True) (fun _ U o U' => ∃ v L, o = .returned v ∧ (P v U'.heap ∧ Fr n0 L) ∧ FrameEnd U o U' L rm.cells rm.slots)
section OwnLayer
variable {Z : State} {a0 : Array Value} {n0 : Nat} {K : own_Cx} {code : ByteArray} {own : String} {mx : Nat} {ret : Option FieldType} {rm : Room} {P : Option Value → Heap → Prop} {T : State} {h : Heap} {cl sl pc pc' : Nat} {L L' : Array Slot} {S rest : List Value}
theorem own_enter {l : Launch} {y : MethodName} {args : Array Value} {h0 : Heap} (hpl : plainFor y = true) (hw : ∀ d ∈ tables_1, d.before a0 Z = true) (hn : n0 ≤ h0.size) (he : ∀ m, entryFrame m args mx = mkF m 0 L [])
    (body : ∀ (K : own_Cx) (T : State), K.2.2.2.2.2.2.2.2.1.name = y.name → own_Mx Z a0 K code y.cls mx ret rm → own_Sx n0 K T h0 0 0 → own_Fin n0 K P T 0 L []) : own_Met l Z n0 y code mx ret rm args h0 P := by
  intro ws
  refine MetFree.of_bodySF hpl hisR ?_
  intro p e s m args' below meth c s₁ Bd hml0 hP hK
  obtain ⟨rfl, hZ, hh⟩ := hP
  have hown : s.vm.findClass y.cls = some m.cls := findClass_of_methodNamed Bd.named
  have X0 : Stand p l e rm s m args' below meth c s₁ [] 0 0 := Stand.of_body Bd
  have e0 : s₁.heap = h0 := by rw [← hh, Bd.state]; rfl
  obtain ⟨s2, o, st, r⟩ := body (p, l, e, rm, s, m, args', below, meth, c) s₁ (name_of_methodNamed Bd.named Bd.method).1 ⟨Bd.exec, Bd.bytes, hml0, hown, Bd.returns, Bd.notSynchronized, hZ, rfl, hw⟩ ⟨[], X0, Fr.nil n0, e0, by rw [hh]; exact hn, Nat.zero_le _, Nat.zero_le _⟩
  exact ⟨s2, o, castTop (he m) st, r⟩
theorem own_Sx.size (X : own_Sx n0 K T h cl sl) : n0 ≤ h.size := by
  obtain ⟨p, l, e, R, s, m, args, below, meth, c⟩ := K
  obtain ⟨locs, X, -, rfl, hn, -⟩ := X
  exact Nat.le_trans hn X.same.2.1
theorem own_ret {t : FieldType} (M : own_Mx Z a0 K code own mx (some t) rm) (X : own_Sx n0 K T h cl sl) {w w' : Value} {i : Instr} (hd : decode code pc = .ok (i, 1))
    (hst : ∀ {p : Program} {l : Launch} {e : Env} {R : Room} {s : State} {m : MethodId} {args : Array Value} {below : List Frame} {meth : Method} {c : Code} {locs : List Loc} {fs : List Frame}, Stand p l e R s m args below meth c T locs cl sl → p.tables.exec = Jvm.exec → meth.sig.returnType = some t → decode c.code pc = .ok (i, 1) → (∀ (f : JFrame) (acts : List Action), f.method = m → f.locked = none → f.entered = [] → (doReturn e (T.setTop f) acts (some w')).1 = T.setFrames fs) → Steps p.tables e below (T.setTop (mkF m pc L (w :: S))) (T.setFrames fs)) (hP : P (some w') h) : own_Fin n0 K P T pc L (w :: S) := by
  obtain ⟨p, l, e, R, s, m, args, below, meth, c⟩ := K
  obtain ⟨hx, hby, hml, hown, hret, hlk, hZ, rfl, hw⟩ := M
  obtain ⟨locs, X, hN, rfl, hn, hc, hs⟩ := X
  obtain ⟨fs, hr, hrun, hended, hW, hsame⟩ := X.leave (v := some w') (fun q => by rw [hret] at q; cases q) hlk
  exact ⟨_, _, hst X hx hret (hb hby hd) hr, hrun, hended, _, _, rfl, ⟨hP, hN⟩, ⟨_, rfl⟩, hW, hsame.mono hc hs⟩
theorem own_retI (M : own_Mx Z a0 K code own mx (some .int) rm) (X : own_Sx n0 K T h cl sl) {z : Int32} (hd : decode code pc = .ok (.ireturn, 1)) (hP : P (some (.int z)) h) : own_Fin n0 K P T pc L (.int z :: S) :=
  own_ret M X hd (fun X hx hret hd hr => retOut X hx hret rfl (Or.inl ⟨rfl, Or.inl rfl, z, rfl⟩) hd hr) hP
theorem own_retJ (M : own_Mx Z a0 K code own mx (some .long) rm) (X : own_Sx n0 K T h cl sl) {z : Int64} (hd : decode code pc = .ok (.lreturn, 1)) (hP : P (some (.long z)) h) : own_Fin n0 K P T pc L (.long z :: S) :=
  own_ret M X hd (fun X hx hret hd hr => retOut X hx hret rfl (Or.inr (Or.inl ⟨rfl, rfl, z, rfl⟩)) hd hr) hP
theorem own_retA {t : FieldType} (M : own_Mx Z a0 K code own mx (some t) rm) (X : own_Sx n0 K T h cl sl) {a : Addr} (ht : t.isReference = true) (hna : narrow t (.ref a) = .ref a) (hd : decode code pc = .ok (.areturn, 1)) (hP : P (some (.ref a)) h) : own_Fin n0 K P T pc L (.ref a :: S) :=
  own_ret M X hd (fun X hx hret hd hr => retOut X hx hret hna (Or.inr (Or.inr (Or.inr (Or.inr ⟨rfl, ht, rfl⟩)))) hd hr) hP
theorem own_retN {t : FieldType} (M : own_Mx Z a0 K code own mx (some t) rm) (X : own_Sx n0 K T h cl sl) {z z' : Int32} (ht : t = .boolean ∨ t = .byte ∨ t = .char ∨ t = .short) (hd : decode code pc = .ok (.ireturn, 1)) (hz : nar t z = z') (hP : P (some (.int z')) h) : own_Fin n0 K P T pc L (.int z :: S) :=
  own_ret M X hd (fun X hx hret hd hr => retN X hx hret ht hd (by rw [hz]; exact hr)) hP
theorem own_retV (M : own_Mx Z a0 K code own mx none rm) (X : own_Sx n0 K T h cl sl) (hd : decode code pc = .ok (.return_, 1)) (hP : P none h) : own_Fin n0 K P T pc L [] := by
  obtain ⟨p, l, e, R, s, m, args, below, meth, c⟩ := K
  obtain ⟨hx, hby, hml, hown, hret, hlk, hZ, rfl, hw⟩ := M
  obtain ⟨locs, X, hN, rfl, hn, hc, hs⟩ := X
  obtain ⟨fs, hr, hrun, hended, hW, hsame⟩ := X.leave (v := none) (fun _ => rfl) hlk
  exact ⟨_, _, X.returnOut hx hret (hb hby hd) hr, hrun, hended, _, _, rfl, ⟨hP, hN⟩, ⟨_, rfl⟩, hW, hsame.mono hc hs⟩
theorem own_iload (M : own_Mx Z a0 K code own mx ret rm) (X : own_Sx n0 K T h cl sl) {k : Nat} {v : Int32} (hd : decode code pc = .ok (.iload k, 2)) (hl : L[k]? = some (.val (.int v))) (hp : pc + 2 = pc') (hr : own_Fin n0 K P T pc' L (.int v :: S)) : own_Fin n0 K P T pc L (S) := by
  obtain ⟨p, l, e, R, s, m, args, below, meth, c⟩ := K
  obtain ⟨hx, hby, hml, hown, hret, hlk, hZ, rfl, hw⟩ := M
  obtain ⟨locs, X, hN, eT, hn, hcl, hsl⟩ := X
  obtain ⟨s2, o2, st, r⟩ := hr
  subst hp
  exact ⟨s2, o2, XS.iload X.here hx rfl (hb hby hd) hl st, r⟩
theorem own_iloadN (M : own_Mx Z a0 K code own mx ret rm) (X : own_Sx n0 K T h cl sl) {k : Fin 4} {v : Int32} (hd : decode code pc = .ok (.iload_n k, 1)) (hl : L[k.val]? = some (.val (.int v))) (hp : pc + 1 = pc') (hr : own_Fin n0 K P T pc' L (.int v :: S)) : own_Fin n0 K P T pc L (S) := by
  obtain ⟨p, l, e, R, s, m, args, below, meth, c⟩ := K
  obtain ⟨hx, hby, hml, hown, hret, hlk, hZ, rfl, hw⟩ := M
  obtain ⟨locs, X, hN, eT, hn, hcl, hsl⟩ := X
  obtain ⟨s2, o2, st, r⟩ := hr
  subst hp
  exact ⟨s2, o2, XS.iloadN X.here hx rfl (hb hby hd) hl st, r⟩
theorem own_istore (M : own_Mx Z a0 K code own mx ret rm) (X : own_Sx n0 K T h cl sl) {k : Nat} {v : Int32} (hd : decode code pc = .ok (.istore k, 2)) (hl : storeLocals L k (.int v) = some L') (hp : pc + 2 = pc') (hr : own_Fin n0 K P T pc' L' (S)) : own_Fin n0 K P T pc L (.int v :: S) := by
  obtain ⟨p, l, e, R, s, m, args, below, meth, c⟩ := K
  obtain ⟨hx, hby, hml, hown, hret, hlk, hZ, rfl, hw⟩ := M
  obtain ⟨locs, X, hN, eT, hn, hcl, hsl⟩ := X
  obtain ⟨s2, o2, st, r⟩ := hr
  subst hp
  exact ⟨s2, o2, XS.istore X.here hx rfl (hb hby hd) rfl hl st, r⟩
theorem own_istoreN (M : own_Mx Z a0 K code own mx ret rm) (X : own_Sx n0 K T h cl sl) {k : Fin 4} {v : Int32} (hd : decode code pc = .ok (.istore_n k, 1)) (hl : storeLocals L k.val (.int v) = some L') (hp : pc + 1 = pc') (hr : own_Fin n0 K P T pc' L' (S)) : own_Fin n0 K P T pc L (.int v :: S) := by
  obtain ⟨p, l, e, R, s, m, args, below, meth, c⟩ := K
  obtain ⟨hx, hby, hml, hown, hret, hlk, hZ, rfl, hw⟩ := M
  obtain ⟨locs, X, hN, eT, hn, hcl, hsl⟩ := X
  obtain ⟨s2, o2, st, r⟩ := hr
  subst hp
  exact ⟨s2, o2, XS.istoreN X.here hx rfl (hb hby hd) rfl hl st, r⟩
theorem own_lload (M : own_Mx Z a0 K code own mx ret rm) (X : own_Sx n0 K T h cl sl) {k : Nat} {v : Int64} (hd : decode code pc = .ok (.lload k, 2)) (hl : L[k]? = some (.val (.long v))) (hp : pc + 2 = pc') (hr : own_Fin n0 K P T pc' L (.long v :: S)) : own_Fin n0 K P T pc L (S) := by
  obtain ⟨p, l, e, R, s, m, args, below, meth, c⟩ := K
  obtain ⟨hx, hby, hml, hown, hret, hlk, hZ, rfl, hw⟩ := M
  obtain ⟨locs, X, hN, eT, hn, hcl, hsl⟩ := X
  obtain ⟨s2, o2, st, r⟩ := hr
  subst hp
  exact ⟨s2, o2, XS.lload X.here hx rfl (hb hby hd) hl st, r⟩
theorem own_lloadN (M : own_Mx Z a0 K code own mx ret rm) (X : own_Sx n0 K T h cl sl) {k : Fin 4} {v : Int64} (hd : decode code pc = .ok (.lload_n k, 1)) (hl : L[k.val]? = some (.val (.long v))) (hp : pc + 1 = pc') (hr : own_Fin n0 K P T pc' L (.long v :: S)) : own_Fin n0 K P T pc L (S) := by
  obtain ⟨p, l, e, R, s, m, args, below, meth, c⟩ := K
  obtain ⟨hx, hby, hml, hown, hret, hlk, hZ, rfl, hw⟩ := M
  obtain ⟨locs, X, hN, eT, hn, hcl, hsl⟩ := X
  obtain ⟨s2, o2, st, r⟩ := hr
  subst hp
  exact ⟨s2, o2, XS.lloadN X.here hx rfl (hb hby hd) hl st, r⟩
theorem own_lstore (M : own_Mx Z a0 K code own mx ret rm) (X : own_Sx n0 K T h cl sl) {k : Nat} {v : Int64} (hd : decode code pc = .ok (.lstore k, 2)) (hl : storeLocals L k (.long v) = some L') (hp : pc + 2 = pc') (hr : own_Fin n0 K P T pc' L' (S)) : own_Fin n0 K P T pc L (.long v :: S) := by
  obtain ⟨p, l, e, R, s, m, args, below, meth, c⟩ := K
  obtain ⟨hx, hby, hml, hown, hret, hlk, hZ, rfl, hw⟩ := M
  obtain ⟨locs, X, hN, eT, hn, hcl, hsl⟩ := X
  obtain ⟨s2, o2, st, r⟩ := hr
  subst hp
  exact ⟨s2, o2, XS.lstore X.here hx rfl (hb hby hd) rfl hl st, r⟩
theorem own_lstoreN (M : own_Mx Z a0 K code own mx ret rm) (X : own_Sx n0 K T h cl sl) {k : Fin 4} {v : Int64} (hd : decode code pc = .ok (.lstore_n k, 1)) (hl : storeLocals L k.val (.long v) = some L') (hp : pc + 1 = pc') (hr : own_Fin n0 K P T pc' L' (S)) : own_Fin n0 K P T pc L (.long v :: S) := by
  obtain ⟨p, l, e, R, s, m, args, below, meth, c⟩ := K
  obtain ⟨hx, hby, hml, hown, hret, hlk, hZ, rfl, hw⟩ := M
  obtain ⟨locs, X, hN, eT, hn, hcl, hsl⟩ := X
  obtain ⟨s2, o2, st, r⟩ := hr
  subst hp
  exact ⟨s2, o2, XS.lstoreN X.here hx rfl (hb hby hd) rfl hl st, r⟩
theorem own_aload (M : own_Mx Z a0 K code own mx ret rm) (X : own_Sx n0 K T h cl sl) {k : Nat} {v : Value} (hd : decode code pc = .ok (.aload k, 2)) (hl : L[k]? = some (.val v)) (hv : v.isRef = true) (hp : pc + 2 = pc') (hr : own_Fin n0 K P T pc' L (v :: S)) : own_Fin n0 K P T pc L (S) := by
  obtain ⟨p, l, e, R, s, m, args, below, meth, c⟩ := K
  obtain ⟨hx, hby, hml, hown, hret, hlk, hZ, rfl, hw⟩ := M
  obtain ⟨locs, X, hN, eT, hn, hcl, hsl⟩ := X
  obtain ⟨s2, o2, st, r⟩ := hr
  subst hp
  exact ⟨s2, o2, XS.aload X.here hx rfl (hb hby hd) hl hv st, r⟩
theorem own_aloadN (M : own_Mx Z a0 K code own mx ret rm) (X : own_Sx n0 K T h cl sl) {k : Fin 4} {v : Value} (hd : decode code pc = .ok (.aload_n k, 1)) (hl : L[k.val]? = some (.val v)) (hv : v.isRef = true) (hp : pc + 1 = pc') (hr : own_Fin n0 K P T pc' L (v :: S)) : own_Fin n0 K P T pc L (S) := by
  obtain ⟨p, l, e, R, s, m, args, below, meth, c⟩ := K
  obtain ⟨hx, hby, hml, hown, hret, hlk, hZ, rfl, hw⟩ := M
  obtain ⟨locs, X, hN, eT, hn, hcl, hsl⟩ := X
  obtain ⟨s2, o2, st, r⟩ := hr
  subst hp
  exact ⟨s2, o2, XS.aloadN X.here hx rfl (hb hby hd) hl hv st, r⟩
theorem own_astore (M : own_Mx Z a0 K code own mx ret rm) (X : own_Sx n0 K T h cl sl) {k : Nat} {v : Value} (hd : decode code pc = .ok (.astore k, 2)) (hv : v.isRef = true) (hl : storeLocals L k v = some L') (hp : pc + 2 = pc') (hr : own_Fin n0 K P T pc' L' (S)) : own_Fin n0 K P T pc L (v :: S) := by
  obtain ⟨p, l, e, R, s, m, args, below, meth, c⟩ := K
  obtain ⟨hx, hby, hml, hown, hret, hlk, hZ, rfl, hw⟩ := M
  obtain ⟨locs, X, hN, eT, hn, hcl, hsl⟩ := X
  obtain ⟨s2, o2, st, r⟩ := hr
  subst hp
  exact ⟨s2, o2, XS.astore X.here hx rfl (hb hby hd) rfl hv hl st, r⟩
theorem own_astoreN (M : own_Mx Z a0 K code own mx ret rm) (X : own_Sx n0 K T h cl sl) {k : Fin 4} {v : Value} (hd : decode code pc = .ok (.astore_n k, 1)) (hv : v.isRef = true) (hl : storeLocals L k.val v = some L') (hp : pc + 1 = pc') (hr : own_Fin n0 K P T pc' L' (S)) : own_Fin n0 K P T pc L (v :: S) := by
  obtain ⟨p, l, e, R, s, m, args, below, meth, c⟩ := K
  obtain ⟨hx, hby, hml, hown, hret, hlk, hZ, rfl, hw⟩ := M
  obtain ⟨locs, X, hN, eT, hn, hcl, hsl⟩ := X
  obtain ⟨s2, o2, st, r⟩ := hr
  subst hp
  exact ⟨s2, o2, XS.astoreN X.here hx rfl (hb hby hd) rfl hv hl st, r⟩
theorem own_iconst (M : own_Mx Z a0 K code own mx ret rm) (X : own_Sx n0 K T h cl sl) {i : Int} {v : Int32} (hd : decode code pc = .ok (.iconst i, 1)) (hv : Int32.ofInt i = v) (hp : pc + 1 = pc') (hr : own_Fin n0 K P T pc' L (.int v :: S)) : own_Fin n0 K P T pc L (S) := by
  obtain ⟨p, l, e, R, s, m, args, below, meth, c⟩ := K
  obtain ⟨hx, hby, hml, hown, hret, hlk, hZ, rfl, hw⟩ := M
  obtain ⟨locs, X, hN, eT, hn, hcl, hsl⟩ := X
  obtain ⟨s2, o2, st, r⟩ := hr
  subst hp
  subst hv
  exact ⟨s2, o2, XS.iconst X.here hx rfl (hb hby hd) st, r⟩
theorem own_bipush (M : own_Mx Z a0 K code own mx ret rm) (X : own_Sx n0 K T h cl sl) {i : Int} {v : Int32} (hd : decode code pc = .ok (.bipush i, 2)) (hv : (Int8.ofInt i).toInt32 = v) (hp : pc + 2 = pc') (hr : own_Fin n0 K P T pc' L (.int v :: S)) : own_Fin n0 K P T pc L (S) := by
  obtain ⟨p, l, e, R, s, m, args, below, meth, c⟩ := K
  obtain ⟨hx, hby, hml, hown, hret, hlk, hZ, rfl, hw⟩ := M
  obtain ⟨locs, X, hN, eT, hn, hcl, hsl⟩ := X
  obtain ⟨s2, o2, st, r⟩ := hr
  subst hp
  subst hv
  exact ⟨s2, o2, XS.bipush X.here hx rfl (hb hby hd) st, r⟩
theorem own_sipush (M : own_Mx Z a0 K code own mx ret rm) (X : own_Sx n0 K T h cl sl) {i : Int} {v : Int32} (hd : decode code pc = .ok (.sipush i, 3)) (hv : (Int16.ofInt i).toInt32 = v) (hp : pc + 3 = pc') (hr : own_Fin n0 K P T pc' L (.int v :: S)) : own_Fin n0 K P T pc L (S) := by
  obtain ⟨p, l, e, R, s, m, args, below, meth, c⟩ := K
  obtain ⟨hx, hby, hml, hown, hret, hlk, hZ, rfl, hw⟩ := M
  obtain ⟨locs, X, hN, eT, hn, hcl, hsl⟩ := X
  obtain ⟨s2, o2, st, r⟩ := hr
  subst hp
  subst hv
  exact ⟨s2, o2, XS.sipush X.here hx rfl (hb hby hd) st, r⟩
theorem own_lconst (M : own_Mx Z a0 K code own mx ret rm) (X : own_Sx n0 K T h cl sl) {i : Fin 2} {v : Int64} (hd : decode code pc = .ok (.lconst i, 1)) (hv : Int64.ofNat i = v) (hp : pc + 1 = pc') (hr : own_Fin n0 K P T pc' L (.long v :: S)) : own_Fin n0 K P T pc L (S) := by
  obtain ⟨p, l, e, R, s, m, args, below, meth, c⟩ := K
  obtain ⟨hx, hby, hml, hown, hret, hlk, hZ, rfl, hw⟩ := M
  obtain ⟨locs, X, hN, eT, hn, hcl, hsl⟩ := X
  obtain ⟨s2, o2, st, r⟩ := hr
  subst hp
  subst hv
  exact ⟨s2, o2, XS.lconst X.here hx rfl (hb hby hd) st, r⟩
theorem own_aconst_null (M : own_Mx Z a0 K code own mx ret rm) (X : own_Sx n0 K T h cl sl)  (hd : decode code pc = .ok (.aconst_null, 1)) (hp : pc + 1 = pc') (hr : own_Fin n0 K P T pc' L (.null :: S)) : own_Fin n0 K P T pc L (S) := by
  obtain ⟨p, l, e, R, s, m, args, below, meth, c⟩ := K
  obtain ⟨hx, hby, hml, hown, hret, hlk, hZ, rfl, hw⟩ := M
  obtain ⟨locs, X, hN, eT, hn, hcl, hsl⟩ := X
  obtain ⟨s2, o2, st, r⟩ := hr
  subst hp
  exact ⟨s2, o2, XS.aconstNull X.here hx rfl (hb hby hd) st, r⟩
theorem own_iadd (M : own_Mx Z a0 K code own mx ret rm) (X : own_Sx n0 K T h cl sl) {x y : Int32} (hd : decode code pc = .ok (.iadd, 1)) (hp : pc + 1 = pc') (hr : own_Fin n0 K P T pc' L (.int (x + y) :: S)) : own_Fin n0 K P T pc L (.int y :: .int x :: S) := by
  obtain ⟨p, l, e, R, s, m, args, below, meth, c⟩ := K
  obtain ⟨hx, hby, hml, hown, hret, hlk, hZ, rfl, hw⟩ := M
  obtain ⟨locs, X, hN, eT, hn, hcl, hsl⟩ := X
  obtain ⟨s2, o2, st, r⟩ := hr
  subst hp
  exact ⟨s2, o2, XS.iadd X.here hx rfl (hb hby hd) rfl st, r⟩
theorem own_ladd (M : own_Mx Z a0 K code own mx ret rm) (X : own_Sx n0 K T h cl sl) {x y : Int64} (hd : decode code pc = .ok (.ladd, 1)) (hp : pc + 1 = pc') (hr : own_Fin n0 K P T pc' L (.long (x + y) :: S)) : own_Fin n0 K P T pc L (.long y :: .long x :: S) := by
  obtain ⟨p, l, e, R, s, m, args, below, meth, c⟩ := K
  obtain ⟨hx, hby, hml, hown, hret, hlk, hZ, rfl, hw⟩ := M
  obtain ⟨locs, X, hN, eT, hn, hcl, hsl⟩ := X
  obtain ⟨s2, o2, st, r⟩ := hr
  subst hp
  exact ⟨s2, o2, XS.ladd X.here hx rfl (hb hby hd) rfl st, r⟩
theorem own_isub (M : own_Mx Z a0 K code own mx ret rm) (X : own_Sx n0 K T h cl sl) {x y : Int32} (hd : decode code pc = .ok (.isub, 1)) (hp : pc + 1 = pc') (hr : own_Fin n0 K P T pc' L (.int (x - y) :: S)) : own_Fin n0 K P T pc L (.int y :: .int x :: S) := by
  obtain ⟨p, l, e, R, s, m, args, below, meth, c⟩ := K
  obtain ⟨hx, hby, hml, hown, hret, hlk, hZ, rfl, hw⟩ := M
  obtain ⟨locs, X, hN, eT, hn, hcl, hsl⟩ := X
  obtain ⟨s2, o2, st, r⟩ := hr
  subst hp
  exact ⟨s2, o2, XS.isub X.here hx rfl (hb hby hd) rfl st, r⟩
theorem own_lsub (M : own_Mx Z a0 K code own mx ret rm) (X : own_Sx n0 K T h cl sl) {x y : Int64} (hd : decode code pc = .ok (.lsub, 1)) (hp : pc + 1 = pc') (hr : own_Fin n0 K P T pc' L (.long (x - y) :: S)) : own_Fin n0 K P T pc L (.long y :: .long x :: S) := by
  obtain ⟨p, l, e, R, s, m, args, below, meth, c⟩ := K
  obtain ⟨hx, hby, hml, hown, hret, hlk, hZ, rfl, hw⟩ := M
  obtain ⟨locs, X, hN, eT, hn, hcl, hsl⟩ := X
  obtain ⟨s2, o2, st, r⟩ := hr
  subst hp
  exact ⟨s2, o2, XS.lsub X.here hx rfl (hb hby hd) rfl st, r⟩
theorem own_imul (M : own_Mx Z a0 K code own mx ret rm) (X : own_Sx n0 K T h cl sl) {x y : Int32} (hd : decode code pc = .ok (.imul, 1)) (hp : pc + 1 = pc') (hr : own_Fin n0 K P T pc' L (.int (x * y) :: S)) : own_Fin n0 K P T pc L (.int y :: .int x :: S) := by
  obtain ⟨p, l, e, R, s, m, args, below, meth, c⟩ := K
  obtain ⟨hx, hby, hml, hown, hret, hlk, hZ, rfl, hw⟩ := M
  obtain ⟨locs, X, hN, eT, hn, hcl, hsl⟩ := X
  obtain ⟨s2, o2, st, r⟩ := hr
  subst hp
  exact ⟨s2, o2, XS.imul X.here hx rfl (hb hby hd) rfl st, r⟩
theorem own_lmul (M : own_Mx Z a0 K code own mx ret rm) (X : own_Sx n0 K T h cl sl) {x y : Int64} (hd : decode code pc = .ok (.lmul, 1)) (hp : pc + 1 = pc') (hr : own_Fin n0 K P T pc' L (.long (x * y) :: S)) : own_Fin n0 K P T pc L (.long y :: .long x :: S) := by
  obtain ⟨p, l, e, R, s, m, args, below, meth, c⟩ := K
  obtain ⟨hx, hby, hml, hown, hret, hlk, hZ, rfl, hw⟩ := M
  obtain ⟨locs, X, hN, eT, hn, hcl, hsl⟩ := X
  obtain ⟨s2, o2, st, r⟩ := hr
  subst hp
  exact ⟨s2, o2, XS.lmul X.here hx rfl (hb hby hd) rfl st, r⟩
theorem own_iand (M : own_Mx Z a0 K code own mx ret rm) (X : own_Sx n0 K T h cl sl) {x y : Int32} (hd : decode code pc = .ok (.iand, 1)) (hp : pc + 1 = pc') (hr : own_Fin n0 K P T pc' L (.int (x &&& y) :: S)) : own_Fin n0 K P T pc L (.int y :: .int x :: S) := by
  obtain ⟨p, l, e, R, s, m, args, below, meth, c⟩ := K
  obtain ⟨hx, hby, hml, hown, hret, hlk, hZ, rfl, hw⟩ := M
  obtain ⟨locs, X, hN, eT, hn, hcl, hsl⟩ := X
  obtain ⟨s2, o2, st, r⟩ := hr
  subst hp
  exact ⟨s2, o2, XS.iand X.here hx rfl (hb hby hd) rfl st, r⟩
theorem own_land (M : own_Mx Z a0 K code own mx ret rm) (X : own_Sx n0 K T h cl sl) {x y : Int64} (hd : decode code pc = .ok (.land, 1)) (hp : pc + 1 = pc') (hr : own_Fin n0 K P T pc' L (.long (x &&& y) :: S)) : own_Fin n0 K P T pc L (.long y :: .long x :: S) := by
  obtain ⟨p, l, e, R, s, m, args, below, meth, c⟩ := K
  obtain ⟨hx, hby, hml, hown, hret, hlk, hZ, rfl, hw⟩ := M
  obtain ⟨locs, X, hN, eT, hn, hcl, hsl⟩ := X
  obtain ⟨s2, o2, st, r⟩ := hr
  subst hp
  exact ⟨s2, o2, XS.land X.here hx rfl (hb hby hd) rfl st, r⟩
theorem own_ior (M : own_Mx Z a0 K code own mx ret rm) (X : own_Sx n0 K T h cl sl) {x y : Int32} (hd : decode code pc = .ok (.ior, 1)) (hp : pc + 1 = pc') (hr : own_Fin n0 K P T pc' L (.int (x ||| y) :: S)) : own_Fin n0 K P T pc L (.int y :: .int x :: S) := by
  obtain ⟨p, l, e, R, s, m, args, below, meth, c⟩ := K
  obtain ⟨hx, hby, hml, hown, hret, hlk, hZ, rfl, hw⟩ := M
  obtain ⟨locs, X, hN, eT, hn, hcl, hsl⟩ := X
  obtain ⟨s2, o2, st, r⟩ := hr
  subst hp
  exact ⟨s2, o2, XS.ior X.here hx rfl (hb hby hd) rfl st, r⟩
theorem own_lor (M : own_Mx Z a0 K code own mx ret rm) (X : own_Sx n0 K T h cl sl) {x y : Int64} (hd : decode code pc = .ok (.lor, 1)) (hp : pc + 1 = pc') (hr : own_Fin n0 K P T pc' L (.long (x ||| y) :: S)) : own_Fin n0 K P T pc L (.long y :: .long x :: S) := by
  obtain ⟨p, l, e, R, s, m, args, below, meth, c⟩ := K
  obtain ⟨hx, hby, hml, hown, hret, hlk, hZ, rfl, hw⟩ := M
  obtain ⟨locs, X, hN, eT, hn, hcl, hsl⟩ := X
  obtain ⟨s2, o2, st, r⟩ := hr
  subst hp
  exact ⟨s2, o2, XS.lor X.here hx rfl (hb hby hd) rfl st, r⟩
theorem own_ixor (M : own_Mx Z a0 K code own mx ret rm) (X : own_Sx n0 K T h cl sl) {x y : Int32} (hd : decode code pc = .ok (.ixor, 1)) (hp : pc + 1 = pc') (hr : own_Fin n0 K P T pc' L (.int (x ^^^ y) :: S)) : own_Fin n0 K P T pc L (.int y :: .int x :: S) := by
  obtain ⟨p, l, e, R, s, m, args, below, meth, c⟩ := K
  obtain ⟨hx, hby, hml, hown, hret, hlk, hZ, rfl, hw⟩ := M
  obtain ⟨locs, X, hN, eT, hn, hcl, hsl⟩ := X
  obtain ⟨s2, o2, st, r⟩ := hr
  subst hp
  exact ⟨s2, o2, XS.ixor X.here hx rfl (hb hby hd) rfl st, r⟩
theorem own_lxor (M : own_Mx Z a0 K code own mx ret rm) (X : own_Sx n0 K T h cl sl) {x y : Int64} (hd : decode code pc = .ok (.lxor, 1)) (hp : pc + 1 = pc') (hr : own_Fin n0 K P T pc' L (.long (x ^^^ y) :: S)) : own_Fin n0 K P T pc L (.long y :: .long x :: S) := by
  obtain ⟨p, l, e, R, s, m, args, below, meth, c⟩ := K
  obtain ⟨hx, hby, hml, hown, hret, hlk, hZ, rfl, hw⟩ := M
  obtain ⟨locs, X, hN, eT, hn, hcl, hsl⟩ := X
  obtain ⟨s2, o2, st, r⟩ := hr
  subst hp
  exact ⟨s2, o2, XS.lxor X.here hx rfl (hb hby hd) rfl st, r⟩
theorem own_ishl (M : own_Mx Z a0 K code own mx ret rm) (X : own_Sx n0 K T h cl sl) {x y : Int32} (hd : decode code pc = .ok (.ishl, 1)) (hp : pc + 1 = pc') (hr : own_Fin n0 K P T pc' L (.int (x <<< (y &&& 31)) :: S)) : own_Fin n0 K P T pc L (.int y :: .int x :: S) := by
  obtain ⟨p, l, e, R, s, m, args, below, meth, c⟩ := K
  obtain ⟨hx, hby, hml, hown, hret, hlk, hZ, rfl, hw⟩ := M
  obtain ⟨locs, X, hN, eT, hn, hcl, hsl⟩ := X
  obtain ⟨s2, o2, st, r⟩ := hr
  subst hp
  exact ⟨s2, o2, XS.ishl X.here hx rfl (hb hby hd) rfl st, r⟩
theorem own_ishr (M : own_Mx Z a0 K code own mx ret rm) (X : own_Sx n0 K T h cl sl) {x y : Int32} (hd : decode code pc = .ok (.ishr, 1)) (hp : pc + 1 = pc') (hr : own_Fin n0 K P T pc' L (.int (x >>> (y &&& 31)) :: S)) : own_Fin n0 K P T pc L (.int y :: .int x :: S) := by
  obtain ⟨p, l, e, R, s, m, args, below, meth, c⟩ := K
  obtain ⟨hx, hby, hml, hown, hret, hlk, hZ, rfl, hw⟩ := M
  obtain ⟨locs, X, hN, eT, hn, hcl, hsl⟩ := X
  obtain ⟨s2, o2, st, r⟩ := hr
  subst hp
  exact ⟨s2, o2, XS.ishr X.here hx rfl (hb hby hd) rfl st, r⟩
theorem own_iushr (M : own_Mx Z a0 K code own mx ret rm) (X : own_Sx n0 K T h cl sl) {x y : Int32} (hd : decode code pc = .ok (.iushr, 1)) (hp : pc + 1 = pc') (hr : own_Fin n0 K P T pc' L (.int ((x.toUInt32 >>> (y &&& 31).toUInt32).toInt32) :: S)) : own_Fin n0 K P T pc L (.int y :: .int x :: S) := by
  obtain ⟨p, l, e, R, s, m, args, below, meth, c⟩ := K
  obtain ⟨hx, hby, hml, hown, hret, hlk, hZ, rfl, hw⟩ := M
  obtain ⟨locs, X, hN, eT, hn, hcl, hsl⟩ := X
  obtain ⟨s2, o2, st, r⟩ := hr
  subst hp
  exact ⟨s2, o2, XS.iushr X.here hx rfl (hb hby hd) rfl st, r⟩
theorem own_lshl (M : own_Mx Z a0 K code own mx ret rm) (X : own_Sx n0 K T h cl sl) {x : Int64} {y : Int32} (hd : decode code pc = .ok (.lshl, 1)) (hp : pc + 1 = pc') (hr : own_Fin n0 K P T pc' L (.long (x <<< (y &&& 0x3f).toInt64) :: S)) : own_Fin n0 K P T pc L (.int y :: .long x :: S) := by
  obtain ⟨p, l, e, R, s, m, args, below, meth, c⟩ := K
  obtain ⟨hx, hby, hml, hown, hret, hlk, hZ, rfl, hw⟩ := M
  obtain ⟨locs, X, hN, eT, hn, hcl, hsl⟩ := X
  obtain ⟨s2, o2, st, r⟩ := hr
  subst hp
  exact ⟨s2, o2, XS.lshl X.here hx rfl (hb hby hd) rfl st, r⟩
theorem own_lshr (M : own_Mx Z a0 K code own mx ret rm) (X : own_Sx n0 K T h cl sl) {x : Int64} {y : Int32} (hd : decode code pc = .ok (.lshr, 1)) (hp : pc + 1 = pc') (hr : own_Fin n0 K P T pc' L (.long (x >>> (y &&& 0x3f).toInt64) :: S)) : own_Fin n0 K P T pc L (.int y :: .long x :: S) := by
  obtain ⟨p, l, e, R, s, m, args, below, meth, c⟩ := K
  obtain ⟨hx, hby, hml, hown, hret, hlk, hZ, rfl, hw⟩ := M
  obtain ⟨locs, X, hN, eT, hn, hcl, hsl⟩ := X
  obtain ⟨s2, o2, st, r⟩ := hr
  subst hp
  exact ⟨s2, o2, XS.lshr X.here hx rfl (hb hby hd) rfl st, r⟩
theorem own_lushr (M : own_Mx Z a0 K code own mx ret rm) (X : own_Sx n0 K T h cl sl) {x : Int64} {y : Int32} (hd : decode code pc = .ok (.lushr, 1)) (hp : pc + 1 = pc') (hr : own_Fin n0 K P T pc' L (.long ((x.toUInt64 >>> (y &&& 0x3f).toInt64.toUInt64).toInt64) :: S)) : own_Fin n0 K P T pc L (.int y :: .long x :: S) := by
  obtain ⟨p, l, e, R, s, m, args, below, meth, c⟩ := K
  obtain ⟨hx, hby, hml, hown, hret, hlk, hZ, rfl, hw⟩ := M
  obtain ⟨locs, X, hN, eT, hn, hcl, hsl⟩ := X
  obtain ⟨s2, o2, st, r⟩ := hr
  subst hp
  exact ⟨s2, o2, XS.lushr X.here hx rfl (hb hby hd) rfl st, r⟩
theorem own_idiv (M : own_Mx Z a0 K code own mx ret rm) (X : own_Sx n0 K T h cl sl) {x y : Int32} (hd : decode code pc = .ok (.idiv, 1)) (hy : y ≠ 0) (hp : pc + 1 = pc') (hr : own_Fin n0 K P T pc' L (.int (x / y) :: S)) : own_Fin n0 K P T pc L (.int y :: .int x :: S) := by
  obtain ⟨p, l, e, R, s, m, args, below, meth, c⟩ := K
  obtain ⟨hx, hby, hml, hown, hret, hlk, hZ, rfl, hw⟩ := M
  obtain ⟨locs, X, hN, eT, hn, hcl, hsl⟩ := X
  obtain ⟨s2, o2, st, r⟩ := hr
  subst hp
  exact ⟨s2, o2, XS.idiv X.here hx rfl (hb hby hd) rfl hy st, r⟩
theorem own_irem (M : own_Mx Z a0 K code own mx ret rm) (X : own_Sx n0 K T h cl sl) {x y : Int32} (hd : decode code pc = .ok (.irem, 1)) (hy : y ≠ 0) (hp : pc + 1 = pc') (hr : own_Fin n0 K P T pc' L (.int (x % y) :: S)) : own_Fin n0 K P T pc L (.int y :: .int x :: S) := by
  obtain ⟨p, l, e, R, s, m, args, below, meth, c⟩ := K
  obtain ⟨hx, hby, hml, hown, hret, hlk, hZ, rfl, hw⟩ := M
  obtain ⟨locs, X, hN, eT, hn, hcl, hsl⟩ := X
  obtain ⟨s2, o2, st, r⟩ := hr
  subst hp
  exact ⟨s2, o2, iremM X hx rfl (hb hby hd) rfl hy st, r⟩
theorem own_ldiv (M : own_Mx Z a0 K code own mx ret rm) (X : own_Sx n0 K T h cl sl) {x y : Int64} (hd : decode code pc = .ok (.ldiv, 1)) (hy : y ≠ 0) (hp : pc + 1 = pc') (hr : own_Fin n0 K P T pc' L (.long (x / y) :: S)) : own_Fin n0 K P T pc L (.long y :: .long x :: S) := by
  obtain ⟨p, l, e, R, s, m, args, below, meth, c⟩ := K
  obtain ⟨hx, hby, hml, hown, hret, hlk, hZ, rfl, hw⟩ := M
  obtain ⟨locs, X, hN, eT, hn, hcl, hsl⟩ := X
  obtain ⟨s2, o2, st, r⟩ := hr
  subst hp
  exact ⟨s2, o2, XS.ldiv X.here hx rfl (hb hby hd) rfl hy st, r⟩
theorem own_lrem (M : own_Mx Z a0 K code own mx ret rm) (X : own_Sx n0 K T h cl sl) {x y : Int64} (hd : decode code pc = .ok (.lrem, 1)) (hy : y ≠ 0) (hp : pc + 1 = pc') (hr : own_Fin n0 K P T pc' L (.long (x - (x / y) * y) :: S)) : own_Fin n0 K P T pc L (.long y :: .long x :: S) := by
  obtain ⟨p, l, e, R, s, m, args, below, meth, c⟩ := K
  obtain ⟨hx, hby, hml, hown, hret, hlk, hZ, rfl, hw⟩ := M
  obtain ⟨locs, X, hN, eT, hn, hcl, hsl⟩ := X
  obtain ⟨s2, o2, st, r⟩ := hr
  subst hp
  exact ⟨s2, o2, XS.lrem X.here hx rfl (hb hby hd) rfl hy st, r⟩
theorem own_ineg (M : own_Mx Z a0 K code own mx ret rm) (X : own_Sx n0 K T h cl sl) {x : Int32} (hd : decode code pc = .ok (.ineg, 1)) (hp : pc + 1 = pc') (hr : own_Fin n0 K P T pc' L (.int (-x) :: S)) : own_Fin n0 K P T pc L (.int x :: S) := by
  obtain ⟨p, l, e, R, s, m, args, below, meth, c⟩ := K
  obtain ⟨hx, hby, hml, hown, hret, hlk, hZ, rfl, hw⟩ := M
  obtain ⟨locs, X, hN, eT, hn, hcl, hsl⟩ := X
  obtain ⟨s2, o2, st, r⟩ := hr
  subst hp
  exact ⟨s2, o2, XS.ineg X.here hx rfl (hb hby hd) rfl st, r⟩
theorem own_lneg (M : own_Mx Z a0 K code own mx ret rm) (X : own_Sx n0 K T h cl sl) {x : Int64} (hd : decode code pc = .ok (.lneg, 1)) (hp : pc + 1 = pc') (hr : own_Fin n0 K P T pc' L (.long (-x) :: S)) : own_Fin n0 K P T pc L (.long x :: S) := by
  obtain ⟨p, l, e, R, s, m, args, below, meth, c⟩ := K
  obtain ⟨hx, hby, hml, hown, hret, hlk, hZ, rfl, hw⟩ := M
  obtain ⟨locs, X, hN, eT, hn, hcl, hsl⟩ := X
  obtain ⟨s2, o2, st, r⟩ := hr
  subst hp
  exact ⟨s2, o2, XS.lneg X.here hx rfl (hb hby hd) rfl st, r⟩
theorem own_i2l (M : own_Mx Z a0 K code own mx ret rm) (X : own_Sx n0 K T h cl sl) {x : Int32} (hd : decode code pc = .ok (.i2l, 1)) (hp : pc + 1 = pc') (hr : own_Fin n0 K P T pc' L (.long (x.toInt64) :: S)) : own_Fin n0 K P T pc L (.int x :: S) := by
  obtain ⟨p, l, e, R, s, m, args, below, meth, c⟩ := K
  obtain ⟨hx, hby, hml, hown, hret, hlk, hZ, rfl, hw⟩ := M
  obtain ⟨locs, X, hN, eT, hn, hcl, hsl⟩ := X
  obtain ⟨s2, o2, st, r⟩ := hr
  subst hp
  exact ⟨s2, o2, XS.i2l X.here hx rfl (hb hby hd) rfl st, r⟩
theorem own_l2i (M : own_Mx Z a0 K code own mx ret rm) (X : own_Sx n0 K T h cl sl) {x : Int64} (hd : decode code pc = .ok (.l2i, 1)) (hp : pc + 1 = pc') (hr : own_Fin n0 K P T pc' L (.int (x.toInt32) :: S)) : own_Fin n0 K P T pc L (.long x :: S) := by
  obtain ⟨p, l, e, R, s, m, args, below, meth, c⟩ := K
  obtain ⟨hx, hby, hml, hown, hret, hlk, hZ, rfl, hw⟩ := M
  obtain ⟨locs, X, hN, eT, hn, hcl, hsl⟩ := X
  obtain ⟨s2, o2, st, r⟩ := hr
  subst hp
  exact ⟨s2, o2, XS.l2i X.here hx rfl (hb hby hd) rfl st, r⟩
theorem own_i2b (M : own_Mx Z a0 K code own mx ret rm) (X : own_Sx n0 K T h cl sl) {x : Int32} (hd : decode code pc = .ok (.i2b, 1)) (hp : pc + 1 = pc') (hr : own_Fin n0 K P T pc' L (.int (x.toInt8.toInt32) :: S)) : own_Fin n0 K P T pc L (.int x :: S) := by
  obtain ⟨p, l, e, R, s, m, args, below, meth, c⟩ := K
  obtain ⟨hx, hby, hml, hown, hret, hlk, hZ, rfl, hw⟩ := M
  obtain ⟨locs, X, hN, eT, hn, hcl, hsl⟩ := X
  obtain ⟨s2, o2, st, r⟩ := hr
  subst hp
  exact ⟨s2, o2, XS.i2b X.here hx rfl (hb hby hd) rfl st, r⟩
theorem own_i2s (M : own_Mx Z a0 K code own mx ret rm) (X : own_Sx n0 K T h cl sl) {x : Int32} (hd : decode code pc = .ok (.i2s, 1)) (hp : pc + 1 = pc') (hr : own_Fin n0 K P T pc' L (.int (x.toInt16.toInt32) :: S)) : own_Fin n0 K P T pc L (.int x :: S) := by
  obtain ⟨p, l, e, R, s, m, args, below, meth, c⟩ := K
  obtain ⟨hx, hby, hml, hown, hret, hlk, hZ, rfl, hw⟩ := M
  obtain ⟨locs, X, hN, eT, hn, hcl, hsl⟩ := X
  obtain ⟨s2, o2, st, r⟩ := hr
  subst hp
  exact ⟨s2, o2, XS.i2s X.here hx rfl (hb hby hd) rfl st, r⟩
theorem own_i2c (M : own_Mx Z a0 K code own mx ret rm) (X : own_Sx n0 K T h cl sl) {x : Int32} (hd : decode code pc = .ok (.i2c, 1)) (hp : pc + 1 = pc') (hr : own_Fin n0 K P T pc' L (.int (x.toUInt32.toUInt16.toUInt32.toInt32) :: S)) : own_Fin n0 K P T pc L (.int x :: S) := by
  obtain ⟨p, l, e, R, s, m, args, below, meth, c⟩ := K
  obtain ⟨hx, hby, hml, hown, hret, hlk, hZ, rfl, hw⟩ := M
  obtain ⟨locs, X, hN, eT, hn, hcl, hsl⟩ := X
  obtain ⟨s2, o2, st, r⟩ := hr
  subst hp
  exact ⟨s2, o2, XS.i2c X.here hx rfl (hb hby hd) rfl st, r⟩
theorem own_iinc (M : own_Mx Z a0 K code own mx ret rm) (X : own_Sx n0 K T h cl sl) {k : Nat} {i : Int} {x v : Int32} (hd : decode code pc = .ok (.iinc k i, 3)) (hl : L[k]? = some (.val (.int x))) (hv : x + Int32.ofInt i = v) (hl' : storeLocals L k (.int v) = some L') (hp : pc + 3 = pc') (hr : own_Fin n0 K P T pc' L' (S)) : own_Fin n0 K P T pc L (S) := by
  obtain ⟨p, l, e, R, s, m, args, below, meth, c⟩ := K
  obtain ⟨hx, hby, hml, hown, hret, hlk, hZ, rfl, hw⟩ := M
  obtain ⟨locs, X, hN, eT, hn, hcl, hsl⟩ := X
  obtain ⟨s2, o2, st, r⟩ := hr
  subst hp
  subst hv
  exact ⟨s2, o2, XS.iinc X.here hx rfl (hb hby hd) hl hl' st, r⟩
theorem own_dup (M : own_Mx Z a0 K code own mx ret rm) (X : own_Sx n0 K T h cl sl) {v : Value} (hd : decode code pc = .ok (.dup, 1)) (hc : v.category = 1) (hp : pc + 1 = pc') (hr : own_Fin n0 K P T pc' L (v :: v :: S)) : own_Fin n0 K P T pc L (v :: S) := by
  obtain ⟨p, l, e, R, s, m, args, below, meth, c⟩ := K
  obtain ⟨hx, hby, hml, hown, hret, hlk, hZ, rfl, hw⟩ := M
  obtain ⟨locs, X, hN, eT, hn, hcl, hsl⟩ := X
  obtain ⟨s2, o2, st, r⟩ := hr
  subst hp
  exact ⟨s2, o2, XS.dup X.here hx rfl (hb hby hd) rfl hc st, r⟩
theorem own_pop (M : own_Mx Z a0 K code own mx ret rm) (X : own_Sx n0 K T h cl sl) {v : Value} (hd : decode code pc = .ok (.pop, 1)) (hc : v.category = 1) (hp : pc + 1 = pc') (hr : own_Fin n0 K P T pc' L (S)) : own_Fin n0 K P T pc L (v :: S) := by
  obtain ⟨p, l, e, R, s, m, args, below, meth, c⟩ := K
  obtain ⟨hx, hby, hml, hown, hret, hlk, hZ, rfl, hw⟩ := M
  obtain ⟨locs, X, hN, eT, hn, hcl, hsl⟩ := X
  obtain ⟨s2, o2, st, r⟩ := hr
  subst hp
  exact ⟨s2, o2, XS.pop X.here hx rfl (hb hby hd) rfl hc st, r⟩
theorem own_dup_x1 (M : own_Mx Z a0 K code own mx ret rm) (X : own_Sx n0 K T h cl sl) {v w : Value} (hd : decode code pc = .ok (.dup_x1, 1)) (hc : v.category = 1) (hc' : w.category = 1) (hp : pc + 1 = pc') (hr : own_Fin n0 K P T pc' L (v :: w :: v :: S)) : own_Fin n0 K P T pc L (v :: w :: S) := by
  obtain ⟨p, l, e, R, s, m, args, below, meth, c⟩ := K
  obtain ⟨hx, hby, hml, hown, hret, hlk, hZ, rfl, hw⟩ := M
  obtain ⟨locs, X, hN, eT, hn, hcl, hsl⟩ := X
  obtain ⟨s2, o2, st, r⟩ := hr
  subst hp
  exact ⟨s2, o2, XS.dupX1 X.here hx rfl (hb hby hd) rfl hc hc' st, r⟩
theorem own_dup2 (M : own_Mx Z a0 K code own mx ret rm) (X : own_Sx n0 K T h cl sl) {v w : Value} (hd : decode code pc = .ok (.dup2, 1)) (hc : v.category = 1) (hc' : w.category = 1) (hp : pc + 1 = pc') (hr : own_Fin n0 K P T pc' L (v :: w :: v :: w :: S)) : own_Fin n0 K P T pc L (v :: w :: S) := by
  obtain ⟨p, l, e, R, s, m, args, below, meth, c⟩ := K
  obtain ⟨hx, hby, hml, hown, hret, hlk, hZ, rfl, hw⟩ := M
  obtain ⟨locs, X, hN, eT, hn, hcl, hsl⟩ := X
  obtain ⟨s2, o2, st, r⟩ := hr
  subst hp
  exact ⟨s2, o2, XT.dup2 X.here hx rfl (hb hby hd) rfl hc hc' st, r⟩
theorem own_goto (M : own_Mx Z a0 K code own mx ret rm) (X : own_Sx n0 K T h cl sl) {o : Int} (hd : decode code pc = .ok (.goto o, 3)) (ho : 0 ≤ (pc : Int) + o) (hp : ((pc : Int) + o).toNat = pc') (hr : own_Fin n0 K P T pc' L S) : own_Fin n0 K P T pc L S := by
  obtain ⟨p, l, e, R, s, m, args, below, meth, c⟩ := K
  obtain ⟨hx, hby, hml, hown, hret, hlk, hZ, rfl, hw⟩ := M
  obtain ⟨locs, X, hN, eT, hn, hcl, hsl⟩ := X
  obtain ⟨s2, o2, st, r⟩ := hr
  exact ⟨s2, o2, XS.goto X.here hx rfl (pc0 := pc) rfl (hb hby hd) ho hp st, r⟩
theorem own_ldc (M : own_Mx Z a0 K code own mx ret rm) (X : own_Sx n0 K T h cl sl) {k : Nat} {v : Int32} (w : (Jvm.Cond.constant own k v).before a0 Z = true) (hd : decode code pc = .ok (.ldc k, 2)) (hp : pc + 2 = pc') (hr : own_Fin n0 K P T pc' L (.int v :: S)) : own_Fin n0 K P T pc L (S) := by
  obtain ⟨p, l, e, R, s, m, args, below, meth, c⟩ := K
  obtain ⟨hx, hby, hml, hown, hret, hlk, hZ, rfl, hw⟩ := M
  obtain ⟨locs, X, hN, eT, hn, hcl, hsl⟩ := X
  obtain ⟨s2, o2, st, r⟩ := hr
  subst hp
  exact ⟨s2, o2, X.ldcInt hx hown (mvT hZ w) (g := mkF m pc L S) rfl (hb hby hd) _ st, r⟩
theorem own_ldc_w (M : own_Mx Z a0 K code own mx ret rm) (X : own_Sx n0 K T h cl sl) {k : Nat} {v : Int32} (w : (Jvm.Cond.constant own k v).before a0 Z = true) (hd : decode code pc = .ok (.ldc_w k, 3)) (hp : pc + 3 = pc') (hr : own_Fin n0 K P T pc' L (.int v :: S)) : own_Fin n0 K P T pc L (S) := by
  obtain ⟨p, l, e, R, s, m, args, below, meth, c⟩ := K
  obtain ⟨hx, hby, hml, hown, hret, hlk, hZ, rfl, hw⟩ := M
  obtain ⟨locs, X, hN, eT, hn, hcl, hsl⟩ := X
  obtain ⟨s2, o2, st, r⟩ := hr
  subst hp
  exact ⟨s2, o2, X.ldcwInt hx hown (mvT hZ w) (g := mkF m pc L S) rfl (hb hby hd) _ st, r⟩
theorem own_ldc2_w (M : own_Mx Z a0 K code own mx ret rm) (X : own_Sx n0 K T h cl sl) {k : Nat} {v : Int64} (w : (Jvm.Cond.constantLong own k v).before a0 Z = true) (hd : decode code pc = .ok (.ldc2_w k, 3)) (hp : pc + 3 = pc') (hr : own_Fin n0 K P T pc' L (.long v :: S)) : own_Fin n0 K P T pc L (S) := by
  obtain ⟨p, l, e, R, s, m, args, below, meth, c⟩ := K
  obtain ⟨hx, hby, hml, hown, hret, hlk, hZ, rfl, hw⟩ := M
  obtain ⟨locs, X, hN, eT, hn, hcl, hsl⟩ := X
  obtain ⟨s2, o2, st, r⟩ := hr
  subst hp
  exact ⟨s2, o2, X.ldc2Long hx hown (mvT hZ w) (g := mkF m pc L S) rfl (hb hby hd) _ st, r⟩
theorem own_icmp_lt (M : own_Mx Z a0 K code own mx ret rm) (X : own_Sx n0 K T h cl sl) {x y : Int32} {o : Int} {pcY pcN : Nat} (hd : decode code pc = .ok (.if_icmp .lt o, 3)) (ho : 0 ≤ (pc : Int) + o) (hY : ((pc : Int) + o).toNat = pcY) (hpN : pc + 3 = pcN) (yes : x < y → own_Fin n0 K P T pcY L S) (no : ¬ x < y → own_Fin n0 K P T pcN L S) : own_Fin n0 K P T pc L (.int y :: .int x :: S) := by
  obtain ⟨p, l, e, R, s, m, args, below, meth, c⟩ := K
  obtain ⟨hx, hby, hml, hown, hret, hlk, hZ, rfl, hw⟩ := M
  obtain ⟨locs, X, hN, eT, hn, hcl, hsl⟩ := X
  subst hpN
  by_cases q : x < y
  · obtain ⟨s2, o2, st, r⟩ := yes q
    exact ⟨s2, o2, XS.icmpYes X.here hx rfl (pc0 := pc) rfl (hb hby hd) rfl (tlt q).1 ho hY st, r⟩
  · obtain ⟨s2, o2, st, r⟩ := no q
    exact ⟨s2, o2, XS.icmpNo X.here hx rfl (hb hby hd) rfl (flt q).1 st, r⟩
theorem own_if_lt (M : own_Mx Z a0 K code own mx ret rm) (X : own_Sx n0 K T h cl sl) {x : Int32} {o : Int} {pcY pcN : Nat} (hd : decode code pc = .ok (.ifCond .lt o, 3)) (ho : 0 ≤ (pc : Int) + o) (hY : ((pc : Int) + o).toNat = pcY) (hpN : pc + 3 = pcN) (yes : x < 0 → own_Fin n0 K P T pcY L S) (no : ¬ x < 0 → own_Fin n0 K P T pcN L S) : own_Fin n0 K P T pc L (.int x :: S) := by
  obtain ⟨p, l, e, R, s, m, args, below, meth, c⟩ := K
  obtain ⟨hx, hby, hml, hown, hret, hlk, hZ, rfl, hw⟩ := M
  obtain ⟨locs, X, hN, eT, hn, hcl, hsl⟩ := X
  subst hpN
  by_cases q : x < 0
  · obtain ⟨s2, o2, st, r⟩ := yes q
    exact ⟨s2, o2, XS.ifYes X.here hx rfl (pc0 := pc) rfl (hb hby hd) rfl ((if0 _ _).trans (tlt q).1) ho hY st, r⟩
  · obtain ⟨s2, o2, st, r⟩ := no q
    exact ⟨s2, o2, XS.ifNo X.here hx rfl (hb hby hd) rfl ((if0 _ _).trans (flt q).1) st, r⟩
theorem own_lcmp_lt (M : own_Mx Z a0 K code own mx ret rm) (X : own_Sx n0 K T h cl sl) {x y : Int64} {pc1 : Nat} {o : Int} {pcY pcN : Nat} (hdc : decode code pc = .ok (.lcmp, 1)) (h1 : pc + 1 = pc1) (hd : decode code pc1 = .ok (.ifCond .lt o, 3)) (ho : 0 ≤ (pc1 : Int) + o) (hY : ((pc1 : Int) + o).toNat = pcY) (hpN : pc1 + 3 = pcN) (yes : x < y → own_Fin n0 K P T pcY L S) (no : ¬ x < y → own_Fin n0 K P T pcN L S) : own_Fin n0 K P T pc L (.long y :: .long x :: S) := by
  obtain ⟨p, l, e, R, s, m, args, below, meth, c⟩ := K
  obtain ⟨hx, hby, hml, hown, hret, hlk, hZ, rfl, hw⟩ := M
  obtain ⟨locs, X, hN, eT, hn, hcl, hsl⟩ := X
  subst hpN h1
  by_cases q : x < y
  · obtain ⟨s2, o2, st, r⟩ := yes q
    exact ⟨s2, o2, XS.lcmp X.here hx rfl (hb hby hdc) rfl (XS.ifYes (g := mkF m (pc + 1) L (.int (lcmpW x y) :: S)) X.here hx rfl (pc0 := pc + 1) rfl (hb hby hd) rfl ((if0 _ _).trans (tlt ((lw_lt x y).mpr q)).1) ho hY st), r⟩
  · obtain ⟨s2, o2, st, r⟩ := no q
    exact ⟨s2, o2, XS.lcmp X.here hx rfl (hb hby hdc) rfl (XS.ifNo (g := mkF m (pc + 1) L (.int (lcmpW x y) :: S)) X.here hx rfl (hb hby hd) rfl ((if0 _ _).trans (flt (fun z => q ((lw_lt x y).mp z))).1) st), r⟩
theorem own_icmp_ge (M : own_Mx Z a0 K code own mx ret rm) (X : own_Sx n0 K T h cl sl) {x y : Int32} {o : Int} {pcY pcN : Nat} (hd : decode code pc = .ok (.if_icmp .ge o, 3)) (ho : 0 ≤ (pc : Int) + o) (hY : ((pc : Int) + o).toNat = pcY) (hpN : pc + 3 = pcN) (yes : ¬ x < y → own_Fin n0 K P T pcY L S) (no : x < y → own_Fin n0 K P T pcN L S) : own_Fin n0 K P T pc L (.int y :: .int x :: S) := by
  obtain ⟨p, l, e, R, s, m, args, below, meth, c⟩ := K
  obtain ⟨hx, hby, hml, hown, hret, hlk, hZ, rfl, hw⟩ := M
  obtain ⟨locs, X, hN, eT, hn, hcl, hsl⟩ := X
  subst hpN
  by_cases q : x < y
  · obtain ⟨s2, o2, st, r⟩ := no q
    exact ⟨s2, o2, XS.icmpNo X.here hx rfl (hb hby hd) rfl (tlt q).2.1 st, r⟩
  · obtain ⟨s2, o2, st, r⟩ := yes q
    exact ⟨s2, o2, XS.icmpYes X.here hx rfl (pc0 := pc) rfl (hb hby hd) rfl (flt q).2.1 ho hY st, r⟩
theorem own_if_ge (M : own_Mx Z a0 K code own mx ret rm) (X : own_Sx n0 K T h cl sl) {x : Int32} {o : Int} {pcY pcN : Nat} (hd : decode code pc = .ok (.ifCond .ge o, 3)) (ho : 0 ≤ (pc : Int) + o) (hY : ((pc : Int) + o).toNat = pcY) (hpN : pc + 3 = pcN) (yes : ¬ x < 0 → own_Fin n0 K P T pcY L S) (no : x < 0 → own_Fin n0 K P T pcN L S) : own_Fin n0 K P T pc L (.int x :: S) := by
  obtain ⟨p, l, e, R, s, m, args, below, meth, c⟩ := K
  obtain ⟨hx, hby, hml, hown, hret, hlk, hZ, rfl, hw⟩ := M
  obtain ⟨locs, X, hN, eT, hn, hcl, hsl⟩ := X
  subst hpN
  by_cases q : x < 0
  · obtain ⟨s2, o2, st, r⟩ := no q
    exact ⟨s2, o2, XS.ifNo X.here hx rfl (hb hby hd) rfl ((if0 _ _).trans (tlt q).2.1) st, r⟩
  · obtain ⟨s2, o2, st, r⟩ := yes q
    exact ⟨s2, o2, XS.ifYes X.here hx rfl (pc0 := pc) rfl (hb hby hd) rfl ((if0 _ _).trans (flt q).2.1) ho hY st, r⟩
theorem own_lcmp_ge (M : own_Mx Z a0 K code own mx ret rm) (X : own_Sx n0 K T h cl sl) {x y : Int64} {pc1 : Nat} {o : Int} {pcY pcN : Nat} (hdc : decode code pc = .ok (.lcmp, 1)) (h1 : pc + 1 = pc1) (hd : decode code pc1 = .ok (.ifCond .ge o, 3)) (ho : 0 ≤ (pc1 : Int) + o) (hY : ((pc1 : Int) + o).toNat = pcY) (hpN : pc1 + 3 = pcN) (yes : ¬ x < y → own_Fin n0 K P T pcY L S) (no : x < y → own_Fin n0 K P T pcN L S) : own_Fin n0 K P T pc L (.long y :: .long x :: S) := by
  obtain ⟨p, l, e, R, s, m, args, below, meth, c⟩ := K
  obtain ⟨hx, hby, hml, hown, hret, hlk, hZ, rfl, hw⟩ := M
  obtain ⟨locs, X, hN, eT, hn, hcl, hsl⟩ := X
  subst hpN h1
  by_cases q : x < y
  · obtain ⟨s2, o2, st, r⟩ := no q
    exact ⟨s2, o2, XS.lcmp X.here hx rfl (hb hby hdc) rfl (XS.ifNo (g := mkF m (pc + 1) L (.int (lcmpW x y) :: S)) X.here hx rfl (hb hby hd) rfl ((if0 _ _).trans (tlt ((lw_lt x y).mpr q)).2.1) st), r⟩
  · obtain ⟨s2, o2, st, r⟩ := yes q
    exact ⟨s2, o2, XS.lcmp X.here hx rfl (hb hby hdc) rfl (XS.ifYes (g := mkF m (pc + 1) L (.int (lcmpW x y) :: S)) X.here hx rfl (pc0 := pc + 1) rfl (hb hby hd) rfl ((if0 _ _).trans (flt (fun z => q ((lw_lt x y).mp z))).2.1) ho hY st), r⟩
theorem own_icmp_gt (M : own_Mx Z a0 K code own mx ret rm) (X : own_Sx n0 K T h cl sl) {x y : Int32} {o : Int} {pcY pcN : Nat} (hd : decode code pc = .ok (.if_icmp .gt o, 3)) (ho : 0 ≤ (pc : Int) + o) (hY : ((pc : Int) + o).toNat = pcY) (hpN : pc + 3 = pcN) (yes : y < x → own_Fin n0 K P T pcY L S) (no : ¬ y < x → own_Fin n0 K P T pcN L S) : own_Fin n0 K P T pc L (.int y :: .int x :: S) := by
  obtain ⟨p, l, e, R, s, m, args, below, meth, c⟩ := K
  obtain ⟨hx, hby, hml, hown, hret, hlk, hZ, rfl, hw⟩ := M
  obtain ⟨locs, X, hN, eT, hn, hcl, hsl⟩ := X
  subst hpN
  by_cases q : y < x
  · obtain ⟨s2, o2, st, r⟩ := yes q
    exact ⟨s2, o2, XS.icmpYes X.here hx rfl (pc0 := pc) rfl (hb hby hd) rfl (tlt q).2.2.1 ho hY st, r⟩
  · obtain ⟨s2, o2, st, r⟩ := no q
    exact ⟨s2, o2, XS.icmpNo X.here hx rfl (hb hby hd) rfl (flt q).2.2.1 st, r⟩
theorem own_if_gt (M : own_Mx Z a0 K code own mx ret rm) (X : own_Sx n0 K T h cl sl) {x : Int32} {o : Int} {pcY pcN : Nat} (hd : decode code pc = .ok (.ifCond .gt o, 3)) (ho : 0 ≤ (pc : Int) + o) (hY : ((pc : Int) + o).toNat = pcY) (hpN : pc + 3 = pcN) (yes : 0 < x → own_Fin n0 K P T pcY L S) (no : ¬ 0 < x → own_Fin n0 K P T pcN L S) : own_Fin n0 K P T pc L (.int x :: S) := by
  obtain ⟨p, l, e, R, s, m, args, below, meth, c⟩ := K
  obtain ⟨hx, hby, hml, hown, hret, hlk, hZ, rfl, hw⟩ := M
  obtain ⟨locs, X, hN, eT, hn, hcl, hsl⟩ := X
  subst hpN
  by_cases q : 0 < x
  · obtain ⟨s2, o2, st, r⟩ := yes q
    exact ⟨s2, o2, XS.ifYes X.here hx rfl (pc0 := pc) rfl (hb hby hd) rfl ((if0 _ _).trans (tlt q).2.2.1) ho hY st, r⟩
  · obtain ⟨s2, o2, st, r⟩ := no q
    exact ⟨s2, o2, XS.ifNo X.here hx rfl (hb hby hd) rfl ((if0 _ _).trans (flt q).2.2.1) st, r⟩
theorem own_lcmp_gt (M : own_Mx Z a0 K code own mx ret rm) (X : own_Sx n0 K T h cl sl) {x y : Int64} {pc1 : Nat} {o : Int} {pcY pcN : Nat} (hdc : decode code pc = .ok (.lcmp, 1)) (h1 : pc + 1 = pc1) (hd : decode code pc1 = .ok (.ifCond .gt o, 3)) (ho : 0 ≤ (pc1 : Int) + o) (hY : ((pc1 : Int) + o).toNat = pcY) (hpN : pc1 + 3 = pcN) (yes : y < x → own_Fin n0 K P T pcY L S) (no : ¬ y < x → own_Fin n0 K P T pcN L S) : own_Fin n0 K P T pc L (.long y :: .long x :: S) := by
  obtain ⟨p, l, e, R, s, m, args, below, meth, c⟩ := K
  obtain ⟨hx, hby, hml, hown, hret, hlk, hZ, rfl, hw⟩ := M
  obtain ⟨locs, X, hN, eT, hn, hcl, hsl⟩ := X
  subst hpN h1
  by_cases q : y < x
  · obtain ⟨s2, o2, st, r⟩ := yes q
    exact ⟨s2, o2, XS.lcmp X.here hx rfl (hb hby hdc) rfl (XS.ifYes (g := mkF m (pc + 1) L (.int (lcmpW x y) :: S)) X.here hx rfl (pc0 := pc + 1) rfl (hb hby hd) rfl ((if0 _ _).trans (tlt ((lw_gt x y).mpr q)).2.2.1) ho hY st), r⟩
  · obtain ⟨s2, o2, st, r⟩ := no q
    exact ⟨s2, o2, XS.lcmp X.here hx rfl (hb hby hdc) rfl (XS.ifNo (g := mkF m (pc + 1) L (.int (lcmpW x y) :: S)) X.here hx rfl (hb hby hd) rfl ((if0 _ _).trans (flt (fun z => q ((lw_gt x y).mp z))).2.2.1) st), r⟩
theorem own_icmp_le (M : own_Mx Z a0 K code own mx ret rm) (X : own_Sx n0 K T h cl sl) {x y : Int32} {o : Int} {pcY pcN : Nat} (hd : decode code pc = .ok (.if_icmp .le o, 3)) (ho : 0 ≤ (pc : Int) + o) (hY : ((pc : Int) + o).toNat = pcY) (hpN : pc + 3 = pcN) (yes : ¬ y < x → own_Fin n0 K P T pcY L S) (no : y < x → own_Fin n0 K P T pcN L S) : own_Fin n0 K P T pc L (.int y :: .int x :: S) := by
  obtain ⟨p, l, e, R, s, m, args, below, meth, c⟩ := K
  obtain ⟨hx, hby, hml, hown, hret, hlk, hZ, rfl, hw⟩ := M
  obtain ⟨locs, X, hN, eT, hn, hcl, hsl⟩ := X
  subst hpN
  by_cases q : y < x
  · obtain ⟨s2, o2, st, r⟩ := no q
    exact ⟨s2, o2, XS.icmpNo X.here hx rfl (hb hby hd) rfl (tlt q).2.2.2 st, r⟩
  · obtain ⟨s2, o2, st, r⟩ := yes q
    exact ⟨s2, o2, XS.icmpYes X.here hx rfl (pc0 := pc) rfl (hb hby hd) rfl (flt q).2.2.2 ho hY st, r⟩
theorem own_if_le (M : own_Mx Z a0 K code own mx ret rm) (X : own_Sx n0 K T h cl sl) {x : Int32} {o : Int} {pcY pcN : Nat} (hd : decode code pc = .ok (.ifCond .le o, 3)) (ho : 0 ≤ (pc : Int) + o) (hY : ((pc : Int) + o).toNat = pcY) (hpN : pc + 3 = pcN) (yes : ¬ 0 < x → own_Fin n0 K P T pcY L S) (no : 0 < x → own_Fin n0 K P T pcN L S) : own_Fin n0 K P T pc L (.int x :: S) := by
  obtain ⟨p, l, e, R, s, m, args, below, meth, c⟩ := K
  obtain ⟨hx, hby, hml, hown, hret, hlk, hZ, rfl, hw⟩ := M
  obtain ⟨locs, X, hN, eT, hn, hcl, hsl⟩ := X
  subst hpN
  by_cases q : 0 < x
  · obtain ⟨s2, o2, st, r⟩ := no q
    exact ⟨s2, o2, XS.ifNo X.here hx rfl (hb hby hd) rfl ((if0 _ _).trans (tlt q).2.2.2) st, r⟩
  · obtain ⟨s2, o2, st, r⟩ := yes q
    exact ⟨s2, o2, XS.ifYes X.here hx rfl (pc0 := pc) rfl (hb hby hd) rfl ((if0 _ _).trans (flt q).2.2.2) ho hY st, r⟩
theorem own_lcmp_le (M : own_Mx Z a0 K code own mx ret rm) (X : own_Sx n0 K T h cl sl) {x y : Int64} {pc1 : Nat} {o : Int} {pcY pcN : Nat} (hdc : decode code pc = .ok (.lcmp, 1)) (h1 : pc + 1 = pc1) (hd : decode code pc1 = .ok (.ifCond .le o, 3)) (ho : 0 ≤ (pc1 : Int) + o) (hY : ((pc1 : Int) + o).toNat = pcY) (hpN : pc1 + 3 = pcN) (yes : ¬ y < x → own_Fin n0 K P T pcY L S) (no : y < x → own_Fin n0 K P T pcN L S) : own_Fin n0 K P T pc L (.long y :: .long x :: S) := by
  obtain ⟨p, l, e, R, s, m, args, below, meth, c⟩ := K
  obtain ⟨hx, hby, hml, hown, hret, hlk, hZ, rfl, hw⟩ := M
  obtain ⟨locs, X, hN, eT, hn, hcl, hsl⟩ := X
  subst hpN h1
  by_cases q : y < x
  · obtain ⟨s2, o2, st, r⟩ := no q
    exact ⟨s2, o2, XS.lcmp X.here hx rfl (hb hby hdc) rfl (XS.ifNo (g := mkF m (pc + 1) L (.int (lcmpW x y) :: S)) X.here hx rfl (hb hby hd) rfl ((if0 _ _).trans (tlt ((lw_gt x y).mpr q)).2.2.2) st), r⟩
  · obtain ⟨s2, o2, st, r⟩ := yes q
    exact ⟨s2, o2, XS.lcmp X.here hx rfl (hb hby hdc) rfl (XS.ifYes (g := mkF m (pc + 1) L (.int (lcmpW x y) :: S)) X.here hx rfl (pc0 := pc + 1) rfl (hb hby hd) rfl ((if0 _ _).trans (flt (fun z => q ((lw_gt x y).mp z))).2.2.2) ho hY st), r⟩
theorem own_icmp_eq (M : own_Mx Z a0 K code own mx ret rm) (X : own_Sx n0 K T h cl sl) {x y : Int32} {o : Int} {pcY pcN : Nat} (hd : decode code pc = .ok (.if_icmp .eq o, 3)) (ho : 0 ≤ (pc : Int) + o) (hY : ((pc : Int) + o).toNat = pcY) (hpN : pc + 3 = pcN) (yes : x = y → own_Fin n0 K P T pcY L S) (no : ¬ x = y → own_Fin n0 K P T pcN L S) : own_Fin n0 K P T pc L (.int y :: .int x :: S) := by
  obtain ⟨p, l, e, R, s, m, args, below, meth, c⟩ := K
  obtain ⟨hx, hby, hml, hown, hret, hlk, hZ, rfl, hw⟩ := M
  obtain ⟨locs, X, hN, eT, hn, hcl, hsl⟩ := X
  subst hpN
  by_cases q : x = y
  · obtain ⟨s2, o2, st, r⟩ := yes q
    exact ⟨s2, o2, XS.icmpYes X.here hx rfl (pc0 := pc) rfl (hb hby hd) rfl (teq q).1 ho hY st, r⟩
  · obtain ⟨s2, o2, st, r⟩ := no q
    exact ⟨s2, o2, XS.icmpNo X.here hx rfl (hb hby hd) rfl (feq q).1 st, r⟩
theorem own_if_eq (M : own_Mx Z a0 K code own mx ret rm) (X : own_Sx n0 K T h cl sl) {x : Int32} {o : Int} {pcY pcN : Nat} (hd : decode code pc = .ok (.ifCond .eq o, 3)) (ho : 0 ≤ (pc : Int) + o) (hY : ((pc : Int) + o).toNat = pcY) (hpN : pc + 3 = pcN) (yes : x = 0 → own_Fin n0 K P T pcY L S) (no : ¬ x = 0 → own_Fin n0 K P T pcN L S) : own_Fin n0 K P T pc L (.int x :: S) := by
  obtain ⟨p, l, e, R, s, m, args, below, meth, c⟩ := K
  obtain ⟨hx, hby, hml, hown, hret, hlk, hZ, rfl, hw⟩ := M
  obtain ⟨locs, X, hN, eT, hn, hcl, hsl⟩ := X
  subst hpN
  by_cases q : x = 0
  · obtain ⟨s2, o2, st, r⟩ := yes q
    exact ⟨s2, o2, XS.ifYes X.here hx rfl (pc0 := pc) rfl (hb hby hd) rfl ((if0 _ _).trans (teq q).1) ho hY st, r⟩
  · obtain ⟨s2, o2, st, r⟩ := no q
    exact ⟨s2, o2, XS.ifNo X.here hx rfl (hb hby hd) rfl ((if0 _ _).trans (feq q).1) st, r⟩
theorem own_lcmp_eq (M : own_Mx Z a0 K code own mx ret rm) (X : own_Sx n0 K T h cl sl) {x y : Int64} {pc1 : Nat} {o : Int} {pcY pcN : Nat} (hdc : decode code pc = .ok (.lcmp, 1)) (h1 : pc + 1 = pc1) (hd : decode code pc1 = .ok (.ifCond .eq o, 3)) (ho : 0 ≤ (pc1 : Int) + o) (hY : ((pc1 : Int) + o).toNat = pcY) (hpN : pc1 + 3 = pcN) (yes : x = y → own_Fin n0 K P T pcY L S) (no : ¬ x = y → own_Fin n0 K P T pcN L S) : own_Fin n0 K P T pc L (.long y :: .long x :: S) := by
  obtain ⟨p, l, e, R, s, m, args, below, meth, c⟩ := K
  obtain ⟨hx, hby, hml, hown, hret, hlk, hZ, rfl, hw⟩ := M
  obtain ⟨locs, X, hN, eT, hn, hcl, hsl⟩ := X
  subst hpN h1
  by_cases q : x = y
  · obtain ⟨s2, o2, st, r⟩ := yes q
    exact ⟨s2, o2, XS.lcmp X.here hx rfl (hb hby hdc) rfl (XS.ifYes (g := mkF m (pc + 1) L (.int (lcmpW x y) :: S)) X.here hx rfl (pc0 := pc + 1) rfl (hb hby hd) rfl ((if0 _ _).trans (teq ((lw_eq x y).mpr q)).1) ho hY st), r⟩
  · obtain ⟨s2, o2, st, r⟩ := no q
    exact ⟨s2, o2, XS.lcmp X.here hx rfl (hb hby hdc) rfl (XS.ifNo (g := mkF m (pc + 1) L (.int (lcmpW x y) :: S)) X.here hx rfl (hb hby hd) rfl ((if0 _ _).trans (feq (fun z => q ((lw_eq x y).mp z))).1) st), r⟩
theorem own_icmp_ne (M : own_Mx Z a0 K code own mx ret rm) (X : own_Sx n0 K T h cl sl) {x y : Int32} {o : Int} {pcY pcN : Nat} (hd : decode code pc = .ok (.if_icmp .ne o, 3)) (ho : 0 ≤ (pc : Int) + o) (hY : ((pc : Int) + o).toNat = pcY) (hpN : pc + 3 = pcN) (yes : ¬ x = y → own_Fin n0 K P T pcY L S) (no : x = y → own_Fin n0 K P T pcN L S) : own_Fin n0 K P T pc L (.int y :: .int x :: S) := by
  obtain ⟨p, l, e, R, s, m, args, below, meth, c⟩ := K
  obtain ⟨hx, hby, hml, hown, hret, hlk, hZ, rfl, hw⟩ := M
  obtain ⟨locs, X, hN, eT, hn, hcl, hsl⟩ := X
  subst hpN
  by_cases q : x = y
  · obtain ⟨s2, o2, st, r⟩ := no q
    exact ⟨s2, o2, XS.icmpNo X.here hx rfl (hb hby hd) rfl (teq q).2 st, r⟩
  · obtain ⟨s2, o2, st, r⟩ := yes q
    exact ⟨s2, o2, XS.icmpYes X.here hx rfl (pc0 := pc) rfl (hb hby hd) rfl (feq q).2 ho hY st, r⟩
theorem own_if_ne (M : own_Mx Z a0 K code own mx ret rm) (X : own_Sx n0 K T h cl sl) {x : Int32} {o : Int} {pcY pcN : Nat} (hd : decode code pc = .ok (.ifCond .ne o, 3)) (ho : 0 ≤ (pc : Int) + o) (hY : ((pc : Int) + o).toNat = pcY) (hpN : pc + 3 = pcN) (yes : ¬ x = 0 → own_Fin n0 K P T pcY L S) (no : x = 0 → own_Fin n0 K P T pcN L S) : own_Fin n0 K P T pc L (.int x :: S) := by
  obtain ⟨p, l, e, R, s, m, args, below, meth, c⟩ := K
  obtain ⟨hx, hby, hml, hown, hret, hlk, hZ, rfl, hw⟩ := M
  obtain ⟨locs, X, hN, eT, hn, hcl, hsl⟩ := X
  subst hpN
  by_cases q : x = 0
  · obtain ⟨s2, o2, st, r⟩ := no q
    exact ⟨s2, o2, XS.ifNo X.here hx rfl (hb hby hd) rfl ((if0 _ _).trans (teq q).2) st, r⟩
  · obtain ⟨s2, o2, st, r⟩ := yes q
    exact ⟨s2, o2, XS.ifYes X.here hx rfl (pc0 := pc) rfl (hb hby hd) rfl ((if0 _ _).trans (feq q).2) ho hY st, r⟩
theorem own_lcmp_ne (M : own_Mx Z a0 K code own mx ret rm) (X : own_Sx n0 K T h cl sl) {x y : Int64} {pc1 : Nat} {o : Int} {pcY pcN : Nat} (hdc : decode code pc = .ok (.lcmp, 1)) (h1 : pc + 1 = pc1) (hd : decode code pc1 = .ok (.ifCond .ne o, 3)) (ho : 0 ≤ (pc1 : Int) + o) (hY : ((pc1 : Int) + o).toNat = pcY) (hpN : pc1 + 3 = pcN) (yes : ¬ x = y → own_Fin n0 K P T pcY L S) (no : x = y → own_Fin n0 K P T pcN L S) : own_Fin n0 K P T pc L (.long y :: .long x :: S) := by
  obtain ⟨p, l, e, R, s, m, args, below, meth, c⟩ := K
  obtain ⟨hx, hby, hml, hown, hret, hlk, hZ, rfl, hw⟩ := M
  obtain ⟨locs, X, hN, eT, hn, hcl, hsl⟩ := X
  subst hpN h1
  by_cases q : x = y
  · obtain ⟨s2, o2, st, r⟩ := no q
    exact ⟨s2, o2, XS.lcmp X.here hx rfl (hb hby hdc) rfl (XS.ifNo (g := mkF m (pc + 1) L (.int (lcmpW x y) :: S)) X.here hx rfl (hb hby hd) rfl ((if0 _ _).trans (teq ((lw_eq x y).mpr q)).2) st), r⟩
  · obtain ⟨s2, o2, st, r⟩ := yes q
    exact ⟨s2, o2, XS.lcmp X.here hx rfl (hb hby hdc) rfl (XS.ifYes (g := mkF m (pc + 1) L (.int (lcmpW x y) :: S)) X.here hx rfl (pc0 := pc + 1) rfl (hb hby hd) rfl ((if0 _ _).trans (feq (fun z => q ((lw_eq x y).mp z))).2) ho hY st), r⟩
theorem own_callS (M : own_Mx Z a0 K code own mx ret rm) (X : own_Sx n0 K T h cl sl) {y : MethodName} {ycode : ByteArray} {ymx : Nat} {yret : Option FieldType} {yrm : Room} {idx : Nat} {Q : Option Value → Heap → Prop} {ps : List FieldType} {yr : Option FieldType} (argsL : List Value)
    (w1 : (Jvm.Cond.methodLink own idx y).before a0 Z = true) (w2 : (Jvm.Cond.static y).before a0 Z = true) (w3 : (Jvm.Cond.initialized y.cls).before a0 Z = true) (w4 : (Jvm.Cond.code y ycode ymx yret).before a0 Z = true) (hy : y.cls ≠ "java/lang/invoke/MethodHandle" ∧ y.cls ≠ "java/lang/invoke/VarHandle")
    (hM : own_Met K.2.1 Z n0 y ycode ymx yret yrm argsL.toArray h Q) (hL : L.size = mx) (hd : decode code pc = .ok (.invokestatic idx, 3)) (hp : pc + 3 = pc') (hpd : parseMethodDescriptor y.desc = some ⟨ps, yr⟩) (hlen : argsL.length = ps.length) (hS : S = argsL.reverse ++ rest)
    (W : Nat) (hW : (rest.map fun v => v.category).sum ≤ W) (hf : yrm.frames + 1 ≤ rm.frames) (hl : W + (ymx + 11) + yrm.locals ≤ rm.locals) (hc : cl + yrm.cells ≤ rm.cells) (hs : sl + yrm.slots ≤ rm.slots)
    (hr : ∀ T' h' v, own_Sx n0 K T' h' (cl + yrm.cells) (sl + yrm.slots) → Q v h' → own_Fin n0 K P T' pc' L (v.toList ++ rest)) : own_Fin n0 K P T pc L S := by
  obtain ⟨p, l, e, R, s, m, args, below, meth, c⟩ := K
  obtain ⟨hx, hby, hml, hown, hret, hlk, hZ, rfl, hw⟩ := M
  obtain ⟨locs, X, hN, eT, hn, hcl, hsl⟩ := X
  obtain ⟨v, vm1, ⟨T1, L1, k1, n1⟩, -, X1, ⟨Lc, hQ, l1, y1, z1⟩, st⟩ := Jvm.LawKit.callS X hx (y := y) hown (mvT hZ w1) (mvT hZ w2) (mvT hZ w3) (mvT hZ w4) hy (backOf (W := W) (Q := fun v h L => Q v h ∧ Fr n0 L) (hM []) hZ w4 w3 hf hl) (g := mkF m pc L S) rfl (by rw [hml]; exact hL) (argsL := argsL) (rest := rest) (lenOf hpd hlen) hS (by show 2 * 0 + _ ≤ W; omega) (hb hby hd) (fun _ _ => ⟨rfl, eT, hc, hs⟩)
  dsimp only [Pt.U, Pt.locs, Pt.cells, Pt.slots] at X1 l1 y1 z1 st hQ
  subst l1 y1 z1 hp
  obtain ⟨s2, o2, st2, r⟩ := hr T1 _ v ⟨_, X1, Fr.app hN hQ.2, rfl, hn, hc, hs⟩ hQ.1
  exact ⟨s2, o2, st _ st2, r⟩
theorem own_callP (M : own_Mx Z a0 K code own mx ret rm) (X : own_Sx n0 K T h cl sl) {y : MethodName} {ycode : ByteArray} {ymx : Nat} {yret : Option FieldType} {yrm : Room} {idx : Nat} {ps : List FieldType} {yr : Option FieldType} {w : Value} (argsL : List Value)
    (w1 : (Jvm.Cond.methodLink own idx y).before a0 Z = true) (w2 : (Jvm.Cond.static y).before a0 Z = true) (w3 : (Jvm.Cond.initialized y.cls).before a0 Z = true) (w4 : (Jvm.Cond.code y ycode ymx yret).before a0 Z = true) (hy : y.cls ≠ "java/lang/invoke/MethodHandle" ∧ y.cls ≠ "java/lang/invoke/VarHandle")
    (hM : own_Met K.2.1 Z n0 y ycode ymx yret yrm argsL.toArray h (fun v h' => v = some w ∧ h' = h)) (hL : L.size = mx) (hd : decode code pc = .ok (.invokestatic idx, 3)) (hp : pc + 3 = pc') (hpd : parseMethodDescriptor y.desc = some ⟨ps, yr⟩) (hlen : argsL.length = ps.length) (hS : S = argsL.reverse ++ rest)
    (W : Nat) (hW : (rest.map fun v => v.category).sum ≤ W) (hf : yrm.frames + 1 ≤ rm.frames) (hl : W + (ymx + 11) + yrm.locals ≤ rm.locals) (hc0 : yrm.cells = 0) (hs0 : yrm.slots = 0)
    (hr : ∀ T', own_Sx n0 K T' h cl sl → own_Fin n0 K P T' pc' L (w :: rest)) : own_Fin n0 K P T pc L S := by
  have hcs : cl ≤ rm.cells ∧ sl ≤ rm.slots := by
    obtain ⟨p, l, e, R, s, m, args, below, meth, c⟩ := K
    obtain ⟨hx, hby, hml, hown, hret, hlk, hZ, rfl, hw⟩ := M
    obtain ⟨locs, X, hN, eT, hn, hcl, hsl⟩ := X
    exact ⟨hcl, hsl⟩
  refine own_callS M X argsL w1 w2 w3 w4 hy hM hL hd hp hpd hlen hS W hW hf hl (by rw [hc0]; exact hcs.1) (by rw [hs0]; exact hcs.2) ?_
  rintro T' h' v X' ⟨rfl, rfl⟩
  rw [hc0, hs0] at X'
  exact hr T' X'
theorem own_callP0 (M : own_Mx Z a0 K code own mx ret rm) (X : own_Sx n0 K T h cl sl) {y : MethodName} {ycode : ByteArray} {ymx : Nat} {yret : Option FieldType} {yrm : Room} {idx : Nat} {ps : List FieldType} {yr : Option FieldType} (argsL : List Value)
    (w1 : (Jvm.Cond.methodLink own idx y).before a0 Z = true) (w2 : (Jvm.Cond.static y).before a0 Z = true) (w3 : (Jvm.Cond.initialized y.cls).before a0 Z = true) (w4 : (Jvm.Cond.code y ycode ymx yret).before a0 Z = true) (hy : y.cls ≠ "java/lang/invoke/MethodHandle" ∧ y.cls ≠ "java/lang/invoke/VarHandle")
    (hM : own_Met K.2.1 Z n0 y ycode ymx yret yrm argsL.toArray h (fun v h' => v = none ∧ h' = h)) (hL : L.size = mx) (hd : decode code pc = .ok (.invokestatic idx, 3)) (hp : pc + 3 = pc') (hpd : parseMethodDescriptor y.desc = some ⟨ps, yr⟩) (hlen : argsL.length = ps.length) (hS : S = argsL.reverse ++ rest)
    (W : Nat) (hW : (rest.map fun v => v.category).sum ≤ W) (hf : yrm.frames + 1 ≤ rm.frames) (hl : W + (ymx + 11) + yrm.locals ≤ rm.locals) (hc0 : yrm.cells = 0) (hs0 : yrm.slots = 0)
    (hr : ∀ T', own_Sx n0 K T' h cl sl → own_Fin n0 K P T' pc' L (rest)) : own_Fin n0 K P T pc L S := by
  have hcs : cl ≤ rm.cells ∧ sl ≤ rm.slots := by
    obtain ⟨p, l, e, R, s, m, args, below, meth, c⟩ := K
    obtain ⟨hx, hby, hml, hown, hret, hlk, hZ, rfl, hw⟩ := M
    obtain ⟨locs, X, hN, eT, hn, hcl, hsl⟩ := X
    exact ⟨hcl, hsl⟩
  refine own_callS M X argsL w1 w2 w3 w4 hy hM hL hd hp hpd hlen hS W hW hf hl (by rw [hc0]; exact hcs.1) (by rw [hs0]; exact hcs.2) ?_
  rintro T' h' v X' ⟨rfl, rfl⟩
  rw [hc0, hs0] at X'
  exact hr T' X'
/-! arrays: n places, place j holds f j -/
def own_Va (Z : State) (h : Heap) (a : Addr) (ty : FieldType) (n : Nat) (f : Nat → Value) : Prop :=
  ∃ c : Cell, Arr Z h a c ty ∧ c.slots.size = n ∧ n < 2 ^ 31 ∧ (∀ j, j < n → c.slots[j]? = some (f j)) ∧ ∀ j, j < n → fits ty (f j) = true
def own_upd (f : Nat → Value) (i : Nat) (v : Value) : Nat → Value := fun j => if j = i then v else f j
theorem own_Va.lt {a : Addr} {ty : FieldType} {n : Nat} {f : Nat → Value} (V : own_Va Z h a ty n f) : a < h.size := by obtain ⟨c, A, -⟩ := V; exact A.lt
theorem own_Va.small {a : Addr} {ty : FieldType} {n : Nat} {f : Nat → Value} (V : own_Va Z h a ty n f) : n < 2 ^ 31 := by obtain ⟨c, A, -, q, -⟩ := V; exact q
theorem own_Va.ext {h' : Heap} {a : Addr} {ty : FieldType} {n : Nat} {f : Nat → Value} (V : own_Va Z h a ty n f) (E : Ext h h') : own_Va Z h' a ty n f := by obtain ⟨c, A, r⟩ := V; exact ⟨c, A.ext E, r⟩
theorem own_Va.keep {h' : Heap} {ws : List Addr} {a : Addr} {ty : FieldType} {n : Nat} {f : Nat → Value} (V : own_Va Z h a ty n f) (K : Keep h h' ws) (q : a ∉ ws) : own_Va Z h' a ty n f := by obtain ⟨c, A, r⟩ := V; exact ⟨c, ⟨K.2.1 a c A.1 q, A.2⟩, r⟩
theorem own_Va.congr {a : Addr} {ty : FieldType} {n : Nat} {f g : Nat → Value} (V : own_Va Z h a ty n f) (q : ∀ j, j < n → f j = g j) : own_Va Z h a ty n g := by
  obtain ⟨c, A, r1, r2, r3, r4⟩ := V
  exact ⟨c, A, r1, r2, fun j hj => by rw [← q j hj]; exact r3 j hj, fun j hj => by rw [← q j hj]; exact r4 j hj⟩
theorem own_Va.wr {h' : Heap} {a : Addr} {ty : FieldType} {n i : Nat} {f : Nat → Value} {v : Value} (V : own_Va Z h a ty n f) (W : Wr h h' a i v) (hf : fits ty v = true) : own_Va Z h' a ty n (own_upd f i v) := by
  obtain ⟨c, A, r1, r2, r3, r4⟩ := V
  refine ⟨c.setSlot i v, A.same W, by rw [sz_set]; exact r1, r2, fun j hj => ?_, fun j hj => ?_⟩
  · have hj' : j < c.slots.size := by omega
    by_cases q : j = i
    · subst q; simp [Cell.setSlot, own_upd, hj']
    · have q' : ¬ i = j := fun z => q z.symm
      simp only [Cell.setSlot, own_upd, if_neg q, Array.getElem?_setIfInBounds, if_neg q']
      exact r3 j hj
  · by_cases q : j = i
    · simp only [own_upd, if_pos q]; exact hf
    · simp only [own_upd, if_neg q]; exact r4 j hj
theorem own_upd_eq {f : Nat → Value} {i : Nat} {v : Value} : own_upd f i v i = v := if_pos rfl
theorem own_upd_ne {f : Nat → Value} {i j : Nat} {v : Value} (q : j ≠ i) : own_upd f i v j = f j := if_neg q
/-- an array of ints (bytes) by the list of its values; of longs -/
def own_lsi (ws : List Int32) : Nat → Value := fun j => .int (ws.getD j 0)
def own_lsj (ws : List Int64) : Nat → Value := fun j => .long (ws.getD j 0)
theorem own_zeroi {ty : FieldType} (ws : List Int32) (n : Nat) (hw : ws = List.replicate n 0) (hd : defaultValue ty = .int 0 := by rfl) : ∀ j, j < n → (fun _ : Nat => defaultValue ty) j = own_lsi ws j := fun j hj => by
  show defaultValue ty = .int (ws.getD j 0)
  rw [hw, hd]; simp [List.getD, hj]
theorem own_zeroj {ty : FieldType} (ws : List Int64) (n : Nat) (hw : ws = List.replicate n 0) (hd : defaultValue ty = .long 0 := by rfl) : ∀ j, j < n → (fun _ : Nat => defaultValue ty) j = own_lsj ws j := fun j hj => by
  show defaultValue ty = .long (ws.getD j 0)
  rw [hw, hd]; simp [List.getD, hj]
theorem own_seti {ws ws' : List Int32} {i n : Nat} {v : Int32} (hs : ws.set i v = ws') (hi : i < ws.length) : ∀ j, j < n → own_upd (own_lsi ws) i (.int v) j = own_lsi ws' j := fun j hj => by
  subst hs
  by_cases q : j = i
  · subst q; simp [own_upd, own_lsi, List.getD, hi]
  · have q' : ¬ i = j := fun z => q z.symm
    simp [own_upd, own_lsi, List.getD, q, q']
theorem own_setj {ws ws' : List Int64} {i n : Nat} {v : Int64} (hs : ws.set i v = ws') (hi : i < ws.length) : ∀ j, j < n → own_upd (own_lsj ws) i (.long v) j = own_lsj ws' j := fun j hj => by
  subst hs
  by_cases q : j = i
  · subst q; simp [own_upd, own_lsj, List.getD, hi]
  · have q' : ¬ i = j := fun z => q z.symm
    simp [own_upd, own_lsj, List.getD, q, q']
theorem own_nat {j : Int32} {i : Nat} (hi : j.toInt = i) : j.toNatClampNeg = i := by simp [Int32.toNatClampNeg, hi]
theorem own_inb {c : Cell} {n i : Nat} {j : Int32} (hs : c.slots.size = n) (hi : j.toInt = i) (hin : i < n) : ¬ (j < 0 ∨ c.slots.size ≤ j.toNatClampNeg) := by
  rw [own_nat hi, hs, Int32.lt_iff_toInt_lt, hi, Int32.toInt_zero]; omega
theorem own_baload (M : own_Mx Z a0 K code own mx ret rm) (X : own_Sx n0 K T h cl sl) {a : Addr} {n i : Nat} {f : Nat → Value} {j : Int32} {v : Value} (V : own_Va Z h a .byte n f) (hi : j.toInt = i) (hin : i < n) (hv : f i = v) (hd : decode code pc = .ok (.baload, 1)) (hp : pc + 1 = pc') (hr : own_Fin n0 K P T pc' L (v :: S)) : own_Fin n0 K P T pc L (.int j :: .ref a :: S) := by
  obtain ⟨p, l, e, R, s, m, args, below, meth, c⟩ := K
  obtain ⟨hx, hby, hml, hown, hret, hlk, hZ, rfl, hw⟩ := M
  obtain ⟨locs, X, hN, eT, hn, hcl, hsl⟩ := X
  obtain ⟨s2, o2, st, r⟩ := hr
  obtain ⟨cc, A, hs, hlt, hg, -⟩ := V
  subst hp hv
  exact ⟨s2, o2, X.baloadBytes hx (j := j) (v := f i) (by rw [eT]; exact A.1) (State.isArrayOf_alike hZ.alike A.2.1) A.2.2 (own_inb hs hi hin) (by rw [own_nat hi]; exact hg i hin) (g := mkF m pc L (.int j :: .ref a :: S)) rfl rfl (hb hby hd) _ st, r⟩
theorem own_iaload (M : own_Mx Z a0 K code own mx ret rm) (X : own_Sx n0 K T h cl sl) {a : Addr} {n i : Nat} {f : Nat → Value} {j : Int32} {v : Value} (V : own_Va Z h a .int n f) (hi : j.toInt = i) (hin : i < n) (hv : f i = v) (hd : decode code pc = .ok (.iaload, 1)) (hp : pc + 1 = pc') (hr : own_Fin n0 K P T pc' L (v :: S)) : own_Fin n0 K P T pc L (.int j :: .ref a :: S) := by
  obtain ⟨p, l, e, R, s, m, args, below, meth, c⟩ := K
  obtain ⟨hx, hby, hml, hown, hret, hlk, hZ, rfl, hw⟩ := M
  obtain ⟨locs, X, hN, eT, hn, hcl, hsl⟩ := X
  obtain ⟨s2, o2, st, r⟩ := hr
  obtain ⟨cc, A, hs, hlt, hg, -⟩ := V
  subst hp hv
  exact ⟨s2, o2, X.iaload hx (j := j) (v := f i) (by rw [eT]; exact A.1) (State.isArrayOf_alike hZ.alike A.2.1) A.2.2 (own_inb hs hi hin) (by rw [own_nat hi]; exact hg i hin) (g := mkF m pc L (.int j :: .ref a :: S)) rfl rfl (hb hby hd) _ st, r⟩
theorem own_laload (M : own_Mx Z a0 K code own mx ret rm) (X : own_Sx n0 K T h cl sl) {a : Addr} {n i : Nat} {f : Nat → Value} {j : Int32} {v : Value} (V : own_Va Z h a .long n f) (hi : j.toInt = i) (hin : i < n) (hv : f i = v) (hd : decode code pc = .ok (.laload, 1)) (hp : pc + 1 = pc') (hr : own_Fin n0 K P T pc' L (v :: S)) : own_Fin n0 K P T pc L (.int j :: .ref a :: S) := by
  obtain ⟨p, l, e, R, s, m, args, below, meth, c⟩ := K
  obtain ⟨hx, hby, hml, hown, hret, hlk, hZ, rfl, hw⟩ := M
  obtain ⟨locs, X, hN, eT, hn, hcl, hsl⟩ := X
  obtain ⟨s2, o2, st, r⟩ := hr
  obtain ⟨cc, A, hs, hlt, hg, -⟩ := V
  subst hp hv
  exact ⟨s2, o2, X.laload hx (j := j) (v := f i) (by rw [eT]; exact A.1) (State.isArrayOf_alike hZ.alike A.2.1) A.2.2 (own_inb hs hi hin) (by rw [own_nat hi]; exact hg i hin) (g := mkF m pc L (.int j :: .ref a :: S)) rfl rfl (hb hby hd) _ st, r⟩
theorem own_bastore (M : own_Mx Z a0 K code own mx ret rm) (X : own_Sx n0 K T h cl sl) {a : Addr} {n i : Nat} {f : Nat → Value} {j : Int32} {x : Int32} (V : own_Va Z h a .byte n f) (hga : n0 ≤ a) (hi : j.toInt = i) (hin : i < n) (hd : decode code pc = .ok (.bastore, 1)) (hp : pc + 1 = pc') (hr : ∀ T' h', own_Sx n0 K T' h' cl sl → Keep h h' [a] → own_Va Z h' a .byte n (own_upd f i (.int x.toInt8.toInt32)) → own_Fin n0 K P T' pc' L S) : own_Fin n0 K P T pc L (.int x :: .int j :: .ref a :: S) := by
  obtain ⟨p, l, e, R, s, m, args, below, meth, c⟩ := K
  obtain ⟨hx, hby, hml, hown, hret, hlk, hZ, rfl, hw⟩ := M
  obtain ⟨locs, X, hN, eT, hn, hcl, hsl⟩ := X
  have V0 := V
  obtain ⟨cc, A, hs, hlt, hg, -⟩ := V
  obtain ⟨T1, h1, X1, e1, W1, st⟩ := stB X hx hZ eT A (j := j) (own_inb hs hi hin) (g := mkF m pc L (.int x :: .int j :: .ref a :: S)) rfl rfl (hb hby hd)
  rw [own_nat hi] at W1 X1
  subst hp
  obtain ⟨s2, o2, st2, r⟩ := hr T1 h1 ⟨_, X1, Fr.snoc X1 hN hga, e1, hn, hcl, hsl⟩ (Keep.of_wr W1) (V0.wr W1 (fits_nar_byte x))
  exact ⟨s2, o2, st _ st2, r⟩
theorem own_iastore (M : own_Mx Z a0 K code own mx ret rm) (X : own_Sx n0 K T h cl sl) {a : Addr} {n i : Nat} {f : Nat → Value} {j : Int32} {x : Int32} (V : own_Va Z h a .int n f) (hga : n0 ≤ a) (hi : j.toInt = i) (hin : i < n) (hd : decode code pc = .ok (.iastore, 1)) (hp : pc + 1 = pc') (hr : ∀ T' h', own_Sx n0 K T' h' cl sl → Keep h h' [a] → own_Va Z h' a .int n (own_upd f i (.int x)) → own_Fin n0 K P T' pc' L S) : own_Fin n0 K P T pc L (.int x :: .int j :: .ref a :: S) := by
  obtain ⟨p, l, e, R, s, m, args, below, meth, c⟩ := K
  obtain ⟨hx, hby, hml, hown, hret, hlk, hZ, rfl, hw⟩ := M
  obtain ⟨locs, X, hN, eT, hn, hcl, hsl⟩ := X
  have V0 := V
  obtain ⟨cc, A, hs, hlt, hg, -⟩ := V
  obtain ⟨T1, h1, X1, e1, W1, st⟩ := stI X hx hZ eT A (j := j) (own_inb hs hi hin) (g := mkF m pc L (.int x :: .int j :: .ref a :: S)) rfl rfl (hb hby hd)
  rw [own_nat hi] at W1 X1
  subst hp
  obtain ⟨s2, o2, st2, r⟩ := hr T1 h1 ⟨_, X1, Fr.snoc X1 hN hga, e1, hn, hcl, hsl⟩ (Keep.of_wr W1) (V0.wr W1 rfl)
  exact ⟨s2, o2, st _ st2, r⟩
theorem own_lastore (M : own_Mx Z a0 K code own mx ret rm) (X : own_Sx n0 K T h cl sl) {a : Addr} {n i : Nat} {f : Nat → Value} {j : Int32} {x : Int64} (V : own_Va Z h a .long n f) (hga : n0 ≤ a) (hi : j.toInt = i) (hin : i < n) (hd : decode code pc = .ok (.lastore, 1)) (hp : pc + 1 = pc') (hr : ∀ T' h', own_Sx n0 K T' h' cl sl → Keep h h' [a] → own_Va Z h' a .long n (own_upd f i (.long x)) → own_Fin n0 K P T' pc' L S) : own_Fin n0 K P T pc L (.long x :: .int j :: .ref a :: S) := by
  obtain ⟨p, l, e, R, s, m, args, below, meth, c⟩ := K
  obtain ⟨hx, hby, hml, hown, hret, hlk, hZ, rfl, hw⟩ := M
  obtain ⟨locs, X, hN, eT, hn, hcl, hsl⟩ := X
  have V0 := V
  obtain ⟨cc, A, hs, hlt, hg, -⟩ := V
  obtain ⟨T1, h1, X1, e1, W1, st⟩ := stJ X hx hZ eT A (j := j) (own_inb hs hi hin) (g := mkF m pc L (.long x :: .int j :: .ref a :: S)) rfl rfl (hb hby hd)
  rw [own_nat hi] at W1 X1
  subst hp
  obtain ⟨s2, o2, st2, r⟩ := hr T1 h1 ⟨_, X1, Fr.snoc X1 hN hga, e1, hn, hcl, hsl⟩ (Keep.of_wr W1) (V0.wr W1 rfl)
  exact ⟨s2, o2, st _ st2, r⟩
theorem own_arraylength (M : own_Mx Z a0 K code own mx ret rm) (X : own_Sx n0 K T h cl sl) {a : Addr} {ty : FieldType} {n : Nat} {f : Nat → Value} {z : Int32} (V : own_Va Z h a ty n f) (hz : z.toInt = n) (hd : decode code pc = .ok (.arraylength, 1)) (hp : pc + 1 = pc') (hr : own_Fin n0 K P T pc' L (.int z :: S)) : own_Fin n0 K P T pc L (.ref a :: S) := by
  obtain ⟨p, l, e, R, s, m, args, below, meth, c⟩ := K
  obtain ⟨hx, hby, hml, hown, hret, hlk, hZ, rfl, hw⟩ := M
  obtain ⟨locs, X, hN, eT, hn, hcl, hsl⟩ := X
  obtain ⟨s2, o2, st, r⟩ := hr
  obtain ⟨cc, A, hs, hlt, hg, -⟩ := V
  subst hp
  have e : cc.slots.size.toInt32 = z := by rw [hs]; exact Int32.toInt_inj.mp (by rw [len_toInt hlt, hz])
  exact ⟨s2, o2, X.arraylength hx (by rw [eT]; exact A.1) (State.isArrayOf_alike hZ.alike A.2.1) (g := mkF m pc L (.ref a :: S)) rfl rfl (hb hby hd) _ (by rw [e]; exact st), r⟩
theorem own_newarray (M : own_Mx Z a0 K code own mx ret rm) (X : own_Sx n0 K T h cl sl) {aty : ArrayType} {nn : Int32} {n : Nat} (cap : Nat) (w : (Jvm.Cond.arrayClass (newarray.typeOf aty)).before a0 Z = true) (hd : decode code pc = .ok (.newarray aty, 2)) (hp : pc + 2 = pc') (hnn : nn.toInt = n) (hcap : n ≤ cap) (hb8 : cap * 8 ≤ 536870912) (hc : cl + 1 ≤ rm.cells) (hs : sl + cap ≤ rm.slots)
    (hr : ∀ T' h' a, n0 ≤ a → h.size ≤ a → own_Sx n0 K T' h' (cl + 1) (sl + cap) → Ext h h' → own_Va Z h' a (newarray.typeOf aty) n (fun _ => defaultValue (newarray.typeOf aty)) → own_Fin n0 K P T' pc' L (.ref a :: S)) : own_Fin n0 K P T pc L (.int nn :: S) := by
  have hsz := X.size
  obtain ⟨p, l, e, R, s, m, args, below, meth, c⟩ := K
  obtain ⟨hx, hby, hml, hown, hret, hlk, hZ, rfl, hw⟩ := M
  obtain ⟨locs, X, hN, eT, hn, hcl, hsl⟩ := X
  obtain ⟨T1, h1, cA, X1, e1, E1, A1, st⟩ := newP X hx hZ w eT (g := mkF m pc L (.int nn :: S)) rfl (hb hby hd) rfl (by rw [Int32.lt_iff_toInt_lt, hnn, Int32.toInt_zero]; omega) (cap := cap) (by rw [own_nat hnn]; exact hcap) hb8 hc hs
  subst hp
  obtain ⟨s2, o2, st2, r⟩ := hr T1 h1 h.size hsz (Nat.le_refl _) ⟨_, X1, hN, e1, hn, hc, hs⟩ E1 ⟨_, A1, by rw [sz_new, own_nat hnn], by omega, fun j hj => by simp [newA, own_nat hnn, hj], fun j hj => by cases aty <;> rfl⟩
  exact ⟨s2, o2, st _ st2, r⟩
theorem own_new (M : own_Mx Z a0 K code own mx ret rm) (X : own_Sx n0 K T h cl sl) {C : String} {idx k : Nat} (w : (Jvm.Cond.classLink own idx C).before a0 Z = true) (wi : (Jvm.Cond.instantiable C k).before a0 Z = true) (wz : (Jvm.Cond.initialized C).before a0 Z = true) (hd : decode code pc = .ok (.new idx, 3)) (hp : pc + 3 = pc') (hc : cl + 1 ≤ rm.cells) (hs : sl + k ≤ rm.slots)
    (hr : ∀ T' h' a, n0 ≤ a → h.size ≤ a → own_Sx n0 K T' h' (cl + 1) (sl + k) → Ext h h' → Exa Z h' a C → (∀ {O nm d : String} {ty : FieldType}, Laid Z a0 C O nm d → parseFieldDescriptor d = some ty → Fld Z h' a O nm d (defaultValue ty)) → own_Fin n0 K P T' pc' L (.ref a :: S)) : own_Fin n0 K P T pc L S := by
  have hsz := X.size
  obtain ⟨p, l, e, R, s, m, args, below, meth, c⟩ := K
  obtain ⟨hx, hby, hml, hown, hret, hlk, hZ, rfl, hw⟩ := M
  obtain ⟨locs, X, hN, eT, hn, hcl, hsl⟩ := X
  obtain ⟨T1, h1, X1, e1, E1, A1, D1, -, st⟩ := newO X hx hZ hown w wi wz eT (g := mkF m pc L S) rfl (hb hby hd) hc hs
  subst hp
  obtain ⟨s2, o2, st2, r⟩ := hr T1 h1 h.size hsz (Nat.le_refl _) ⟨_, X1, hN, e1, hn, hc, hs⟩ E1 A1 D1
  exact ⟨s2, o2, st _ st2, r⟩
theorem own_getfield (M : own_Mx Z a0 K code own mx ret rm) (X : own_Sx n0 K T h cl sl) {O nm d : String} {idx : Nat} {a : Addr} {v : Value} (w : (Jvm.Cond.fieldLink own idx O nm d).before a0 Z = true) (F : Fld Z h a O nm d v) (hd : decode code pc = .ok (.getfield idx, 3)) (hp : pc + 3 = pc') (hr : ∀ T', own_Sx n0 K T' h cl sl → own_Fin n0 K P T' pc' L (v :: S)) : own_Fin n0 K P T pc L (.ref a :: S) := by
  obtain ⟨p, l, e, R, s, m, args, below, meth, c⟩ := K
  obtain ⟨hx, hby, hml, hown, hret, hlk, hZ, rfl, hw⟩ := M
  obtain ⟨locs, X, hN, eT, hn, hcl, hsl⟩ := X
  obtain ⟨T1, X1, e1, st⟩ := getF X hx hZ hown (host := "") (Or.inl w) Via.refl eT F (g := mkF m pc L (.ref a :: S)) rfl rfl (hb hby hd)
  subst hp
  obtain ⟨s2, o2, st2, r⟩ := hr T1 ⟨_, X1, hN, e1, hn, hcl, hsl⟩
  exact ⟨s2, o2, st _ st2, r⟩
theorem own_putfield (M : own_Mx Z a0 K code own mx ret rm) (X : own_Sx n0 K T h cl sl) {O nm d C : String} {idx k : Nat} {a : Addr} {v old : Value} {ty : FieldType} (w : (Jvm.Cond.fieldLink own idx O nm d).before a0 Z = true) (F : Fld Z h a O nm d old) (E : Exa Z h a C) (hL : (Jvm.Cond.lays C O nm d).before a0 Z = true ∨ ((Jvm.Cond.laysFinal C O nm d).before a0 Z = true ∧ own = O ∧ K.2.2.2.2.2.2.2.2.1.name = "<init>")) (wi : (Jvm.Cond.instantiable C k).before a0 Z = true) (hty : parseFieldDescriptor d = some ty) (hnv : narrow ty v = v) (hf : fits ty v = true) (hga : n0 ≤ a) (hd : decode code pc = .ok (.putfield idx, 3)) (hp : pc + 3 = pc')
    (hr : ∀ T' h', own_Sx n0 K T' h' cl sl → Wr h h' a (Jvm.RoadKit.slotOf Z O nm d) v → own_Fin n0 K P T' pc' L S) : own_Fin n0 K P T pc L (v :: .ref a :: S) := by
  obtain ⟨p, l, e, R, s, m, args, below, meth, c⟩ := K
  obtain ⟨hx, hby, hml, hown, hret, hlk, hZ, rfl, hw⟩ := M
  obtain ⟨locs, X, hN, eT, hn, hcl, hsl⟩ := X
  obtain ⟨T1, h1, X1, e1, W1, st⟩ := putF X hx hZ hown (host := "") (Or.inl w) Via.refl eT F E hL wi hty hnv hf (g := mkF m pc L (v :: .ref a :: S)) rfl rfl (hb hby hd)
  subst hp
  obtain ⟨s2, o2, st2, r⟩ := hr T1 h1 ⟨_, X1, Fr.snoc X1 hN hga, e1, hn, hcl, hsl⟩ W1
  exact ⟨s2, o2, st _ st2, r⟩
theorem own_initO (M : own_Mx Z a0 K code own mx ret rm) (X : own_Sx n0 K T h cl sl) {idx : Nat} {a : Addr} (w1 : (Jvm.Cond.methodLink own idx Lib.objectInit).before a0 Z = true) (w2 : (Jvm.Cond.instanceMethod Lib.objectInit).before a0 Z = true) (w3 : (Jvm.Cond.code Lib.objectInit ⟨#[0xb1]⟩ 1 none).before a0 Z = true) (hL : L.size = mx) (hd : decode code pc = .ok (.invokespecial idx, 3)) (hp : pc + 3 = pc') (hf : 1 ≤ rm.frames) (W : Nat) (hW : (S.map fun v => v.category).sum ≤ W) (hl : W + 12 ≤ rm.locals) (hr : ∀ T', own_Sx n0 K T' h cl sl → own_Fin n0 K P T' pc' L S) : own_Fin n0 K P T pc L (.ref a :: S) := by
  obtain ⟨p, l, e, R, s, m, args, below, meth, c⟩ := K
  obtain ⟨hx, hby, hml, hown, hret, hlk, hZ, rfl, hw⟩ := M
  obtain ⟨locs, X, hN, eT, hn, hcl, hsl⟩ := X
  obtain ⟨T1, X1, e1, st⟩ := initO X hx hZ hown w1 w2 w3 eT (g := mkF m pc L (.ref a :: S)) rfl (by rw [hml]; exact hL) rfl (hb hby hd) hf (W := W) (by show 2 * 0 + _ ≤ W; omega) hl
  subst hp
  obtain ⟨s2, o2, st2, r⟩ := hr T1 ⟨_, X1, hN, e1, hn, hcl, hsl⟩
  exact ⟨s2, o2, st _ st2, r⟩
theorem own_callN (M : own_Mx Z a0 K code own mx ret rm) (X : own_Sx n0 K T h cl sl) {y : MethodName} {ycode : ByteArray} {ymx : Nat} {yret : Option FieldType} {yrm : Room} {idx : Nat} {Q : Option Value → Heap → Prop} {ps : List FieldType} {yr : Option FieldType} {a : Addr} (argsL : List Value)
    (w1 : (Jvm.Cond.methodLink own idx y).before a0 Z = true) (w2 : (Jvm.Cond.instanceMethod y).before a0 Z = true) (w3 : (Jvm.Cond.initialized y.cls).before a0 Z = true) (w4 : (Jvm.Cond.code y ycode ymx yret).before a0 Z = true) (hy : y.cls ≠ "java/lang/invoke/MethodHandle" ∧ y.cls ≠ "java/lang/invoke/VarHandle") (hnm : y.name = "<init>") (hnr : yret = none)
    (hM : own_Met K.2.1 Z n0 y ycode ymx yret yrm (.ref a :: argsL).toArray h Q) (hL : L.size = mx) (hd : decode code pc = .ok (.invokespecial idx, 3)) (hp : pc + 3 = pc') (hpd : parseMethodDescriptor y.desc = some ⟨ps, yr⟩) (hlen : argsL.length = ps.length) (hS : S = argsL.reverse ++ .ref a :: rest)
    (W : Nat) (hW : (rest.map fun v => v.category).sum ≤ W) (hf : yrm.frames + 1 ≤ rm.frames) (hl : W + (ymx + 11) + yrm.locals ≤ rm.locals) (hc : cl + yrm.cells ≤ rm.cells) (hs : sl + yrm.slots ≤ rm.slots)
    (hr : ∀ T' h' v, own_Sx n0 K T' h' (cl + yrm.cells) (sl + yrm.slots) → Q v h' → own_Fin n0 K P T' pc' L (v.toList ++ rest)) : own_Fin n0 K P T pc L S := by
  obtain ⟨p, l, e, R, s, m, args, below, meth, c⟩ := K
  obtain ⟨hx, hby, hml, hown, hret, hlk, hZ, rfl, hw⟩ := M
  obtain ⟨locs, X, hN, eT, hn, hcl, hsl⟩ := X
  subst hnr
  obtain ⟨v, vm1, ⟨T1, L1, k1, n1⟩, -, X1, ⟨Lc, hQ, l1, y1, z1⟩, st⟩ := X.specialBack hx (y := y) hnm hown (mvT hZ w1) (mvT hZ w2) (mvT hZ w4) hy (backOf (W := W) (Q := fun v h L => Q v h ∧ Fr n0 L) (hM []) hZ w4 w3 hf hl) (g := mkF m pc L S) rfl (by rw [hml]; exact hL) (Steps.refl _) (a := a) (argsL := argsL) (rest := rest) (lenOf hpd hlen) hS (by show 2 * 0 + _ ≤ W; omega) (hb hby hd) (fun _ _ => ⟨rfl, eT, hc, hs⟩)
  dsimp only [Pt.U, Pt.locs, Pt.cells, Pt.slots] at X1 l1 y1 z1 st hQ
  subst l1 y1 z1 hp
  obtain ⟨s2, o2, st2, r⟩ := hr T1 _ v ⟨_, X1, Fr.app hN hQ.2, rfl, hn, hc, hs⟩ hQ.1
  exact ⟨s2, o2, st.trans st2, r⟩
theorem own_callV (M : own_Mx Z a0 K code own mx ret rm) (X : own_Sx n0 K T h cl sl) {y : MethodName} {ycode : ByteArray} {ymx : Nat} {yret : Option FieldType} {yrm : Room} {idx : Nat} {Q : Option Value → Heap → Prop} {ps : List FieldType} {yr : Option FieldType} {a : Addr} (argsL : List Value)
    (w1 : (Jvm.Cond.methodLink own idx y).before a0 Z = true) (w2 : (Jvm.Cond.instanceMethod y).before a0 Z = true) (w5 : (Jvm.Cond.declares y).before a0 Z = true) (w6 : (Jvm.Cond.selects y.cls y y).before a0 Z = true) (w3 : (Jvm.Cond.initialized y.cls).before a0 Z = true) (w4 : (Jvm.Cond.code y ycode ymx yret).before a0 Z = true) (hy : y.cls ≠ "java/lang/invoke/MethodHandle" ∧ y.cls ≠ "java/lang/invoke/VarHandle") (E : Exa Z h a y.cls)
    (hM : own_Met K.2.1 Z n0 y ycode ymx yret yrm (.ref a :: argsL).toArray h Q) (hL : L.size = mx) (hd : decode code pc = .ok (.invokevirtual idx, 3)) (hp : pc + 3 = pc') (hpd : parseMethodDescriptor y.desc = some ⟨ps, yr⟩) (hlen : argsL.length = ps.length) (hS : S = argsL.reverse ++ .ref a :: rest)
    (W : Nat) (hW : (rest.map fun v => v.category).sum ≤ W) (hf : yrm.frames + 1 ≤ rm.frames) (hl : W + (ymx + 11) + yrm.locals ≤ rm.locals) (hc : cl + yrm.cells ≤ rm.cells) (hs : sl + yrm.slots ≤ rm.slots)
    (hr : ∀ T' h' v, own_Sx n0 K T' h' (cl + yrm.cells) (sl + yrm.slots) → Q v h' → own_Fin n0 K P T' pc' L (v.toList ++ rest)) : own_Fin n0 K P T pc L S := by
  obtain ⟨p, l, e, R, s, m, args, below, meth, c⟩ := K
  obtain ⟨hx, hby, hml, hown, hret, hlk, hZ, rfl, hw⟩ := M
  obtain ⟨locs, X, hN, eT, hn, hcl, hsl⟩ := X
  obtain ⟨cq, kq, qa, qb, qc⟩ := isOf hZ eT E
  obtain ⟨v, vm1, ⟨T1, L1, k1, n1⟩, -, X1, ⟨Lc, hQ, l1, y1, z1⟩, st⟩ := X.virtualBack hx (y := y) (z := y) hown (mvT hZ w1) (mvT hZ w5) (notFace_of_selects (args := #[]) (mvT hZ w6)) (mvT hZ w6) (mvT hZ w2) hy (backOf (W := W) (Q := fun v h L => Q v h ∧ Fr n0 L) (hM []) hZ w4 w3 hf hl) qa qc (g := mkF m pc L S) rfl (by rw [hml]; exact hL) (Steps.refl _) (argsL := argsL) (rest := rest) (lenOf hpd hlen) hS (by show 2 * 0 + _ ≤ W; omega) (hb hby hd) (fun _ _ => ⟨rfl, eT, hc, hs⟩)
  dsimp only [Pt.U, Pt.locs, Pt.cells, Pt.slots] at X1 l1 y1 z1 st hQ
  subst l1 y1 z1 hp
  obtain ⟨s2, o2, st2, r⟩ := hr T1 _ v ⟨_, X1, Fr.app hN hQ.2, rfl, hn, hc, hs⟩ hQ.1
  exact ⟨s2, o2, st.trans st2, r⟩
theorem own_selPriv {s : State} {args : Array Value} {n : Nat} {y : MethodName} (hins : (Jvm.Cond.instantiable y.cls n).before args s = true) (hpriv : (Jvm.Cond.privateMethod y).before args s = true) (hinst : (Jvm.Cond.instanceMethod y).before args s = true) (hy : y.cls ≠ "java/lang/invoke/MethodHandle" ∧ y.cls ≠ "java/lang/invoke/VarHandle") : (Jvm.Cond.selects y.cls y y).before args s = true := by
  obtain ⟨c, k, hc, hk, -, hniab, -, -⟩ := Cond.instantiable_spec hins
  have hni : k.isInterface = false := (Bool.or_eq_false_iff.mp hniab).1
  obtain ⟨mk, methM, hnamed, hmethM, -, -⟩ := Cond.instanceMethod_spec hinst
  have hfound : s.methodFound? y.cls y.name y.desc = some mk := State.methodFound?_of_named hnamed hy
  have hcls : mk.cls = c := Option.some.inj ((findClass_of_methodNamed hnamed).symm.trans hc)
  have hsel : selectMethod {} s.vm c mk = .method mk := selectMethod_private hmethM (Cond.privateMethod_at hpriv mk methM hnamed hmethM)
  simp only [Cond.before, Cond.holds, Cond.value, hc, hfound, hnamed, hsel, hcls, hk]
  simp; exact hni
theorem own_callPriv (M : own_Mx Z a0 K code own mx ret rm) (X : own_Sx n0 K T h cl sl) {y : MethodName} {ycode : ByteArray} {ymx : Nat} {yret : Option FieldType} {yrm : Room} {idx : Nat} {Q : Option Value → Heap → Prop} {ps : List FieldType} {yr : Option FieldType} {a : Addr} (argsL : List Value)
    (w1 : (Jvm.Cond.methodLink own idx y).before a0 Z = true) (w2 : (Jvm.Cond.instanceMethod y).before a0 Z = true) (w5 : (Jvm.Cond.privateMethod y).before a0 Z = true) {kk : Nat} (w6 : (Jvm.Cond.instantiable y.cls kk).before a0 Z = true) (w3 : (Jvm.Cond.initialized y.cls).before a0 Z = true) (w4 : (Jvm.Cond.code y ycode ymx yret).before a0 Z = true) (hy : y.cls ≠ "java/lang/invoke/MethodHandle" ∧ y.cls ≠ "java/lang/invoke/VarHandle") (E : Exa Z h a y.cls)
    (hM : own_Met K.2.1 Z n0 y ycode ymx yret yrm (.ref a :: argsL).toArray h Q) (hL : L.size = mx) (hd : decode code pc = .ok (.invokevirtual idx, 3)) (hp : pc + 3 = pc') (hpd : parseMethodDescriptor y.desc = some ⟨ps, yr⟩) (hlen : argsL.length = ps.length) (hS : S = argsL.reverse ++ .ref a :: rest)
    (W : Nat) (hW : (rest.map fun v => v.category).sum ≤ W) (hf : yrm.frames + 1 ≤ rm.frames) (hl : W + (ymx + 11) + yrm.locals ≤ rm.locals) (hc : cl + yrm.cells ≤ rm.cells) (hs : sl + yrm.slots ≤ rm.slots)
    (hr : ∀ T' h' v, own_Sx n0 K T' h' (cl + yrm.cells) (sl + yrm.slots) → Q v h' → own_Fin n0 K P T' pc' L (v.toList ++ rest)) : own_Fin n0 K P T pc L S := by
  obtain ⟨p, l, e, R, s, m, args, below, meth, c⟩ := K
  obtain ⟨hx, hby, hml, hown, hret, hlk, hZ, rfl, hw⟩ := M
  obtain ⟨locs, X, hN, eT, hn, hcl, hsl⟩ := X
  obtain ⟨cq, qa, qb⟩ := E.cell
  obtain ⟨v, vm1, ⟨T1, L1, k1, n1⟩, -, X1, ⟨Lc, hQ, l1, y1, z1⟩, st⟩ := X.privateBack hx (y := y) hown (mvT hZ w1) (mvT hZ w2) (own_selPriv (mvT hZ w6) (mvP hZ w5) (mvT hZ w2) hy) (Cond.privateMethod_at (mvP hZ w5 (args := #[]))) (mvT hZ w4) hy (backOf (W := W) (Q := fun v h L => Q v h ∧ Fr n0 L) (hM []) hZ w4 w3 hf hl) (g := mkF m pc L S) rfl (by rw [hml]; exact hL) (Steps.refl _) (a := a) (by rw [eT]; exact qa) qb (argsL := argsL) (rest := rest) (lenOf hpd hlen) hS (by show 2 * 0 + _ ≤ W; omega) (hb hby hd) (fun _ _ => ⟨rfl, eT, hc, hs⟩)
  dsimp only [Pt.U, Pt.locs, Pt.cells, Pt.slots] at X1 l1 y1 z1 st hQ
  subst l1 y1 z1 hp
  obtain ⟨s2, o2, st2, r⟩ := hr T1 _ v ⟨_, X1, Fr.app hN hQ.2, rfl, hn, hc, hs⟩ hQ.1
  exact ⟨s2, o2, st.trans st2, r⟩
theorem own_callNP0 (M : own_Mx Z a0 K code own mx ret rm) (X : own_Sx n0 K T h cl sl) {y : MethodName} {ycode : ByteArray} {ymx : Nat} {yret : Option FieldType} {yrm : Room} {idx : Nat} {ps : List FieldType} {yr : Option FieldType} {a : Addr} (argsL : List Value)
    (w1 : (Jvm.Cond.methodLink own idx y).before a0 Z = true) (w2 : (Jvm.Cond.instanceMethod y).before a0 Z = true) (w3 : (Jvm.Cond.initialized y.cls).before a0 Z = true) (w4 : (Jvm.Cond.code y ycode ymx yret).before a0 Z = true) (hy : y.cls ≠ "java/lang/invoke/MethodHandle" ∧ y.cls ≠ "java/lang/invoke/VarHandle") (hnm : y.name = "<init>") (hnr : yret = none)
    (hM : own_Met K.2.1 Z n0 y ycode ymx yret yrm (.ref a :: argsL).toArray h (fun v h' => v = none ∧ h' = h)) (hL : L.size = mx) (hd : decode code pc = .ok (.invokespecial idx, 3)) (hp : pc + 3 = pc') (hpd : parseMethodDescriptor y.desc = some ⟨ps, yr⟩) (hlen : argsL.length = ps.length) (hS : S = argsL.reverse ++ .ref a :: rest)
    (W : Nat) (hW : (rest.map fun v => v.category).sum ≤ W) (hf : yrm.frames + 1 ≤ rm.frames) (hl : W + (ymx + 11) + yrm.locals ≤ rm.locals) (hc0 : yrm.cells = 0) (hs0 : yrm.slots = 0)
    (hr : ∀ T', own_Sx n0 K T' h cl sl → own_Fin n0 K P T' pc' L (rest)) : own_Fin n0 K P T pc L S := by
  have hcs : cl ≤ rm.cells ∧ sl ≤ rm.slots := by
    obtain ⟨p, l, e, R, s, m, args, below, meth, c⟩ := K
    obtain ⟨hx, hby, hml, hown, hret, hlk, hZ, rfl, hw⟩ := M
    obtain ⟨locs, X, hN, eT, hn, hcl, hsl⟩ := X
    exact ⟨hcl, hsl⟩
  refine own_callN M X argsL w1 w2 w3 w4 hy hnm hnr hM hL hd hp hpd hlen hS W hW hf hl (by rw [hc0]; exact hcs.1) (by rw [hs0]; exact hcs.2) ?_
  rintro T' h' v X' ⟨rfl, rfl⟩
  rw [hc0, hs0] at X'
  exact hr T' X'
theorem own_callVP (M : own_Mx Z a0 K code own mx ret rm) (X : own_Sx n0 K T h cl sl) {y : MethodName} {ycode : ByteArray} {ymx : Nat} {yret : Option FieldType} {yrm : Room} {idx : Nat} {ps : List FieldType} {yr : Option FieldType} {a : Addr} {w : Value} (argsL : List Value)
    (w1 : (Jvm.Cond.methodLink own idx y).before a0 Z = true) (w2 : (Jvm.Cond.instanceMethod y).before a0 Z = true) (w5 : (Jvm.Cond.declares y).before a0 Z = true) (w6 : (Jvm.Cond.selects y.cls y y).before a0 Z = true) (w3 : (Jvm.Cond.initialized y.cls).before a0 Z = true) (w4 : (Jvm.Cond.code y ycode ymx yret).before a0 Z = true) (hy : y.cls ≠ "java/lang/invoke/MethodHandle" ∧ y.cls ≠ "java/lang/invoke/VarHandle") (E : Exa Z h a y.cls)
    (hM : own_Met K.2.1 Z n0 y ycode ymx yret yrm (.ref a :: argsL).toArray h (fun v h' => v = some w ∧ h' = h)) (hL : L.size = mx) (hd : decode code pc = .ok (.invokevirtual idx, 3)) (hp : pc + 3 = pc') (hpd : parseMethodDescriptor y.desc = some ⟨ps, yr⟩) (hlen : argsL.length = ps.length) (hS : S = argsL.reverse ++ .ref a :: rest)
    (W : Nat) (hW : (rest.map fun v => v.category).sum ≤ W) (hf : yrm.frames + 1 ≤ rm.frames) (hl : W + (ymx + 11) + yrm.locals ≤ rm.locals) (hc0 : yrm.cells = 0) (hs0 : yrm.slots = 0)
    (hr : ∀ T', own_Sx n0 K T' h cl sl → own_Fin n0 K P T' pc' L (w :: rest)) : own_Fin n0 K P T pc L S := by
  have hcs : cl ≤ rm.cells ∧ sl ≤ rm.slots := by
    obtain ⟨p, l, e, R, s, m, args, below, meth, c⟩ := K
    obtain ⟨hx, hby, hml, hown, hret, hlk, hZ, rfl, hw⟩ := M
    obtain ⟨locs, X, hN, eT, hn, hcl, hsl⟩ := X
    exact ⟨hcl, hsl⟩
  refine own_callV M X argsL w1 w2 w5 w6 w3 w4 hy E hM hL hd hp hpd hlen hS W hW hf hl (by rw [hc0]; exact hcs.1) (by rw [hs0]; exact hcs.2) ?_
  rintro T' h' v X' ⟨rfl, rfl⟩
  rw [hc0, hs0] at X'
  exact hr T' X'
theorem own_callVP0 (M : own_Mx Z a0 K code own mx ret rm) (X : own_Sx n0 K T h cl sl) {y : MethodName} {ycode : ByteArray} {ymx : Nat} {yret : Option FieldType} {yrm : Room} {idx : Nat} {ps : List FieldType} {yr : Option FieldType} {a : Addr} (argsL : List Value)
    (w1 : (Jvm.Cond.methodLink own idx y).before a0 Z = true) (w2 : (Jvm.Cond.instanceMethod y).before a0 Z = true) (w5 : (Jvm.Cond.declares y).before a0 Z = true) (w6 : (Jvm.Cond.selects y.cls y y).before a0 Z = true) (w3 : (Jvm.Cond.initialized y.cls).before a0 Z = true) (w4 : (Jvm.Cond.code y ycode ymx yret).before a0 Z = true) (hy : y.cls ≠ "java/lang/invoke/MethodHandle" ∧ y.cls ≠ "java/lang/invoke/VarHandle") (E : Exa Z h a y.cls)
    (hM : own_Met K.2.1 Z n0 y ycode ymx yret yrm (.ref a :: argsL).toArray h (fun v h' => v = none ∧ h' = h)) (hL : L.size = mx) (hd : decode code pc = .ok (.invokevirtual idx, 3)) (hp : pc + 3 = pc') (hpd : parseMethodDescriptor y.desc = some ⟨ps, yr⟩) (hlen : argsL.length = ps.length) (hS : S = argsL.reverse ++ .ref a :: rest)
    (W : Nat) (hW : (rest.map fun v => v.category).sum ≤ W) (hf : yrm.frames + 1 ≤ rm.frames) (hl : W + (ymx + 11) + yrm.locals ≤ rm.locals) (hc0 : yrm.cells = 0) (hs0 : yrm.slots = 0)
    (hr : ∀ T', own_Sx n0 K T' h cl sl → own_Fin n0 K P T' pc' L (rest)) : own_Fin n0 K P T pc L S := by
  have hcs : cl ≤ rm.cells ∧ sl ≤ rm.slots := by
    obtain ⟨p, l, e, R, s, m, args, below, meth, c⟩ := K
    obtain ⟨hx, hby, hml, hown, hret, hlk, hZ, rfl, hw⟩ := M
    obtain ⟨locs, X, hN, eT, hn, hcl, hsl⟩ := X
    exact ⟨hcl, hsl⟩
  refine own_callV M X argsL w1 w2 w5 w6 w3 w4 hy E hM hL hd hp hpd hlen hS W hW hf hl (by rw [hc0]; exact hcs.1) (by rw [hs0]; exact hcs.2) ?_
  rintro T' h' v X' ⟨rfl, rfl⟩
  rw [hc0, hs0] at X'
  exact hr T' X'
theorem own_callPrivP (M : own_Mx Z a0 K code own mx ret rm) (X : own_Sx n0 K T h cl sl) {y : MethodName} {ycode : ByteArray} {ymx : Nat} {yret : Option FieldType} {yrm : Room} {idx : Nat} {ps : List FieldType} {yr : Option FieldType} {a : Addr} {w : Value} (argsL : List Value)
    (w1 : (Jvm.Cond.methodLink own idx y).before a0 Z = true) (w2 : (Jvm.Cond.instanceMethod y).before a0 Z = true) (w5 : (Jvm.Cond.privateMethod y).before a0 Z = true) {kk : Nat} (w6 : (Jvm.Cond.instantiable y.cls kk).before a0 Z = true) (w3 : (Jvm.Cond.initialized y.cls).before a0 Z = true) (w4 : (Jvm.Cond.code y ycode ymx yret).before a0 Z = true) (hy : y.cls ≠ "java/lang/invoke/MethodHandle" ∧ y.cls ≠ "java/lang/invoke/VarHandle") (E : Exa Z h a y.cls)
    (hM : own_Met K.2.1 Z n0 y ycode ymx yret yrm (.ref a :: argsL).toArray h (fun v h' => v = some w ∧ h' = h)) (hL : L.size = mx) (hd : decode code pc = .ok (.invokevirtual idx, 3)) (hp : pc + 3 = pc') (hpd : parseMethodDescriptor y.desc = some ⟨ps, yr⟩) (hlen : argsL.length = ps.length) (hS : S = argsL.reverse ++ .ref a :: rest)
    (W : Nat) (hW : (rest.map fun v => v.category).sum ≤ W) (hf : yrm.frames + 1 ≤ rm.frames) (hl : W + (ymx + 11) + yrm.locals ≤ rm.locals) (hc0 : yrm.cells = 0) (hs0 : yrm.slots = 0)
    (hr : ∀ T', own_Sx n0 K T' h cl sl → own_Fin n0 K P T' pc' L (w :: rest)) : own_Fin n0 K P T pc L S := by
  have hcs : cl ≤ rm.cells ∧ sl ≤ rm.slots := by
    obtain ⟨p, l, e, R, s, m, args, below, meth, c⟩ := K
    obtain ⟨hx, hby, hml, hown, hret, hlk, hZ, rfl, hw⟩ := M
    obtain ⟨locs, X, hN, eT, hn, hcl, hsl⟩ := X
    exact ⟨hcl, hsl⟩
  refine own_callPriv M X argsL w1 w2 w5 w6 w3 w4 hy E hM hL hd hp hpd hlen hS W hW hf hl (by rw [hc0]; exact hcs.1) (by rw [hs0]; exact hcs.2) ?_
  rintro T' h' v X' ⟨rfl, rfl⟩
  rw [hc0, hs0] at X'
  exact hr T' X'
theorem own_callPrivP0 (M : own_Mx Z a0 K code own mx ret rm) (X : own_Sx n0 K T h cl sl) {y : MethodName} {ycode : ByteArray} {ymx : Nat} {yret : Option FieldType} {yrm : Room} {idx : Nat} {ps : List FieldType} {yr : Option FieldType} {a : Addr} (argsL : List Value)
    (w1 : (Jvm.Cond.methodLink own idx y).before a0 Z = true) (w2 : (Jvm.Cond.instanceMethod y).before a0 Z = true) (w5 : (Jvm.Cond.privateMethod y).before a0 Z = true) {kk : Nat} (w6 : (Jvm.Cond.instantiable y.cls kk).before a0 Z = true) (w3 : (Jvm.Cond.initialized y.cls).before a0 Z = true) (w4 : (Jvm.Cond.code y ycode ymx yret).before a0 Z = true) (hy : y.cls ≠ "java/lang/invoke/MethodHandle" ∧ y.cls ≠ "java/lang/invoke/VarHandle") (E : Exa Z h a y.cls)
    (hM : own_Met K.2.1 Z n0 y ycode ymx yret yrm (.ref a :: argsL).toArray h (fun v h' => v = none ∧ h' = h)) (hL : L.size = mx) (hd : decode code pc = .ok (.invokevirtual idx, 3)) (hp : pc + 3 = pc') (hpd : parseMethodDescriptor y.desc = some ⟨ps, yr⟩) (hlen : argsL.length = ps.length) (hS : S = argsL.reverse ++ .ref a :: rest)
    (W : Nat) (hW : (rest.map fun v => v.category).sum ≤ W) (hf : yrm.frames + 1 ≤ rm.frames) (hl : W + (ymx + 11) + yrm.locals ≤ rm.locals) (hc0 : yrm.cells = 0) (hs0 : yrm.slots = 0)
    (hr : ∀ T', own_Sx n0 K T' h cl sl → own_Fin n0 K P T' pc' L (rest)) : own_Fin n0 K P T pc L S := by
  have hcs : cl ≤ rm.cells ∧ sl ≤ rm.slots := by
    obtain ⟨p, l, e, R, s, m, args, below, meth, c⟩ := K
    obtain ⟨hx, hby, hml, hown, hret, hlk, hZ, rfl, hw⟩ := M
    obtain ⟨locs, X, hN, eT, hn, hcl, hsl⟩ := X
    exact ⟨hcl, hsl⟩
  refine own_callPriv M X argsL w1 w2 w5 w6 w3 w4 hy E hM hL hd hp hpd hlen hS W hW hf hl (by rw [hc0]; exact hcs.1) (by rw [hs0]; exact hcs.2) ?_
  rintro T' h' v X' ⟨rfl, rfl⟩
  rw [hc0, hs0] at X'
  exact hr T' X'
theorem own_Va.arv {a : Addr} {ty : FieldType} {n : Nat} {f : Nat → Value} (V : own_Va Z h a ty n f) : ∃ k, ∀ dv, Arv Z h a k ty (Int32.ofNat n) ((List.range n).map f) dv := by
  obtain ⟨c, A, r1, r2, r3, r4⟩ := V
  have e : (Int32.ofNat n).toInt = n := Int32.toInt_ofNat_of_lt r2
  have g : ∀ dv j, j < n → ((List.range n).map f).getD j dv = f j := fun dv j hj => by simp [List.getD, hj]
  refine ⟨c.cls, fun dv => ⟨c, A, rfl, by rw [own_nat e]; exact r1, by rw [Int32.lt_iff_toInt_lt, e, Int32.toInt_zero]; omega, fun j hj => ?_, fun j hj => ?_⟩⟩
  · rw [g dv j (by omega)]; exact r3 j (by omega)
  · rw [g dv j (by omega)]; exact r4 j (by omega)
theorem own_Va.of_arv {a : Addr} {ty : FieldType} {n : Nat} {k : ClassId} {z : Int32} {vs : List Value} {dv : Value} {f : Nat → Value} (V : Arv Z h a k ty z vs dv) (hz : z.toInt = n) (hf : ∀ j, j < n → vs.getD j dv = f j) : own_Va Z h a ty n f := by
  obtain ⟨c, A, -, S, -, H, G⟩ := V
  rw [own_nat hz] at S
  exact ⟨c, A, S, by have := z.toInt_lt; omega, fun j hj => by rw [← hf j hj]; exact H j (by omega), fun j hj => by rw [← hf j hj]; exact G j (by omega)⟩
theorem own_cpl {α : Type} (f g : Nat → α) (na nb i j k t : Nat) (h4 : i + k ≤ na) (h5 : j + k ≤ nb) (ht : t < nb) (d : α) :
    (((List.range nb).map g).take j ++ (List.range k).map (fun q => ((List.range na).map f).getD (i + q) d) ++ ((List.range nb).map g).drop (j + k)).getD t d = if j ≤ t ∧ t < j + k then f (i + (t - j)) else g t := by
  have e1 : min j nb = j := by omega
  rw [List.getD_eq_getElem?_getD, List.getElem?_append, List.getElem?_append]
  simp only [List.length_append, List.length_take, List.length_map, List.length_range, e1]
  by_cases q1 : t < j
  · have n1 : ¬ (j ≤ t ∧ t < j + k) := by omega
    have n2 : t < j + k := by omega
    rw [if_neg n1, if_pos n2, if_pos q1, List.getElem?_take, if_pos q1]
    simp [ht]
  · by_cases q2 : t < j + k
    · have n1 : j ≤ t ∧ t < j + k := by omega
      have n2 : t - j < k := by omega
      have n3 : i + (t - j) < na := by omega
      rw [if_pos n1, if_pos q2, if_neg q1]
      simp [n2, n3]
    · have n1 : ¬ (j ≤ t ∧ t < j + k) := by omega
      have n3 : j + k + (t - (j + k)) = t := by omega
      rw [if_neg n1, if_neg q2, List.getElem?_drop, n3]
      simp [ht]
theorem own_arraycopy (M : own_Mx Z a0 K code own mx ret rm) (X : own_Sx n0 K T h cl sl) {idx : Nat} {a b : Addr} {ty : FieldType} {na nb i j k : Nat} {f g : Nat → Value} {sp dp nn : Int32}
    (w1 : (Jvm.Cond.methodLink own idx Jvm.Stand.acN).before a0 Z = true) (w2 : (Jvm.Cond.native Jvm.Stand.acN).before a0 Z = true) (w3 : (Jvm.Cond.static Jvm.Stand.acN).before a0 Z = true) (w4 : (Jvm.Cond.initialized "java/lang/System").before a0 Z = true)
    (A : own_Va Z h a ty na f) (B : own_Va Z h b ty nb g) (hty : refKind ty = false) (hsp : sp.toInt = i) (hdp : dp.toInt = j) (hnn : nn.toInt = k) (h4 : i + k ≤ na) (h5 : j + k ≤ nb) (hgb : n0 ≤ b) (hL : L.size = mx) (hd : decode code pc = .ok (.invokestatic idx, 3)) (hp : pc + 3 = pc')
    (hf : 1 ≤ rm.frames) (W : Nat) (hW : (S.map fun v => v.category).sum ≤ W) (hlo : W + 18 ≤ rm.locals)
    (hr : ∀ T' h', own_Sx n0 K T' h' cl sl → Keep h h' [b] → own_Va Z h' b ty nb (fun t => if j ≤ t ∧ t < j + k then f (i + (t - j)) else g t) → own_Fin n0 K P T' pc' L S) : own_Fin n0 K P T pc L (.int nn :: .int dp :: .ref b :: .int sp :: .ref a :: S) := by
  obtain ⟨p, l, e, R, s, m, args, below, meth, c⟩ := K
  obtain ⟨hx, hby, hml, hown, hret, hlk, hZ, rfl, hw⟩ := M
  obtain ⟨locs, X, hN, eT, hn, hcl, hsl⟩ := X
  have sa := A.small
  have sb := B.small
  obtain ⟨ka, A⟩ := A.arv
  obtain ⟨kb, B⟩ := B.arv
  have ea : (Int32.ofNat na).toInt = na := Int32.toInt_ofNat_of_lt sa
  have eb : (Int32.ofNat nb).toInt = nb := Int32.toInt_ofNat_of_lt sb
  have nneg : ∀ {x : Int32} {q : Nat}, x.toInt = q → ¬ x < 0 := fun {x q} z => by rw [Int32.lt_iff_toInt_lt, z, Int32.toInt_zero]; omega
  obtain ⟨T1, h1, L1, X1, e1, N1, K1, B1, st⟩ := cpA X hx hZ hown w1 w2 w3 w4 eT (A .null) (B .null) (Or.inl ⟨rfl, hty⟩) (nneg hsp) (nneg hdp) (nneg hnn) (by rw [own_nat hsp, own_nat hnn, own_nat ea]; exact h4) (by rw [own_nat hdp, own_nat hnn, own_nat eb]; exact h5) rfl (by simp [own_nat hdp, own_nat hnn]; exact h5) hN hgb (g := mkF m pc L (.int nn :: .int dp :: .ref b :: .int sp :: .ref a :: S)) rfl (by rw [hml]; exact hL) rfl (hb hby hd) hf (W := W) (by show 2 * 0 + _ ≤ W; omega) hlo
  subst hp
  obtain ⟨s2, o2, st2, r⟩ := hr T1 h1 ⟨_, X1, N1, e1, hn, hcl, hsl⟩ K1 (own_Va.of_arv B1 eb (fun t ht => by
    rw [own_nat hsp, own_nat hdp, own_nat hnn]
    exact own_cpl f g na nb i j k t h4 h5 ht .null))
  exact ⟨s2, o2, st _ st2, r⟩
end OwnLayer
theorem own_pd0 : parseMethodDescriptor "(I)Z" = some ⟨[.int], some .boolean⟩ := by decide +kernel
theorem d1_0 : decode prog_67_method_5_code 0 = .ok (.iload_n 0, 1) := by decide +kernel
theorem d1_1 : decode prog_67_method_5_code 1 = .ok (.sipush 192, 3) := by decide +kernel
theorem d1_4 : decode prog_67_method_5_code 4 = .ok (.if_icmp .lt 10, 3) := by decide +kernel
theorem d1_7 : decode prog_67_method_5_code 7 = .ok (.iload_n 0, 1) := by decide +kernel
theorem d1_8 : decode prog_67_method_5_code 8 = .ok (.sipush 214, 3) := by decide +kernel
theorem d1_11 : decode prog_67_method_5_code 11 = .ok (.if_icmp .le 150, 3) := by decide +kernel
theorem d1_14 : decode prog_67_method_5_code 14 = .ok (.iload_n 0, 1) := by decide +kernel
theorem d1_15 : decode prog_67_method_5_code 15 = .ok (.sipush 216, 3) := by decide +kernel
theorem d1_18 : decode prog_67_method_5_code 18 = .ok (.if_icmp .lt 10, 3) := by decide +kernel
theorem d1_21 : decode prog_67_method_5_code 21 = .ok (.iload_n 0, 1) := by decide +kernel
theorem d1_22 : decode prog_67_method_5_code 22 = .ok (.sipush 246, 3) := by decide +kernel
theorem d1_25 : decode prog_67_method_5_code 25 = .ok (.if_icmp .le 136, 3) := by decide +kernel
theorem d1_28 : decode prog_67_method_5_code 28 = .ok (.iload_n 0, 1) := by decide +kernel
theorem d1_29 : decode prog_67_method_5_code 29 = .ok (.sipush 248, 3) := by decide +kernel
theorem d1_32 : decode prog_67_method_5_code 32 = .ok (.if_icmp .lt 10, 3) := by decide +kernel
theorem d1_35 : decode prog_67_method_5_code 35 = .ok (.iload_n 0, 1) := by decide +kernel
theorem d1_36 : decode prog_67_method_5_code 36 = .ok (.sipush 767, 3) := by decide +kernel
theorem d1_39 : decode prog_67_method_5_code 39 = .ok (.if_icmp .le 122, 3) := by decide +kernel
theorem d1_42 : decode prog_67_method_5_code 42 = .ok (.iload_n 0, 1) := by decide +kernel
theorem d1_43 : decode prog_67_method_5_code 43 = .ok (.sipush 880, 3) := by decide +kernel
theorem d1_46 : decode prog_67_method_5_code 46 = .ok (.if_icmp .lt 10, 3) := by decide +kernel
theorem d1_49 : decode prog_67_method_5_code 49 = .ok (.iload_n 0, 1) := by decide +kernel
theorem d1_50 : decode prog_67_method_5_code 50 = .ok (.sipush 893, 3) := by decide +kernel
theorem d1_53 : decode prog_67_method_5_code 53 = .ok (.if_icmp .le 108, 3) := by decide +kernel
theorem d1_56 : decode prog_67_method_5_code 56 = .ok (.iload_n 0, 1) := by decide +kernel
theorem d1_57 : decode prog_67_method_5_code 57 = .ok (.sipush 895, 3) := by decide +kernel
theorem d1_60 : decode prog_67_method_5_code 60 = .ok (.if_icmp .lt 10, 3) := by decide +kernel
theorem d1_63 : decode prog_67_method_5_code 63 = .ok (.iload_n 0, 1) := by decide +kernel
theorem d1_64 : decode prog_67_method_5_code 64 = .ok (.sipush 8191, 3) := by decide +kernel
theorem d1_67 : decode prog_67_method_5_code 67 = .ok (.if_icmp .le 94, 3) := by decide +kernel
theorem d1_70 : decode prog_67_method_5_code 70 = .ok (.iload_n 0, 1) := by decide +kernel
theorem d1_71 : decode prog_67_method_5_code 71 = .ok (.sipush 8204, 3) := by decide +kernel
theorem d1_74 : decode prog_67_method_5_code 74 = .ok (.if_icmp .lt 10, 3) := by decide +kernel
theorem d1_77 : decode prog_67_method_5_code 77 = .ok (.iload_n 0, 1) := by decide +kernel
theorem d1_78 : decode prog_67_method_5_code 78 = .ok (.sipush 8205, 3) := by decide +kernel
theorem d1_81 : decode prog_67_method_5_code 81 = .ok (.if_icmp .le 80, 3) := by decide +kernel
theorem d1_84 : decode prog_67_method_5_code 84 = .ok (.iload_n 0, 1) := by decide +kernel
theorem d1_85 : decode prog_67_method_5_code 85 = .ok (.sipush 8304, 3) := by decide +kernel
theorem d1_88 : decode prog_67_method_5_code 88 = .ok (.if_icmp .lt 10, 3) := by decide +kernel
theorem d1_91 : decode prog_67_method_5_code 91 = .ok (.iload_n 0, 1) := by decide +kernel
theorem d1_92 : decode prog_67_method_5_code 92 = .ok (.sipush 8591, 3) := by decide +kernel
theorem d1_95 : decode prog_67_method_5_code 95 = .ok (.if_icmp .le 66, 3) := by decide +kernel
theorem d1_98 : decode prog_67_method_5_code 98 = .ok (.iload_n 0, 1) := by decide +kernel
theorem d1_99 : decode prog_67_method_5_code 99 = .ok (.sipush 11264, 3) := by decide +kernel
theorem d1_102 : decode prog_67_method_5_code 102 = .ok (.if_icmp .lt 10, 3) := by decide +kernel
theorem d1_105 : decode prog_67_method_5_code 105 = .ok (.iload_n 0, 1) := by decide +kernel
theorem d1_106 : decode prog_67_method_5_code 106 = .ok (.sipush 12271, 3) := by decide +kernel
theorem d1_109 : decode prog_67_method_5_code 109 = .ok (.if_icmp .le 52, 3) := by decide +kernel
theorem d1_112 : decode prog_67_method_5_code 112 = .ok (.iload_n 0, 1) := by decide +kernel
theorem d1_113 : decode prog_67_method_5_code 113 = .ok (.sipush 12289, 3) := by decide +kernel
theorem d1_116 : decode prog_67_method_5_code 116 = .ok (.if_icmp .lt 9, 3) := by decide +kernel
theorem d1_119 : decode prog_67_method_5_code 119 = .ok (.iload_n 0, 1) := by decide +kernel
theorem d1_120 : decode prog_67_method_5_code 120 = .ok (.ldc 9, 2) := by decide +kernel
theorem d1_122 : decode prog_67_method_5_code 122 = .ok (.if_icmp .le 39, 3) := by decide +kernel
theorem d1_125 : decode prog_67_method_5_code 125 = .ok (.iload_n 0, 1) := by decide +kernel
theorem d1_126 : decode prog_67_method_5_code 126 = .ok (.ldc 12, 2) := by decide +kernel
theorem d1_128 : decode prog_67_method_5_code 128 = .ok (.if_icmp .lt 9, 3) := by decide +kernel
theorem d1_131 : decode prog_67_method_5_code 131 = .ok (.iload_n 0, 1) := by decide +kernel
theorem d1_132 : decode prog_67_method_5_code 132 = .ok (.ldc 13, 2) := by decide +kernel
theorem d1_134 : decode prog_67_method_5_code 134 = .ok (.if_icmp .le 27, 3) := by decide +kernel
theorem d1_137 : decode prog_67_method_5_code 137 = .ok (.iload_n 0, 1) := by decide +kernel
theorem d1_138 : decode prog_67_method_5_code 138 = .ok (.ldc 14, 2) := by decide +kernel
theorem d1_140 : decode prog_67_method_5_code 140 = .ok (.if_icmp .lt 9, 3) := by decide +kernel
theorem d1_143 : decode prog_67_method_5_code 143 = .ok (.iload_n 0, 1) := by decide +kernel
theorem d1_144 : decode prog_67_method_5_code 144 = .ok (.ldc 7, 2) := by decide +kernel
theorem d1_146 : decode prog_67_method_5_code 146 = .ok (.if_icmp .le 15, 3) := by decide +kernel
theorem d1_149 : decode prog_67_method_5_code 149 = .ok (.iload_n 0, 1) := by decide +kernel
theorem d1_150 : decode prog_67_method_5_code 150 = .ok (.ldc 8, 2) := by decide +kernel
theorem d1_152 : decode prog_67_method_5_code 152 = .ok (.if_icmp .lt 13, 3) := by decide +kernel
theorem d1_155 : decode prog_67_method_5_code 155 = .ok (.iload_n 0, 1) := by decide +kernel
theorem d1_156 : decode prog_67_method_5_code 156 = .ok (.ldc 15, 2) := by decide +kernel
theorem d1_158 : decode prog_67_method_5_code 158 = .ok (.if_icmp .gt 7, 3) := by decide +kernel
theorem d1_161 : decode prog_67_method_5_code 161 = .ok (.iconst 1, 1) := by decide +kernel
theorem d1_162 : decode prog_67_method_5_code 162 = .ok (.goto 4, 3) := by decide +kernel
theorem d1_165 : decode prog_67_method_5_code 165 = .ok (.iconst 0, 1) := by decide +kernel
theorem d1_166 : decode prog_67_method_5_code 166 = .ok (.ireturn, 1) := by decide +kernel
def T1_149 (u0 : Int32) : Int32 := (if u0 < (65536 : Int32) then (0 : Int32) else (if (983039 : Int32) < u0 then (0 : Int32) else (1 : Int32)))
set_option maxRecDepth 65536 in
set_option maxHeartbeats 40000000 in
theorem tl1_149 (l : Launch) (Z : State) (a0 : Array Value) (hw : ∀ d ∈ tables_1, d.before a0 Z = true) {n0 : Nat} {K : own_Cx} {P : Option Value → Heap → Prop} {T : State} {h : Heap} (M : own_Mx Z a0 K prog_67_method_5_code "com/example/tracelode/tracelode/log/XmlCharacters" 1 (some .boolean) ({ frames := 0, cells := 0, slots := 0, locals := 0 } : Room)) (X : own_Sx n0 K T h 0 0) (u0 : Int32)
    (hP : P (some (.int (T1_149 u0))) h) : own_Fin n0 K P T 149 #[.val (.int u0)] [] := by
  refine own_iloadN M X d1_149 rfl rfl ?_
  refine own_ldc M X (hw _ (List.mem_of_getElem? (i := 16) rfl)) d1_150 rfl ?_
  refine own_icmp_lt M X d1_152 (by decide) rfl rfl (fun q1 => ?_) (fun q1 => ?_)
  · skip
    refine own_iconst M X (v := (0 : Int32)) d1_165 rfl rfl ?_
    exact own_retN M X (z' := (0 : Int32)) (by simp) d1_166 rfl (by rw [T1_149, if_pos q1] at hP; exact hP)
  · skip
    refine own_iloadN M X d1_155 rfl rfl ?_
    refine own_ldc M X (hw _ (List.mem_of_getElem? (i := 27) rfl)) d1_156 rfl ?_
    refine own_icmp_gt M X d1_158 (by decide) rfl rfl (fun q2 => ?_) (fun q2 => ?_)
    · skip
      refine own_iconst M X (v := (0 : Int32)) d1_165 rfl rfl ?_
      exact own_retN M X (z' := (0 : Int32)) (by simp) d1_166 rfl (by rw [T1_149, if_neg q1, if_pos q2] at hP; exact hP)
    · skip
      refine own_iconst M X (v := (1 : Int32)) d1_161 rfl rfl ?_
      refine own_goto M X d1_162 (by decide) rfl ?_
      exact own_retN M X (z' := (1 : Int32)) (by simp) d1_166 rfl (by rw [T1_149, if_neg q1, if_neg q2] at hP; exact hP)
def T1_137 (u0 : Int32) : Int32 := (if u0 < (65008 : Int32) then (T1_149 u0) else (if (65533 : Int32) < u0 then (T1_149 u0) else (1 : Int32)))
set_option maxRecDepth 65536 in
set_option maxHeartbeats 40000000 in
theorem tl1_137 (l : Launch) (Z : State) (a0 : Array Value) (hw : ∀ d ∈ tables_1, d.before a0 Z = true) {n0 : Nat} {K : own_Cx} {P : Option Value → Heap → Prop} {T : State} {h : Heap} (M : own_Mx Z a0 K prog_67_method_5_code "com/example/tracelode/tracelode/log/XmlCharacters" 1 (some .boolean) ({ frames := 0, cells := 0, slots := 0, locals := 0 } : Room)) (X : own_Sx n0 K T h 0 0) (u0 : Int32)
    (hP : P (some (.int (T1_137 u0))) h) : own_Fin n0 K P T 137 #[.val (.int u0)] [] := by
  refine own_iloadN M X d1_137 rfl rfl ?_
  refine own_ldc M X (hw _ (List.mem_of_getElem? (i := 15) rfl)) d1_138 rfl ?_
  refine own_icmp_lt M X d1_140 (by decide) rfl rfl (fun q1 => ?_) (fun q1 => ?_)
  · skip
    exact tl1_149 l Z a0 hw M X u0 (by rw [T1_137, if_pos q1] at hP; exact hP)
  · skip
    refine own_iloadN M X d1_143 rfl rfl ?_
    refine own_ldc M X (hw _ (List.mem_of_getElem? (i := 26) rfl)) d1_144 rfl ?_
    refine own_icmp_le M X d1_146 (by decide) rfl rfl (fun q2 => ?_) (fun q2 => ?_)
    · skip
      refine own_iconst M X (v := (1 : Int32)) d1_161 rfl rfl ?_
      refine own_goto M X d1_162 (by decide) rfl ?_
      exact own_retN M X (z' := (1 : Int32)) (by simp) d1_166 rfl (by rw [T1_137, if_neg q1, if_neg q2] at hP; exact hP)
    · skip
      exact tl1_149 l Z a0 hw M X u0 (by rw [T1_137, if_neg q1, if_pos q2] at hP; exact hP)
def T1_125 (u0 : Int32) : Int32 := (if u0 < (63744 : Int32) then (T1_137 u0) else (if (64975 : Int32) < u0 then (T1_137 u0) else (1 : Int32)))
set_option maxRecDepth 65536 in
set_option maxHeartbeats 40000000 in
theorem tl1_125 (l : Launch) (Z : State) (a0 : Array Value) (hw : ∀ d ∈ tables_1, d.before a0 Z = true) {n0 : Nat} {K : own_Cx} {P : Option Value → Heap → Prop} {T : State} {h : Heap} (M : own_Mx Z a0 K prog_67_method_5_code "com/example/tracelode/tracelode/log/XmlCharacters" 1 (some .boolean) ({ frames := 0, cells := 0, slots := 0, locals := 0 } : Room)) (X : own_Sx n0 K T h 0 0) (u0 : Int32)
    (hP : P (some (.int (T1_125 u0))) h) : own_Fin n0 K P T 125 #[.val (.int u0)] [] := by
  refine own_iloadN M X d1_125 rfl rfl ?_
  refine own_ldc M X (hw _ (List.mem_of_getElem? (i := 14) rfl)) d1_126 rfl ?_
  refine own_icmp_lt M X d1_128 (by decide) rfl rfl (fun q1 => ?_) (fun q1 => ?_)
  · skip
    exact tl1_137 l Z a0 hw M X u0 (by rw [T1_125, if_pos q1] at hP; exact hP)
  · skip
    refine own_iloadN M X d1_131 rfl rfl ?_
    refine own_ldc M X (hw _ (List.mem_of_getElem? (i := 25) rfl)) d1_132 rfl ?_
    refine own_icmp_le M X d1_134 (by decide) rfl rfl (fun q2 => ?_) (fun q2 => ?_)
    · skip
      refine own_iconst M X (v := (1 : Int32)) d1_161 rfl rfl ?_
      refine own_goto M X d1_162 (by decide) rfl ?_
      exact own_retN M X (z' := (1 : Int32)) (by simp) d1_166 rfl (by rw [T1_125, if_neg q1, if_neg q2] at hP; exact hP)
    · skip
      exact tl1_137 l Z a0 hw M X u0 (by rw [T1_125, if_neg q1, if_pos q2] at hP; exact hP)
def T1_112 (u0 : Int32) : Int32 := (if u0 < (12289 : Int32) then (T1_125 u0) else (if (55295 : Int32) < u0 then (T1_125 u0) else (1 : Int32)))
set_option maxRecDepth 65536 in
set_option maxHeartbeats 40000000 in
theorem tl1_112 (l : Launch) (Z : State) (a0 : Array Value) (hw : ∀ d ∈ tables_1, d.before a0 Z = true) {n0 : Nat} {K : own_Cx} {P : Option Value → Heap → Prop} {T : State} {h : Heap} (M : own_Mx Z a0 K prog_67_method_5_code "com/example/tracelode/tracelode/log/XmlCharacters" 1 (some .boolean) ({ frames := 0, cells := 0, slots := 0, locals := 0 } : Room)) (X : own_Sx n0 K T h 0 0) (u0 : Int32)
    (hP : P (some (.int (T1_112 u0))) h) : own_Fin n0 K P T 112 #[.val (.int u0)] [] := by
  refine own_iloadN M X d1_112 rfl rfl ?_
  refine own_sipush M X (v := (12289 : Int32)) d1_113 rfl rfl ?_
  refine own_icmp_lt M X d1_116 (by decide) rfl rfl (fun q1 => ?_) (fun q1 => ?_)
  · skip
    exact tl1_125 l Z a0 hw M X u0 (by rw [T1_112, if_pos q1] at hP; exact hP)
  · skip
    refine own_iloadN M X d1_119 rfl rfl ?_
    refine own_ldc M X (hw _ (List.mem_of_getElem? (i := 24) rfl)) d1_120 rfl ?_
    refine own_icmp_le M X d1_122 (by decide) rfl rfl (fun q2 => ?_) (fun q2 => ?_)
    · skip
      refine own_iconst M X (v := (1 : Int32)) d1_161 rfl rfl ?_
      refine own_goto M X d1_162 (by decide) rfl ?_
      exact own_retN M X (z' := (1 : Int32)) (by simp) d1_166 rfl (by rw [T1_112, if_neg q1, if_neg q2] at hP; exact hP)
    · skip
      exact tl1_125 l Z a0 hw M X u0 (by rw [T1_112, if_neg q1, if_pos q2] at hP; exact hP)
def T1_98 (u0 : Int32) : Int32 := (if u0 < (11264 : Int32) then (T1_112 u0) else (if (12271 : Int32) < u0 then (T1_112 u0) else (1 : Int32)))
set_option maxRecDepth 65536 in
set_option maxHeartbeats 40000000 in
theorem tl1_98 (l : Launch) (Z : State) (a0 : Array Value) (hw : ∀ d ∈ tables_1, d.before a0 Z = true) {n0 : Nat} {K : own_Cx} {P : Option Value → Heap → Prop} {T : State} {h : Heap} (M : own_Mx Z a0 K prog_67_method_5_code "com/example/tracelode/tracelode/log/XmlCharacters" 1 (some .boolean) ({ frames := 0, cells := 0, slots := 0, locals := 0 } : Room)) (X : own_Sx n0 K T h 0 0) (u0 : Int32)
    (hP : P (some (.int (T1_98 u0))) h) : own_Fin n0 K P T 98 #[.val (.int u0)] [] := by
  refine own_iloadN M X d1_98 rfl rfl ?_
  refine own_sipush M X (v := (11264 : Int32)) d1_99 rfl rfl ?_
  refine own_icmp_lt M X d1_102 (by decide) rfl rfl (fun q1 => ?_) (fun q1 => ?_)
  · skip
    exact tl1_112 l Z a0 hw M X u0 (by rw [T1_98, if_pos q1] at hP; exact hP)
  · skip
    refine own_iloadN M X d1_105 rfl rfl ?_
    refine own_sipush M X (v := (12271 : Int32)) d1_106 rfl rfl ?_
    refine own_icmp_le M X d1_109 (by decide) rfl rfl (fun q2 => ?_) (fun q2 => ?_)
    · skip
      refine own_iconst M X (v := (1 : Int32)) d1_161 rfl rfl ?_
      refine own_goto M X d1_162 (by decide) rfl ?_
      exact own_retN M X (z' := (1 : Int32)) (by simp) d1_166 rfl (by rw [T1_98, if_neg q1, if_neg q2] at hP; exact hP)
    · skip
      exact tl1_112 l Z a0 hw M X u0 (by rw [T1_98, if_neg q1, if_pos q2] at hP; exact hP)
def T1_84 (u0 : Int32) : Int32 := (if u0 < (8304 : Int32) then (T1_98 u0) else (if (8591 : Int32) < u0 then (T1_98 u0) else (1 : Int32)))
set_option maxRecDepth 65536 in
set_option maxHeartbeats 40000000 in
theorem tl1_84 (l : Launch) (Z : State) (a0 : Array Value) (hw : ∀ d ∈ tables_1, d.before a0 Z = true) {n0 : Nat} {K : own_Cx} {P : Option Value → Heap → Prop} {T : State} {h : Heap} (M : own_Mx Z a0 K prog_67_method_5_code "com/example/tracelode/tracelode/log/XmlCharacters" 1 (some .boolean) ({ frames := 0, cells := 0, slots := 0, locals := 0 } : Room)) (X : own_Sx n0 K T h 0 0) (u0 : Int32)
    (hP : P (some (.int (T1_84 u0))) h) : own_Fin n0 K P T 84 #[.val (.int u0)] [] := by
  refine own_iloadN M X d1_84 rfl rfl ?_
  refine own_sipush M X (v := (8304 : Int32)) d1_85 rfl rfl ?_
  refine own_icmp_lt M X d1_88 (by decide) rfl rfl (fun q1 => ?_) (fun q1 => ?_)
  · skip
    exact tl1_98 l Z a0 hw M X u0 (by rw [T1_84, if_pos q1] at hP; exact hP)
  · skip
    refine own_iloadN M X d1_91 rfl rfl ?_
    refine own_sipush M X (v := (8591 : Int32)) d1_92 rfl rfl ?_
    refine own_icmp_le M X d1_95 (by decide) rfl rfl (fun q2 => ?_) (fun q2 => ?_)
    · skip
      refine own_iconst M X (v := (1 : Int32)) d1_161 rfl rfl ?_
      refine own_goto M X d1_162 (by decide) rfl ?_
      exact own_retN M X (z' := (1 : Int32)) (by simp) d1_166 rfl (by rw [T1_84, if_neg q1, if_neg q2] at hP; exact hP)
    · skip
      exact tl1_98 l Z a0 hw M X u0 (by rw [T1_84, if_neg q1, if_pos q2] at hP; exact hP)
def T1_70 (u0 : Int32) : Int32 := (if u0 < (8204 : Int32) then (T1_84 u0) else (if (8205 : Int32) < u0 then (T1_84 u0) else (1 : Int32)))
set_option maxRecDepth 65536 in
set_option maxHeartbeats 40000000 in
theorem tl1_70 (l : Launch) (Z : State) (a0 : Array Value) (hw : ∀ d ∈ tables_1, d.before a0 Z = true) {n0 : Nat} {K : own_Cx} {P : Option Value → Heap → Prop} {T : State} {h : Heap} (M : own_Mx Z a0 K prog_67_method_5_code "com/example/tracelode/tracelode/log/XmlCharacters" 1 (some .boolean) ({ frames := 0, cells := 0, slots := 0, locals := 0 } : Room)) (X : own_Sx n0 K T h 0 0) (u0 : Int32)
    (hP : P (some (.int (T1_70 u0))) h) : own_Fin n0 K P T 70 #[.val (.int u0)] [] := by
  refine own_iloadN M X d1_70 rfl rfl ?_
  refine own_sipush M X (v := (8204 : Int32)) d1_71 rfl rfl ?_
  refine own_icmp_lt M X d1_74 (by decide) rfl rfl (fun q1 => ?_) (fun q1 => ?_)
  · skip
    exact tl1_84 l Z a0 hw M X u0 (by rw [T1_70, if_pos q1] at hP; exact hP)
  · skip
    refine own_iloadN M X d1_77 rfl rfl ?_
    refine own_sipush M X (v := (8205 : Int32)) d1_78 rfl rfl ?_
    refine own_icmp_le M X d1_81 (by decide) rfl rfl (fun q2 => ?_) (fun q2 => ?_)
    · skip
      refine own_iconst M X (v := (1 : Int32)) d1_161 rfl rfl ?_
      refine own_goto M X d1_162 (by decide) rfl ?_
      exact own_retN M X (z' := (1 : Int32)) (by simp) d1_166 rfl (by rw [T1_70, if_neg q1, if_neg q2] at hP; exact hP)
    · skip
      exact tl1_84 l Z a0 hw M X u0 (by rw [T1_70, if_neg q1, if_pos q2] at hP; exact hP)
def T1_56 (u0 : Int32) : Int32 := (if u0 < (895 : Int32) then (T1_70 u0) else (if (8191 : Int32) < u0 then (T1_70 u0) else (1 : Int32)))
set_option maxRecDepth 65536 in
set_option maxHeartbeats 40000000 in
theorem tl1_56 (l : Launch) (Z : State) (a0 : Array Value) (hw : ∀ d ∈ tables_1, d.before a0 Z = true) {n0 : Nat} {K : own_Cx} {P : Option Value → Heap → Prop} {T : State} {h : Heap} (M : own_Mx Z a0 K prog_67_method_5_code "com/example/tracelode/tracelode/log/XmlCharacters" 1 (some .boolean) ({ frames := 0, cells := 0, slots := 0, locals := 0 } : Room)) (X : own_Sx n0 K T h 0 0) (u0 : Int32)
    (hP : P (some (.int (T1_56 u0))) h) : own_Fin n0 K P T 56 #[.val (.int u0)] [] := by
  refine own_iloadN M X d1_56 rfl rfl ?_
  refine own_sipush M X (v := (895 : Int32)) d1_57 rfl rfl ?_
  refine own_icmp_lt M X d1_60 (by decide) rfl rfl (fun q1 => ?_) (fun q1 => ?_)
  · skip
    exact tl1_70 l Z a0 hw M X u0 (by rw [T1_56, if_pos q1] at hP; exact hP)
  · skip
    refine own_iloadN M X d1_63 rfl rfl ?_
    refine own_sipush M X (v := (8191 : Int32)) d1_64 rfl rfl ?_
    refine own_icmp_le M X d1_67 (by decide) rfl rfl (fun q2 => ?_) (fun q2 => ?_)
    · skip
      refine own_iconst M X (v := (1 : Int32)) d1_161 rfl rfl ?_
      refine own_goto M X d1_162 (by decide) rfl ?_
      exact own_retN M X (z' := (1 : Int32)) (by simp) d1_166 rfl (by rw [T1_56, if_neg q1, if_neg q2] at hP; exact hP)
    · skip
      exact tl1_70 l Z a0 hw M X u0 (by rw [T1_56, if_neg q1, if_pos q2] at hP; exact hP)
def T1_42 (u0 : Int32) : Int32 := (if u0 < (880 : Int32) then (T1_56 u0) else (if (893 : Int32) < u0 then (T1_56 u0) else (1 : Int32)))
set_option maxRecDepth 65536 in
set_option maxHeartbeats 40000000 in
theorem tl1_42 (l : Launch) (Z : State) (a0 : Array Value) (hw : ∀ d ∈ tables_1, d.before a0 Z = true) {n0 : Nat} {K : own_Cx} {P : Option Value → Heap → Prop} {T : State} {h : Heap} (M : own_Mx Z a0 K prog_67_method_5_code "com/example/tracelode/tracelode/log/XmlCharacters" 1 (some .boolean) ({ frames := 0, cells := 0, slots := 0, locals := 0 } : Room)) (X : own_Sx n0 K T h 0 0) (u0 : Int32)
    (hP : P (some (.int (T1_42 u0))) h) : own_Fin n0 K P T 42 #[.val (.int u0)] [] := by
  refine own_iloadN M X d1_42 rfl rfl ?_
  refine own_sipush M X (v := (880 : Int32)) d1_43 rfl rfl ?_
  refine own_icmp_lt M X d1_46 (by decide) rfl rfl (fun q1 => ?_) (fun q1 => ?_)
  · skip
    exact tl1_56 l Z a0 hw M X u0 (by rw [T1_42, if_pos q1] at hP; exact hP)
  · skip
    refine own_iloadN M X d1_49 rfl rfl ?_
    refine own_sipush M X (v := (893 : Int32)) d1_50 rfl rfl ?_
    refine own_icmp_le M X d1_53 (by decide) rfl rfl (fun q2 => ?_) (fun q2 => ?_)
    · skip
      refine own_iconst M X (v := (1 : Int32)) d1_161 rfl rfl ?_
      refine own_goto M X d1_162 (by decide) rfl ?_
      exact own_retN M X (z' := (1 : Int32)) (by simp) d1_166 rfl (by rw [T1_42, if_neg q1, if_neg q2] at hP; exact hP)
    · skip
      exact tl1_56 l Z a0 hw M X u0 (by rw [T1_42, if_neg q1, if_pos q2] at hP; exact hP)
def T1_28 (u0 : Int32) : Int32 := (if u0 < (248 : Int32) then (T1_42 u0) else (if (767 : Int32) < u0 then (T1_42 u0) else (1 : Int32)))
set_option maxRecDepth 65536 in
set_option maxHeartbeats 40000000 in
theorem tl1_28 (l : Launch) (Z : State) (a0 : Array Value) (hw : ∀ d ∈ tables_1, d.before a0 Z = true) {n0 : Nat} {K : own_Cx} {P : Option Value → Heap → Prop} {T : State} {h : Heap} (M : own_Mx Z a0 K prog_67_method_5_code "com/example/tracelode/tracelode/log/XmlCharacters" 1 (some .boolean) ({ frames := 0, cells := 0, slots := 0, locals := 0 } : Room)) (X : own_Sx n0 K T h 0 0) (u0 : Int32)
    (hP : P (some (.int (T1_28 u0))) h) : own_Fin n0 K P T 28 #[.val (.int u0)] [] := by
  refine own_iloadN M X d1_28 rfl rfl ?_
  refine own_sipush M X (v := (248 : Int32)) d1_29 rfl rfl ?_
  refine own_icmp_lt M X d1_32 (by decide) rfl rfl (fun q1 => ?_) (fun q1 => ?_)
  · skip
    exact tl1_42 l Z a0 hw M X u0 (by rw [T1_28, if_pos q1] at hP; exact hP)
  · skip
    refine own_iloadN M X d1_35 rfl rfl ?_
    refine own_sipush M X (v := (767 : Int32)) d1_36 rfl rfl ?_
    refine own_icmp_le M X d1_39 (by decide) rfl rfl (fun q2 => ?_) (fun q2 => ?_)
    · skip
      refine own_iconst M X (v := (1 : Int32)) d1_161 rfl rfl ?_
      refine own_goto M X d1_162 (by decide) rfl ?_
      exact own_retN M X (z' := (1 : Int32)) (by simp) d1_166 rfl (by rw [T1_28, if_neg q1, if_neg q2] at hP; exact hP)
    · skip
      exact tl1_42 l Z a0 hw M X u0 (by rw [T1_28, if_neg q1, if_pos q2] at hP; exact hP)
def T1_14 (u0 : Int32) : Int32 := (if u0 < (216 : Int32) then (T1_28 u0) else (if (246 : Int32) < u0 then (T1_28 u0) else (1 : Int32)))
set_option maxRecDepth 65536 in
set_option maxHeartbeats 40000000 in
theorem tl1_14 (l : Launch) (Z : State) (a0 : Array Value) (hw : ∀ d ∈ tables_1, d.before a0 Z = true) {n0 : Nat} {K : own_Cx} {P : Option Value → Heap → Prop} {T : State} {h : Heap} (M : own_Mx Z a0 K prog_67_method_5_code "com/example/tracelode/tracelode/log/XmlCharacters" 1 (some .boolean) ({ frames := 0, cells := 0, slots := 0, locals := 0 } : Room)) (X : own_Sx n0 K T h 0 0) (u0 : Int32)
    (hP : P (some (.int (T1_14 u0))) h) : own_Fin n0 K P T 14 #[.val (.int u0)] [] := by
  refine own_iloadN M X d1_14 rfl rfl ?_
  refine own_sipush M X (v := (216 : Int32)) d1_15 rfl rfl ?_
  refine own_icmp_lt M X d1_18 (by decide) rfl rfl (fun q1 => ?_) (fun q1 => ?_)
  · skip
    exact tl1_28 l Z a0 hw M X u0 (by rw [T1_14, if_pos q1] at hP; exact hP)
  · skip
    refine own_iloadN M X d1_21 rfl rfl ?_
    refine own_sipush M X (v := (246 : Int32)) d1_22 rfl rfl ?_
    refine own_icmp_le M X d1_25 (by decide) rfl rfl (fun q2 => ?_) (fun q2 => ?_)
    · skip
      refine own_iconst M X (v := (1 : Int32)) d1_161 rfl rfl ?_
      refine own_goto M X d1_162 (by decide) rfl ?_
      exact own_retN M X (z' := (1 : Int32)) (by simp) d1_166 rfl (by rw [T1_14, if_neg q1, if_neg q2] at hP; exact hP)
    · skip
      exact tl1_28 l Z a0 hw M X u0 (by rw [T1_14, if_neg q1, if_pos q2] at hP; exact hP)
def F1 (x0 : Int32) : Int32 := (if x0 < (192 : Int32) then (T1_14 x0) else (if (214 : Int32) < x0 then (T1_14 x0) else (1 : Int32)))
theorem own_pn1 : plainName "com/example/tracelode/tracelode/log/XmlCharacters" = true := by first | (simp [plainName, overriddenIn]; done) | decide +kernel
set_option maxRecDepth 65536 in
set_option maxHeartbeats 40000000 in
theorem met_1 (l : Launch) (Z : State) (a0 : Array Value) (hw : ∀ d ∈ tables_1, d.before a0 Z = true) (h0 : Heap) (n0 : Nat) (hn : n0 ≤ h0.size) (x0 : Int32) : own_Met l Z n0 (⟨"com/example/tracelode/tracelode/log/XmlCharacters", "isNameStart", "(I)Z"⟩ : MethodName) prog_67_method_5_code 1 (some .boolean) ({ frames := 0, cells := 0, slots := 0, locals := 0 } : Room) #[(.int x0)] h0 (fun v h => v = some (.int (F1 x0)) ∧ h = h0) := by
  refine own_enter (L := #[.val (.int x0)]) (plainFor_of_name own_pn1) hw hn (fun m => by first | (simp [entryFrame, mkF, argsToLocals, Value.category]; done) | rfl) (fun K T hK M X => ?_)
  refine own_iloadN M X d1_0 rfl rfl ?_
  refine own_sipush M X (v := (192 : Int32)) d1_1 rfl rfl ?_
  refine own_icmp_lt M X d1_4 (by decide) rfl rfl (fun q1 => ?_) (fun q1 => ?_)
  · skip
    exact tl1_14 l Z a0 hw M X x0 ⟨by rw [F1, if_pos q1], rfl⟩
  · skip
    refine own_iloadN M X d1_7 rfl rfl ?_
    refine own_sipush M X (v := (214 : Int32)) d1_8 rfl rfl ?_
    refine own_icmp_le M X d1_11 (by decide) rfl rfl (fun q2 => ?_) (fun q2 => ?_)
    · skip
      refine own_iconst M X (v := (1 : Int32)) d1_161 rfl rfl ?_
      refine own_goto M X d1_162 (by decide) rfl ?_
      exact own_retN M X (z' := (1 : Int32)) (by simp) d1_166 rfl ⟨by rw [F1, if_neg q1, if_neg q2], rfl⟩
    · skip
      exact tl1_14 l Z a0 hw M X x0 ⟨by rw [F1, if_neg q1, if_pos q2], rfl⟩
theorem d2_0 : decode method_2_code 0 = .ok (.iload_n 0, 1) := by decide +kernel
theorem d2_1 : decode method_2_code 1 = .ok (.sipush 192, 3) := by decide +kernel
theorem d2_4 : decode method_2_code 4 = .ok (.if_icmp .lt 9, 3) := by decide +kernel
theorem d2_7 : decode method_2_code 7 = .ok (.iload_n 0, 1) := by decide +kernel
theorem d2_8 : decode method_2_code 8 = .ok (.ldc 7, 2) := by decide +kernel
theorem d2_10 : decode method_2_code 10 = .ok (.if_icmp .le 5, 3) := by decide +kernel
theorem d2_13 : decode method_2_code 13 = .ok (.iconst 0, 1) := by decide +kernel
theorem d2_14 : decode method_2_code 14 = .ok (.ireturn, 1) := by decide +kernel
theorem d2_15 : decode method_2_code 15 = .ok (.iload_n 0, 1) := by decide +kernel
theorem d2_16 : decode method_2_code 16 = .ok (.sipush 215, 3) := by decide +kernel
theorem d2_19 : decode method_2_code 19 = .ok (.if_icmp .eq 10, 3) := by decide +kernel
theorem d2_22 : decode method_2_code 22 = .ok (.iload_n 0, 1) := by decide +kernel
theorem d2_23 : decode method_2_code 23 = .ok (.sipush 247, 3) := by decide +kernel
theorem d2_26 : decode method_2_code 26 = .ok (.if_icmp .ne 5, 3) := by decide +kernel
theorem d2_29 : decode method_2_code 29 = .ok (.iconst 0, 1) := by decide +kernel
theorem d2_30 : decode method_2_code 30 = .ok (.ireturn, 1) := by decide +kernel
theorem d2_31 : decode method_2_code 31 = .ok (.iload_n 0, 1) := by decide +kernel
theorem d2_32 : decode method_2_code 32 = .ok (.sipush 768, 3) := by decide +kernel
theorem d2_35 : decode method_2_code 35 = .ok (.if_icmp .lt 12, 3) := by decide +kernel
theorem d2_38 : decode method_2_code 38 = .ok (.iload_n 0, 1) := by decide +kernel
theorem d2_39 : decode method_2_code 39 = .ok (.sipush 879, 3) := by decide +kernel
theorem d2_42 : decode method_2_code 42 = .ok (.if_icmp .gt 5, 3) := by decide +kernel
theorem d2_45 : decode method_2_code 45 = .ok (.iconst 0, 1) := by decide +kernel
theorem d2_46 : decode method_2_code 46 = .ok (.ireturn, 1) := by decide +kernel
theorem d2_47 : decode method_2_code 47 = .ok (.iload_n 0, 1) := by decide +kernel
theorem d2_48 : decode method_2_code 48 = .ok (.sipush 894, 3) := by decide +kernel
theorem d2_51 : decode method_2_code 51 = .ok (.if_icmp .ne 5, 3) := by decide +kernel
theorem d2_54 : decode method_2_code 54 = .ok (.iconst 0, 1) := by decide +kernel
theorem d2_55 : decode method_2_code 55 = .ok (.ireturn, 1) := by decide +kernel
theorem d2_56 : decode method_2_code 56 = .ok (.iload_n 0, 1) := by decide +kernel
theorem d2_57 : decode method_2_code 57 = .ok (.sipush 8192, 3) := by decide +kernel
theorem d2_60 : decode method_2_code 60 = .ok (.if_icmp .lt 12, 3) := by decide +kernel
theorem d2_63 : decode method_2_code 63 = .ok (.iload_n 0, 1) := by decide +kernel
theorem d2_64 : decode method_2_code 64 = .ok (.sipush 8203, 3) := by decide +kernel
theorem d2_67 : decode method_2_code 67 = .ok (.if_icmp .gt 5, 3) := by decide +kernel
theorem d2_70 : decode method_2_code 70 = .ok (.iconst 0, 1) := by decide +kernel
theorem d2_71 : decode method_2_code 71 = .ok (.ireturn, 1) := by decide +kernel
theorem d2_72 : decode method_2_code 72 = .ok (.iload_n 0, 1) := by decide +kernel
theorem d2_73 : decode method_2_code 73 = .ok (.sipush 8206, 3) := by decide +kernel
theorem d2_76 : decode method_2_code 76 = .ok (.if_icmp .lt 12, 3) := by decide +kernel
theorem d2_79 : decode method_2_code 79 = .ok (.iload_n 0, 1) := by decide +kernel
theorem d2_80 : decode method_2_code 80 = .ok (.sipush 8303, 3) := by decide +kernel
theorem d2_83 : decode method_2_code 83 = .ok (.if_icmp .gt 5, 3) := by decide +kernel
theorem d2_86 : decode method_2_code 86 = .ok (.iconst 0, 1) := by decide +kernel
theorem d2_87 : decode method_2_code 87 = .ok (.ireturn, 1) := by decide +kernel
theorem d2_88 : decode method_2_code 88 = .ok (.iload_n 0, 1) := by decide +kernel
theorem d2_89 : decode method_2_code 89 = .ok (.sipush 8592, 3) := by decide +kernel
theorem d2_92 : decode method_2_code 92 = .ok (.if_icmp .lt 12, 3) := by decide +kernel
theorem d2_95 : decode method_2_code 95 = .ok (.iload_n 0, 1) := by decide +kernel
theorem d2_96 : decode method_2_code 96 = .ok (.sipush 11263, 3) := by decide +kernel
theorem d2_99 : decode method_2_code 99 = .ok (.if_icmp .gt 5, 3) := by decide +kernel
theorem d2_102 : decode method_2_code 102 = .ok (.iconst 0, 1) := by decide +kernel
theorem d2_103 : decode method_2_code 103 = .ok (.ireturn, 1) := by decide +kernel
theorem d2_104 : decode method_2_code 104 = .ok (.iload_n 0, 1) := by decide +kernel
theorem d2_105 : decode method_2_code 105 = .ok (.sipush 12272, 3) := by decide +kernel
theorem d2_108 : decode method_2_code 108 = .ok (.if_icmp .lt 12, 3) := by decide +kernel
theorem d2_111 : decode method_2_code 111 = .ok (.iload_n 0, 1) := by decide +kernel
theorem d2_112 : decode method_2_code 112 = .ok (.sipush 12288, 3) := by decide +kernel
theorem d2_115 : decode method_2_code 115 = .ok (.if_icmp .gt 5, 3) := by decide +kernel
theorem d2_118 : decode method_2_code 118 = .ok (.iconst 0, 1) := by decide +kernel
theorem d2_119 : decode method_2_code 119 = .ok (.ireturn, 1) := by decide +kernel
theorem d2_120 : decode method_2_code 120 = .ok (.iload_n 0, 1) := by decide +kernel
theorem d2_121 : decode method_2_code 121 = .ok (.ldc 8, 2) := by decide +kernel
theorem d2_123 : decode method_2_code 123 = .ok (.if_icmp .lt 11, 3) := by decide +kernel
theorem d2_126 : decode method_2_code 126 = .ok (.iload_n 0, 1) := by decide +kernel
theorem d2_127 : decode method_2_code 127 = .ok (.ldc 9, 2) := by decide +kernel
theorem d2_129 : decode method_2_code 129 = .ok (.if_icmp .gt 5, 3) := by decide +kernel
theorem d2_132 : decode method_2_code 132 = .ok (.iconst 0, 1) := by decide +kernel
theorem d2_133 : decode method_2_code 133 = .ok (.ireturn, 1) := by decide +kernel
theorem d2_134 : decode method_2_code 134 = .ok (.iload_n 0, 1) := by decide +kernel
theorem d2_135 : decode method_2_code 135 = .ok (.ldc 10, 2) := by decide +kernel
theorem d2_137 : decode method_2_code 137 = .ok (.if_icmp .lt 11, 3) := by decide +kernel
theorem d2_140 : decode method_2_code 140 = .ok (.iload_n 0, 1) := by decide +kernel
theorem d2_141 : decode method_2_code 141 = .ok (.ldc 11, 2) := by decide +kernel
theorem d2_143 : decode method_2_code 143 = .ok (.if_icmp .gt 5, 3) := by decide +kernel
theorem d2_146 : decode method_2_code 146 = .ok (.iconst 0, 1) := by decide +kernel
theorem d2_147 : decode method_2_code 147 = .ok (.ireturn, 1) := by decide +kernel
theorem d2_148 : decode method_2_code 148 = .ok (.iload_n 0, 1) := by decide +kernel
theorem d2_149 : decode method_2_code 149 = .ok (.ldc 12, 2) := by decide +kernel
theorem d2_151 : decode method_2_code 151 = .ok (.if_icmp .lt 11, 3) := by decide +kernel
theorem d2_154 : decode method_2_code 154 = .ok (.iload_n 0, 1) := by decide +kernel
theorem d2_155 : decode method_2_code 155 = .ok (.ldc 13, 2) := by decide +kernel
theorem d2_157 : decode method_2_code 157 = .ok (.if_icmp .gt 5, 3) := by decide +kernel
theorem d2_160 : decode method_2_code 160 = .ok (.iconst 0, 1) := by decide +kernel
theorem d2_161 : decode method_2_code 161 = .ok (.ireturn, 1) := by decide +kernel
theorem d2_162 : decode method_2_code 162 = .ok (.iconst 1, 1) := by decide +kernel
theorem d2_163 : decode method_2_code 163 = .ok (.ireturn, 1) := by decide +kernel
def T2_162  : Int32 := (1 : Int32)
set_option maxRecDepth 65536 in
set_option maxHeartbeats 40000000 in
theorem tl2_162 (l : Launch) (Z : State) (a0 : Array Value) (hw : ∀ d ∈ tables_1, d.before a0 Z = true) {n0 : Nat} {K : own_Cx} {P : Option Value → Heap → Prop} {T : State} {h : Heap} (M : own_Mx Z a0 K method_2_code "com/example/tracelode/tracelode/log/XmlCharactersIsNameStartPinLaw" 1 (some .boolean) ({ frames := 0, cells := 0, slots := 0, locals := 0 } : Room)) (X : own_Sx n0 K T h 0 0) (u0 : Int32)
    (hP : P (some (.int (T2_162))) h) : own_Fin n0 K P T 162 #[.val (.int u0)] [] := by
  refine own_iconst M X (v := (1 : Int32)) d2_162 rfl rfl ?_
  exact own_retN M X (z' := (1 : Int32)) (by simp) d2_163 rfl (by rw [T2_162] at hP; exact hP)
def T2_148 (u0 : Int32) : Int32 := (if u0 < (65534 : Int32) then (T2_162) else (if (65535 : Int32) < u0 then (T2_162) else (0 : Int32)))
set_option maxRecDepth 65536 in
set_option maxHeartbeats 40000000 in
theorem tl2_148 (l : Launch) (Z : State) (a0 : Array Value) (hw : ∀ d ∈ tables_1, d.before a0 Z = true) {n0 : Nat} {K : own_Cx} {P : Option Value → Heap → Prop} {T : State} {h : Heap} (M : own_Mx Z a0 K method_2_code "com/example/tracelode/tracelode/log/XmlCharactersIsNameStartPinLaw" 1 (some .boolean) ({ frames := 0, cells := 0, slots := 0, locals := 0 } : Room)) (X : own_Sx n0 K T h 0 0) (u0 : Int32)
    (hP : P (some (.int (T2_148 u0))) h) : own_Fin n0 K P T 148 #[.val (.int u0)] [] := by
  refine own_iloadN M X d2_148 rfl rfl ?_
  refine own_ldc M X (hw _ (List.mem_of_getElem? (i := 23) rfl)) d2_149 rfl ?_
  refine own_icmp_lt M X d2_151 (by decide) rfl rfl (fun q1 => ?_) (fun q1 => ?_)
  · skip
    exact tl2_162 l Z a0 hw M X u0 (by rw [T2_148, if_pos q1] at hP; exact hP)
  · skip
    refine own_iloadN M X d2_154 rfl rfl ?_
    refine own_ldc M X (hw _ (List.mem_of_getElem? (i := 30) rfl)) d2_155 rfl ?_
    refine own_icmp_gt M X d2_157 (by decide) rfl rfl (fun q2 => ?_) (fun q2 => ?_)
    · skip
      exact tl2_162 l Z a0 hw M X u0 (by rw [T2_148, if_neg q1, if_pos q2] at hP; exact hP)
    · skip
      refine own_iconst M X (v := (0 : Int32)) d2_160 rfl rfl ?_
      exact own_retN M X (z' := (0 : Int32)) (by simp) d2_161 rfl (by rw [T2_148, if_neg q1, if_neg q2] at hP; exact hP)
def T2_134 (u0 : Int32) : Int32 := (if u0 < (64976 : Int32) then (T2_148 u0) else (if (65007 : Int32) < u0 then (T2_148 u0) else (0 : Int32)))
set_option maxRecDepth 65536 in
set_option maxHeartbeats 40000000 in
theorem tl2_134 (l : Launch) (Z : State) (a0 : Array Value) (hw : ∀ d ∈ tables_1, d.before a0 Z = true) {n0 : Nat} {K : own_Cx} {P : Option Value → Heap → Prop} {T : State} {h : Heap} (M : own_Mx Z a0 K method_2_code "com/example/tracelode/tracelode/log/XmlCharactersIsNameStartPinLaw" 1 (some .boolean) ({ frames := 0, cells := 0, slots := 0, locals := 0 } : Room)) (X : own_Sx n0 K T h 0 0) (u0 : Int32)
    (hP : P (some (.int (T2_134 u0))) h) : own_Fin n0 K P T 134 #[.val (.int u0)] [] := by
  refine own_iloadN M X d2_134 rfl rfl ?_
  refine own_ldc M X (hw _ (List.mem_of_getElem? (i := 22) rfl)) d2_135 rfl ?_
  refine own_icmp_lt M X d2_137 (by decide) rfl rfl (fun q1 => ?_) (fun q1 => ?_)
  · skip
    exact tl2_148 l Z a0 hw M X u0 (by rw [T2_134, if_pos q1] at hP; exact hP)
  · skip
    refine own_iloadN M X d2_140 rfl rfl ?_
    refine own_ldc M X (hw _ (List.mem_of_getElem? (i := 29) rfl)) d2_141 rfl ?_
    refine own_icmp_gt M X d2_143 (by decide) rfl rfl (fun q2 => ?_) (fun q2 => ?_)
    · skip
      exact tl2_148 l Z a0 hw M X u0 (by rw [T2_134, if_neg q1, if_pos q2] at hP; exact hP)
    · skip
      refine own_iconst M X (v := (0 : Int32)) d2_146 rfl rfl ?_
      exact own_retN M X (z' := (0 : Int32)) (by simp) d2_147 rfl (by rw [T2_134, if_neg q1, if_neg q2] at hP; exact hP)
def T2_120 (u0 : Int32) : Int32 := (if u0 < (55296 : Int32) then (T2_134 u0) else (if (63743 : Int32) < u0 then (T2_134 u0) else (0 : Int32)))
set_option maxRecDepth 65536 in
set_option maxHeartbeats 40000000 in
theorem tl2_120 (l : Launch) (Z : State) (a0 : Array Value) (hw : ∀ d ∈ tables_1, d.before a0 Z = true) {n0 : Nat} {K : own_Cx} {P : Option Value → Heap → Prop} {T : State} {h : Heap} (M : own_Mx Z a0 K method_2_code "com/example/tracelode/tracelode/log/XmlCharactersIsNameStartPinLaw" 1 (some .boolean) ({ frames := 0, cells := 0, slots := 0, locals := 0 } : Room)) (X : own_Sx n0 K T h 0 0) (u0 : Int32)
    (hP : P (some (.int (T2_120 u0))) h) : own_Fin n0 K P T 120 #[.val (.int u0)] [] := by
  refine own_iloadN M X d2_120 rfl rfl ?_
  refine own_ldc M X (hw _ (List.mem_of_getElem? (i := 21) rfl)) d2_121 rfl ?_
  refine own_icmp_lt M X d2_123 (by decide) rfl rfl (fun q1 => ?_) (fun q1 => ?_)
  · skip
    exact tl2_134 l Z a0 hw M X u0 (by rw [T2_120, if_pos q1] at hP; exact hP)
  · skip
    refine own_iloadN M X d2_126 rfl rfl ?_
    refine own_ldc M X (hw _ (List.mem_of_getElem? (i := 28) rfl)) d2_127 rfl ?_
    refine own_icmp_gt M X d2_129 (by decide) rfl rfl (fun q2 => ?_) (fun q2 => ?_)
    · skip
      exact tl2_134 l Z a0 hw M X u0 (by rw [T2_120, if_neg q1, if_pos q2] at hP; exact hP)
    · skip
      refine own_iconst M X (v := (0 : Int32)) d2_132 rfl rfl ?_
      exact own_retN M X (z' := (0 : Int32)) (by simp) d2_133 rfl (by rw [T2_120, if_neg q1, if_neg q2] at hP; exact hP)
def T2_104 (u0 : Int32) : Int32 := (if u0 < (12272 : Int32) then (T2_120 u0) else (if (12288 : Int32) < u0 then (T2_120 u0) else (0 : Int32)))
set_option maxRecDepth 65536 in
set_option maxHeartbeats 40000000 in
theorem tl2_104 (l : Launch) (Z : State) (a0 : Array Value) (hw : ∀ d ∈ tables_1, d.before a0 Z = true) {n0 : Nat} {K : own_Cx} {P : Option Value → Heap → Prop} {T : State} {h : Heap} (M : own_Mx Z a0 K method_2_code "com/example/tracelode/tracelode/log/XmlCharactersIsNameStartPinLaw" 1 (some .boolean) ({ frames := 0, cells := 0, slots := 0, locals := 0 } : Room)) (X : own_Sx n0 K T h 0 0) (u0 : Int32)
    (hP : P (some (.int (T2_104 u0))) h) : own_Fin n0 K P T 104 #[.val (.int u0)] [] := by
  refine own_iloadN M X d2_104 rfl rfl ?_
  refine own_sipush M X (v := (12272 : Int32)) d2_105 rfl rfl ?_
  refine own_icmp_lt M X d2_108 (by decide) rfl rfl (fun q1 => ?_) (fun q1 => ?_)
  · skip
    exact tl2_120 l Z a0 hw M X u0 (by rw [T2_104, if_pos q1] at hP; exact hP)
  · skip
    refine own_iloadN M X d2_111 rfl rfl ?_
    refine own_sipush M X (v := (12288 : Int32)) d2_112 rfl rfl ?_
    refine own_icmp_gt M X d2_115 (by decide) rfl rfl (fun q2 => ?_) (fun q2 => ?_)
    · skip
      exact tl2_120 l Z a0 hw M X u0 (by rw [T2_104, if_neg q1, if_pos q2] at hP; exact hP)
    · skip
      refine own_iconst M X (v := (0 : Int32)) d2_118 rfl rfl ?_
      exact own_retN M X (z' := (0 : Int32)) (by simp) d2_119 rfl (by rw [T2_104, if_neg q1, if_neg q2] at hP; exact hP)
def T2_88 (u0 : Int32) : Int32 := (if u0 < (8592 : Int32) then (T2_104 u0) else (if (11263 : Int32) < u0 then (T2_104 u0) else (0 : Int32)))
set_option maxRecDepth 65536 in
set_option maxHeartbeats 40000000 in
theorem tl2_88 (l : Launch) (Z : State) (a0 : Array Value) (hw : ∀ d ∈ tables_1, d.before a0 Z = true) {n0 : Nat} {K : own_Cx} {P : Option Value → Heap → Prop} {T : State} {h : Heap} (M : own_Mx Z a0 K method_2_code "com/example/tracelode/tracelode/log/XmlCharactersIsNameStartPinLaw" 1 (some .boolean) ({ frames := 0, cells := 0, slots := 0, locals := 0 } : Room)) (X : own_Sx n0 K T h 0 0) (u0 : Int32)
    (hP : P (some (.int (T2_88 u0))) h) : own_Fin n0 K P T 88 #[.val (.int u0)] [] := by
  refine own_iloadN M X d2_88 rfl rfl ?_
  refine own_sipush M X (v := (8592 : Int32)) d2_89 rfl rfl ?_
  refine own_icmp_lt M X d2_92 (by decide) rfl rfl (fun q1 => ?_) (fun q1 => ?_)
  · skip
    exact tl2_104 l Z a0 hw M X u0 (by rw [T2_88, if_pos q1] at hP; exact hP)
  · skip
    refine own_iloadN M X d2_95 rfl rfl ?_
    refine own_sipush M X (v := (11263 : Int32)) d2_96 rfl rfl ?_
    refine own_icmp_gt M X d2_99 (by decide) rfl rfl (fun q2 => ?_) (fun q2 => ?_)
    · skip
      exact tl2_104 l Z a0 hw M X u0 (by rw [T2_88, if_neg q1, if_pos q2] at hP; exact hP)
    · skip
      refine own_iconst M X (v := (0 : Int32)) d2_102 rfl rfl ?_
      exact own_retN M X (z' := (0 : Int32)) (by simp) d2_103 rfl (by rw [T2_88, if_neg q1, if_neg q2] at hP; exact hP)
def T2_72 (u0 : Int32) : Int32 := (if u0 < (8206 : Int32) then (T2_88 u0) else (if (8303 : Int32) < u0 then (T2_88 u0) else (0 : Int32)))
set_option maxRecDepth 65536 in
set_option maxHeartbeats 40000000 in
theorem tl2_72 (l : Launch) (Z : State) (a0 : Array Value) (hw : ∀ d ∈ tables_1, d.before a0 Z = true) {n0 : Nat} {K : own_Cx} {P : Option Value → Heap → Prop} {T : State} {h : Heap} (M : own_Mx Z a0 K method_2_code "com/example/tracelode/tracelode/log/XmlCharactersIsNameStartPinLaw" 1 (some .boolean) ({ frames := 0, cells := 0, slots := 0, locals := 0 } : Room)) (X : own_Sx n0 K T h 0 0) (u0 : Int32)
    (hP : P (some (.int (T2_72 u0))) h) : own_Fin n0 K P T 72 #[.val (.int u0)] [] := by
  refine own_iloadN M X d2_72 rfl rfl ?_
  refine own_sipush M X (v := (8206 : Int32)) d2_73 rfl rfl ?_
  refine own_icmp_lt M X d2_76 (by decide) rfl rfl (fun q1 => ?_) (fun q1 => ?_)
  · skip
    exact tl2_88 l Z a0 hw M X u0 (by rw [T2_72, if_pos q1] at hP; exact hP)
  · skip
    refine own_iloadN M X d2_79 rfl rfl ?_
    refine own_sipush M X (v := (8303 : Int32)) d2_80 rfl rfl ?_
    refine own_icmp_gt M X d2_83 (by decide) rfl rfl (fun q2 => ?_) (fun q2 => ?_)
    · skip
      exact tl2_88 l Z a0 hw M X u0 (by rw [T2_72, if_neg q1, if_pos q2] at hP; exact hP)
    · skip
      refine own_iconst M X (v := (0 : Int32)) d2_86 rfl rfl ?_
      exact own_retN M X (z' := (0 : Int32)) (by simp) d2_87 rfl (by rw [T2_72, if_neg q1, if_neg q2] at hP; exact hP)
def T2_56 (u0 : Int32) : Int32 := (if u0 < (8192 : Int32) then (T2_72 u0) else (if (8203 : Int32) < u0 then (T2_72 u0) else (0 : Int32)))
set_option maxRecDepth 65536 in
set_option maxHeartbeats 40000000 in
theorem tl2_56 (l : Launch) (Z : State) (a0 : Array Value) (hw : ∀ d ∈ tables_1, d.before a0 Z = true) {n0 : Nat} {K : own_Cx} {P : Option Value → Heap → Prop} {T : State} {h : Heap} (M : own_Mx Z a0 K method_2_code "com/example/tracelode/tracelode/log/XmlCharactersIsNameStartPinLaw" 1 (some .boolean) ({ frames := 0, cells := 0, slots := 0, locals := 0 } : Room)) (X : own_Sx n0 K T h 0 0) (u0 : Int32)
    (hP : P (some (.int (T2_56 u0))) h) : own_Fin n0 K P T 56 #[.val (.int u0)] [] := by
  refine own_iloadN M X d2_56 rfl rfl ?_
  refine own_sipush M X (v := (8192 : Int32)) d2_57 rfl rfl ?_
  refine own_icmp_lt M X d2_60 (by decide) rfl rfl (fun q1 => ?_) (fun q1 => ?_)
  · skip
    exact tl2_72 l Z a0 hw M X u0 (by rw [T2_56, if_pos q1] at hP; exact hP)
  · skip
    refine own_iloadN M X d2_63 rfl rfl ?_
    refine own_sipush M X (v := (8203 : Int32)) d2_64 rfl rfl ?_
    refine own_icmp_gt M X d2_67 (by decide) rfl rfl (fun q2 => ?_) (fun q2 => ?_)
    · skip
      exact tl2_72 l Z a0 hw M X u0 (by rw [T2_56, if_neg q1, if_pos q2] at hP; exact hP)
    · skip
      refine own_iconst M X (v := (0 : Int32)) d2_70 rfl rfl ?_
      exact own_retN M X (z' := (0 : Int32)) (by simp) d2_71 rfl (by rw [T2_56, if_neg q1, if_neg q2] at hP; exact hP)
def T2_47 (u0 : Int32) : Int32 := (if u0 = (894 : Int32) then (0 : Int32) else (T2_56 u0))
set_option maxRecDepth 65536 in
set_option maxHeartbeats 40000000 in
theorem tl2_47 (l : Launch) (Z : State) (a0 : Array Value) (hw : ∀ d ∈ tables_1, d.before a0 Z = true) {n0 : Nat} {K : own_Cx} {P : Option Value → Heap → Prop} {T : State} {h : Heap} (M : own_Mx Z a0 K method_2_code "com/example/tracelode/tracelode/log/XmlCharactersIsNameStartPinLaw" 1 (some .boolean) ({ frames := 0, cells := 0, slots := 0, locals := 0 } : Room)) (X : own_Sx n0 K T h 0 0) (u0 : Int32)
    (hP : P (some (.int (T2_47 u0))) h) : own_Fin n0 K P T 47 #[.val (.int u0)] [] := by
  refine own_iloadN M X d2_47 rfl rfl ?_
  refine own_sipush M X (v := (894 : Int32)) d2_48 rfl rfl ?_
  refine own_icmp_ne M X d2_51 (by decide) rfl rfl (fun q1 => ?_) (fun q1 => ?_)
  · skip
    exact tl2_56 l Z a0 hw M X u0 (by rw [T2_47, if_neg q1] at hP; exact hP)
  · skip
    refine own_iconst M X (v := (0 : Int32)) d2_54 rfl rfl ?_
    exact own_retN M X (z' := (0 : Int32)) (by simp) d2_55 rfl (by rw [T2_47, if_pos q1] at hP; exact hP)
def F2 (x0 : Int32) : Int32 := (if x0 < (192 : Int32) then (0 : Int32) else (if (983039 : Int32) < x0 then (0 : Int32) else (if x0 = (215 : Int32) then (0 : Int32) else (if x0 = (247 : Int32) then (0 : Int32) else (if x0 < (768 : Int32) then (T2_47 x0) else (if (879 : Int32) < x0 then (T2_47 x0) else (0 : Int32)))))))
theorem own_pn2 : plainName "com/example/tracelode/tracelode/log/XmlCharactersIsNameStartPinLaw" = true := by first | (simp [plainName, overriddenIn]; done) | decide +kernel
set_option maxRecDepth 65536 in
set_option maxHeartbeats 40000000 in
theorem met_2 (l : Launch) (Z : State) (a0 : Array Value) (hw : ∀ d ∈ tables_1, d.before a0 Z = true) (h0 : Heap) (n0 : Nat) (hn : n0 ≤ h0.size) (x0 : Int32) : own_Met l Z n0 (⟨"com/example/tracelode/tracelode/log/XmlCharactersIsNameStartPinLaw", "ref", "(I)Z"⟩ : MethodName) method_2_code 1 (some .boolean) ({ frames := 0, cells := 0, slots := 0, locals := 0 } : Room) #[(.int x0)] h0 (fun v h => v = some (.int (F2 x0)) ∧ h = h0) := by
  refine own_enter (L := #[.val (.int x0)]) (plainFor_of_name own_pn2) hw hn (fun m => by first | (simp [entryFrame, mkF, argsToLocals, Value.category]; done) | rfl) (fun K T hK M X => ?_)
  refine own_iloadN M X d2_0 rfl rfl ?_
  refine own_sipush M X (v := (192 : Int32)) d2_1 rfl rfl ?_
  refine own_icmp_lt M X d2_4 (by decide) rfl rfl (fun q1 => ?_) (fun q1 => ?_)
  · skip
    refine own_iconst M X (v := (0 : Int32)) d2_13 rfl rfl ?_
    exact own_retN M X (z' := (0 : Int32)) (by simp) d2_14 rfl ⟨by rw [F2, if_pos q1], rfl⟩
  · skip
    refine own_iloadN M X d2_7 rfl rfl ?_
    refine own_ldc M X (hw _ (List.mem_of_getElem? (i := 7) rfl)) d2_8 rfl ?_
    refine own_icmp_le M X d2_10 (by decide) rfl rfl (fun q2 => ?_) (fun q2 => ?_)
    · skip
      refine own_iloadN M X d2_15 rfl rfl ?_
      refine own_sipush M X (v := (215 : Int32)) d2_16 rfl rfl ?_
      refine own_icmp_eq M X d2_19 (by decide) rfl rfl (fun q3 => ?_) (fun q3 => ?_)
      · skip
        refine own_iconst M X (v := (0 : Int32)) d2_29 rfl rfl ?_
        exact own_retN M X (z' := (0 : Int32)) (by simp) d2_30 rfl ⟨by rw [F2, if_neg q1, if_neg q2, if_pos q3], rfl⟩
      · skip
        refine own_iloadN M X d2_22 rfl rfl ?_
        refine own_sipush M X (v := (247 : Int32)) d2_23 rfl rfl ?_
        refine own_icmp_ne M X d2_26 (by decide) rfl rfl (fun q4 => ?_) (fun q4 => ?_)
        · skip
          refine own_iloadN M X d2_31 rfl rfl ?_
          refine own_sipush M X (v := (768 : Int32)) d2_32 rfl rfl ?_
          refine own_icmp_lt M X d2_35 (by decide) rfl rfl (fun q5 => ?_) (fun q5 => ?_)
          · skip
            exact tl2_47 l Z a0 hw M X x0 ⟨by rw [F2, if_neg q1, if_neg q2, if_neg q3, if_neg q4, if_pos q5], rfl⟩
          · skip
            refine own_iloadN M X d2_38 rfl rfl ?_
            refine own_sipush M X (v := (879 : Int32)) d2_39 rfl rfl ?_
            refine own_icmp_gt M X d2_42 (by decide) rfl rfl (fun q6 => ?_) (fun q6 => ?_)
            · skip
              exact tl2_47 l Z a0 hw M X x0 ⟨by rw [F2, if_neg q1, if_neg q2, if_neg q3, if_neg q4, if_neg q5, if_pos q6], rfl⟩
            · skip
              refine own_iconst M X (v := (0 : Int32)) d2_45 rfl rfl ?_
              exact own_retN M X (z' := (0 : Int32)) (by simp) d2_46 rfl ⟨by rw [F2, if_neg q1, if_neg q2, if_neg q3, if_neg q4, if_neg q5, if_neg q6], rfl⟩
        · skip
          refine own_iconst M X (v := (0 : Int32)) d2_29 rfl rfl ?_
          exact own_retN M X (z' := (0 : Int32)) (by simp) d2_30 rfl ⟨by rw [F2, if_neg q1, if_neg q2, if_neg q3, if_pos q4], rfl⟩
    · skip
      refine own_iconst M X (v := (0 : Int32)) d2_13 rfl rfl ?_
      exact own_retN M X (z' := (0 : Int32)) (by simp) d2_14 rfl ⟨by rw [F2, if_neg q1, if_pos q2], rfl⟩
theorem own_ix (x : Int32) : ((x &&& (2147483647 : Int32)) % (24 : Int32)).toInt = (((x &&& (2147483647 : Int32)) % (24 : Int32)).toInt.toNat : Int) ∧ ((x &&& (2147483647 : Int32)) % (24 : Int32)).toInt.toNat < 24 := by
  have e1 : (x &&& 2147483647).toInt = x.toInt % 2 ^ 31 := Jvm.Kit.i32_mask x 2147483647 (k := 31) (by decide) (by decide)
  have e2 : ((x &&& 2147483647) % 24).toInt = (x &&& 2147483647).toInt % 24 := Jvm.Kit.i32_rem_nonneg (by omega)
  omega
def g0_185_l6 (u0 : Int32) : Int32 := (if (F1 u0) = (F2 u0) then (1 : Int32) else (0 : Int32))
set_option maxRecDepth 65536 in
set_option maxHeartbeats 40000000 in
theorem sg0_185 (l : Launch) (Z : State) (a0 : Array Value) (hw : ∀ d ∈ tables_1, d.before a0 Z = true) {n0 : Nat} {K : own_Cx} {P : Option Value → Heap → Prop} {T : State} {h : Heap} {cl sl : Nat} (M : own_Mx Z a0 K code "com/example/tracelode/tracelode/log/XmlCharactersIsNameStartPinLaw" maxLocals ret room_1) (X : own_Sx n0 K T h cl sl) (u0 : Int32) (u1 : Int32) (u2 : Int32) (u3 : Addr) (u4 : Int32) (u5 : Int32)
    (hr : ∀ T', own_Sx n0 K T' h cl sl → own_Fin n0 K P T' 203 #[.val (.int u0), .val (.int u1), .val (.int u2), .val (.ref u3), .val (.int u4), .val (.int u5), .val (.int (g0_185_l6 u0)), .unset, .unset] []) : own_Fin n0 K P T 185 #[.val (.int u0), .val (.int u1), .val (.int u2), .val (.ref u3), .val (.int u4), .val (.int u5), .unset, .unset, .unset] [] := by
  refine own_iloadN M X at_185 rfl rfl ?_
  refine own_callP M X (yrm := ({ frames := 0, cells := 0, slots := 0, locals := 0 } : Room)) [(.int u0)] (hw _ (List.mem_of_getElem? (i := 10) rfl)) (hw _ (List.mem_of_getElem? (i := 11) rfl)) (hw _ (List.mem_of_getElem? (i := 12) rfl)) (hw _ (List.mem_of_getElem? (i := 13) rfl)) (by decide) (met_1 _ Z a0 hw h n0 X.size u0) rfl at_186 rfl own_pd0 rfl rfl 0 (Nat.le_of_eq rfl) (by decide) (by decide) rfl rfl ?_
  intro T1 X2
  refine own_iloadN M X2 at_189 rfl rfl ?_
  refine own_callP M X2 (yrm := ({ frames := 0, cells := 0, slots := 0, locals := 0 } : Room)) [(.int u0)] (hw _ (List.mem_of_getElem? (i := 17) rfl)) (hw _ (List.mem_of_getElem? (i := 18) rfl)) (hw _ (List.mem_of_getElem? (i := 19) rfl)) (hw _ (List.mem_of_getElem? (i := 20) rfl)) (by decide) (met_2 _ Z a0 hw h n0 X2.size u0) rfl at_190 rfl own_pd0 rfl rfl 1 (Nat.le_of_eq rfl) (by decide) (by decide) rfl rfl ?_
  intro T3 X4
  refine own_icmp_ne M X4 at_193 (by decide) rfl rfl (fun q5 => ?_) (fun q5 => ?_)
  · skip
    refine own_iconst M X4 (v := (0 : Int32)) at_200 rfl rfl ?_
    refine own_istore M X4 (L' := #[.val (.int u0), .val (.int u1), .val (.int u2), .val (.ref u3), .val (.int u4), .val (.int u5), .val (.int (0 : Int32)), .unset, .unset]) at_201 rfl rfl ?_
    have hr1 := hr T3 X4
    rw [g0_185_l6, if_neg q5] at hr1
    exact hr1
  · skip
    refine own_iconst M X4 (v := (1 : Int32)) at_196 rfl rfl ?_
    refine own_goto M X4 at_197 (by decide) rfl ?_
    refine own_istore M X4 (L' := #[.val (.int u0), .val (.int u1), .val (.int u2), .val (.ref u3), .val (.int u4), .val (.int u5), .val (.int (1 : Int32)), .unset, .unset]) at_201 rfl rfl ?_
    have hr1 := hr T3 X4
    rw [g0_185_l6, if_pos q5] at hr1
    exact hr1
def g0_203_l7 (u4 : Int32) : Int32 := (if (F1 u4) = (F2 u4) then (1 : Int32) else (0 : Int32))
set_option maxRecDepth 65536 in
set_option maxHeartbeats 40000000 in
theorem sg0_203 (l : Launch) (Z : State) (a0 : Array Value) (hw : ∀ d ∈ tables_1, d.before a0 Z = true) {n0 : Nat} {K : own_Cx} {P : Option Value → Heap → Prop} {T : State} {h : Heap} {cl sl : Nat} (M : own_Mx Z a0 K code "com/example/tracelode/tracelode/log/XmlCharactersIsNameStartPinLaw" maxLocals ret room_1) (X : own_Sx n0 K T h cl sl) (u0 : Int32) (u1 : Int32) (u2 : Int32) (u3 : Addr) (u4 : Int32) (u5 : Int32) (u6 : Int32)
    (hr : ∀ T', own_Sx n0 K T' h cl sl → own_Fin n0 K P T' 223 #[.val (.int u0), .val (.int u1), .val (.int u2), .val (.ref u3), .val (.int u4), .val (.int u5), .val (.int u6), .val (.int (g0_203_l7 u4)), .unset] []) : own_Fin n0 K P T 203 #[.val (.int u0), .val (.int u1), .val (.int u2), .val (.ref u3), .val (.int u4), .val (.int u5), .val (.int u6), .unset, .unset] [] := by
  refine own_iload M X at_203 rfl rfl ?_
  refine own_callP M X (yrm := ({ frames := 0, cells := 0, slots := 0, locals := 0 } : Room)) [(.int u4)] (hw _ (List.mem_of_getElem? (i := 10) rfl)) (hw _ (List.mem_of_getElem? (i := 11) rfl)) (hw _ (List.mem_of_getElem? (i := 12) rfl)) (hw _ (List.mem_of_getElem? (i := 13) rfl)) (by decide) (met_1 _ Z a0 hw h n0 X.size u4) rfl at_205 rfl own_pd0 rfl rfl 0 (Nat.le_of_eq rfl) (by decide) (by decide) rfl rfl ?_
  intro T1 X2
  refine own_iload M X2 at_208 rfl rfl ?_
  refine own_callP M X2 (yrm := ({ frames := 0, cells := 0, slots := 0, locals := 0 } : Room)) [(.int u4)] (hw _ (List.mem_of_getElem? (i := 17) rfl)) (hw _ (List.mem_of_getElem? (i := 18) rfl)) (hw _ (List.mem_of_getElem? (i := 19) rfl)) (hw _ (List.mem_of_getElem? (i := 20) rfl)) (by decide) (met_2 _ Z a0 hw h n0 X2.size u4) rfl at_210 rfl own_pd0 rfl rfl 1 (Nat.le_of_eq rfl) (by decide) (by decide) rfl rfl ?_
  intro T3 X4
  refine own_icmp_ne M X4 at_213 (by decide) rfl rfl (fun q5 => ?_) (fun q5 => ?_)
  · skip
    refine own_iconst M X4 (v := (0 : Int32)) at_220 rfl rfl ?_
    refine own_istore M X4 (L' := #[.val (.int u0), .val (.int u1), .val (.int u2), .val (.ref u3), .val (.int u4), .val (.int u5), .val (.int u6), .val (.int (0 : Int32)), .unset]) at_221 rfl rfl ?_
    have hr1 := hr T3 X4
    rw [g0_203_l7, if_neg q5] at hr1
    exact hr1
  · skip
    refine own_iconst M X4 (v := (1 : Int32)) at_216 rfl rfl ?_
    refine own_goto M X4 at_217 (by decide) rfl ?_
    refine own_istore M X4 (L' := #[.val (.int u0), .val (.int u1), .val (.int u2), .val (.ref u3), .val (.int u4), .val (.int u5), .val (.int u6), .val (.int (1 : Int32)), .unset]) at_221 rfl rfl ?_
    have hr1 := hr T3 X4
    rw [g0_203_l7, if_pos q5] at hr1
    exact hr1
def g0_223_l8 (u5 : Int32) : Int32 := (if (F1 u5) = (F2 u5) then (1 : Int32) else (0 : Int32))
set_option maxRecDepth 65536 in
set_option maxHeartbeats 40000000 in
theorem sg0_223 (l : Launch) (Z : State) (a0 : Array Value) (hw : ∀ d ∈ tables_1, d.before a0 Z = true) {n0 : Nat} {K : own_Cx} {P : Option Value → Heap → Prop} {T : State} {h : Heap} {cl sl : Nat} (M : own_Mx Z a0 K code "com/example/tracelode/tracelode/log/XmlCharactersIsNameStartPinLaw" maxLocals ret room_1) (X : own_Sx n0 K T h cl sl) (u0 : Int32) (u1 : Int32) (u2 : Int32) (u3 : Addr) (u4 : Int32) (u5 : Int32) (u6 : Int32) (u7 : Int32)
    (hr : ∀ T', own_Sx n0 K T' h cl sl → own_Fin n0 K P T' 243 #[.val (.int u0), .val (.int u1), .val (.int u2), .val (.ref u3), .val (.int u4), .val (.int u5), .val (.int u6), .val (.int u7), .val (.int (g0_223_l8 u5))] []) : own_Fin n0 K P T 223 #[.val (.int u0), .val (.int u1), .val (.int u2), .val (.ref u3), .val (.int u4), .val (.int u5), .val (.int u6), .val (.int u7), .unset] [] := by
  refine own_iload M X at_223 rfl rfl ?_
  refine own_callP M X (yrm := ({ frames := 0, cells := 0, slots := 0, locals := 0 } : Room)) [(.int u5)] (hw _ (List.mem_of_getElem? (i := 10) rfl)) (hw _ (List.mem_of_getElem? (i := 11) rfl)) (hw _ (List.mem_of_getElem? (i := 12) rfl)) (hw _ (List.mem_of_getElem? (i := 13) rfl)) (by decide) (met_1 _ Z a0 hw h n0 X.size u5) rfl at_225 rfl own_pd0 rfl rfl 0 (Nat.le_of_eq rfl) (by decide) (by decide) rfl rfl ?_
  intro T1 X2
  refine own_iload M X2 at_228 rfl rfl ?_
  refine own_callP M X2 (yrm := ({ frames := 0, cells := 0, slots := 0, locals := 0 } : Room)) [(.int u5)] (hw _ (List.mem_of_getElem? (i := 17) rfl)) (hw _ (List.mem_of_getElem? (i := 18) rfl)) (hw _ (List.mem_of_getElem? (i := 19) rfl)) (hw _ (List.mem_of_getElem? (i := 20) rfl)) (by decide) (met_2 _ Z a0 hw h n0 X2.size u5) rfl at_230 rfl own_pd0 rfl rfl 1 (Nat.le_of_eq rfl) (by decide) (by decide) rfl rfl ?_
  intro T3 X4
  refine own_icmp_ne M X4 at_233 (by decide) rfl rfl (fun q5 => ?_) (fun q5 => ?_)
  · skip
    refine own_iconst M X4 (v := (0 : Int32)) at_240 rfl rfl ?_
    refine own_istore M X4 (L' := #[.val (.int u0), .val (.int u1), .val (.int u2), .val (.ref u3), .val (.int u4), .val (.int u5), .val (.int u6), .val (.int u7), .val (.int (0 : Int32))]) at_241 rfl rfl ?_
    have hr1 := hr T3 X4
    rw [g0_223_l8, if_neg q5] at hr1
    exact hr1
  · skip
    refine own_iconst M X4 (v := (1 : Int32)) at_236 rfl rfl ?_
    refine own_goto M X4 at_237 (by decide) rfl ?_
    refine own_istore M X4 (L' := #[.val (.int u0), .val (.int u1), .val (.int u2), .val (.ref u3), .val (.int u4), .val (.int u5), .val (.int u6), .val (.int u7), .val (.int (1 : Int32))]) at_241 rfl rfl ?_
    have hr1 := hr T3 X4
    rw [g0_223_l8, if_pos q5] at hr1
    exact hr1
def T0_185 (u0 : Int32) (u4 : Int32) (u5 : Int32) : Int32 := (if (g0_185_l6 u0) = (0 : Int32) then (0 : Int32) else (if (g0_203_l7 u4) = (0 : Int32) then (0 : Int32) else (if (g0_223_l8 u5) = (0 : Int32) then (0 : Int32) else (1 : Int32))))
set_option maxRecDepth 65536 in
set_option maxHeartbeats 40000000 in
theorem tl0_185 (l : Launch) (Z : State) (a0 : Array Value) (hw : ∀ d ∈ tables_1, d.before a0 Z = true) {n0 : Nat} {K : own_Cx} {P : Option Value → Heap → Prop} {T : State} {h : Heap} (M : own_Mx Z a0 K code "com/example/tracelode/tracelode/log/XmlCharactersIsNameStartPinLaw" maxLocals ret room_1) (X : own_Sx n0 K T h 1 24) (u0 : Int32) (u1 : Int32) (u2 : Int32) (u3 : Addr) (u4 : Int32) (u5 : Int32)
    (hP : P (some (.int (T0_185 u0 u4 u5))) h) : own_Fin n0 K P T 185 #[.val (.int u0), .val (.int u1), .val (.int u2), .val (.ref u3), .val (.int u4), .val (.int u5), .unset, .unset, .unset] [] := by
  refine sg0_185 l Z a0 hw M X u0 u1 u2 u3 u4 u5 (fun T1 X2 => ?_)
  refine sg0_203 l Z a0 hw M X2 u0 u1 u2 u3 u4 u5 (g0_185_l6 u0) (fun T3 X4 => ?_)
  refine sg0_223 l Z a0 hw M X4 u0 u1 u2 u3 u4 u5 (g0_185_l6 u0) (g0_203_l7 u4) (fun T5 X6 => ?_)
  refine own_iload M X6 at_243 rfl rfl ?_
  refine own_if_eq M X6 at_245 (by decide) rfl rfl (fun q7 => ?_) (fun q7 => ?_)
  · skip
    refine own_iconst M X6 (v := (0 : Int32)) at_262 rfl rfl ?_
    exact own_retN M X6 (z' := (0 : Int32)) (by simp) at_263 rfl (by rw [T0_185, if_pos q7] at hP; exact hP)
  · skip
    refine own_iload M X6 at_248 rfl rfl ?_
    refine own_if_eq M X6 at_250 (by decide) rfl rfl (fun q8 => ?_) (fun q8 => ?_)
    · skip
      refine own_iconst M X6 (v := (0 : Int32)) at_262 rfl rfl ?_
      exact own_retN M X6 (z' := (0 : Int32)) (by simp) at_263 rfl (by rw [T0_185, if_neg q7, if_pos q8] at hP; exact hP)
    · skip
      refine own_iload M X6 at_253 rfl rfl ?_
      refine own_if_eq M X6 at_255 (by decide) rfl rfl (fun q9 => ?_) (fun q9 => ?_)
      · skip
        refine own_iconst M X6 (v := (0 : Int32)) at_262 rfl rfl ?_
        exact own_retN M X6 (z' := (0 : Int32)) (by simp) at_263 rfl (by rw [T0_185, if_neg q7, if_neg q8, if_pos q9] at hP; exact hP)
      · skip
        refine own_iconst M X6 (v := (1 : Int32)) at_258 rfl rfl ?_
        refine own_goto M X6 at_259 (by decide) rfl ?_
        exact own_retN M X6 (z' := (1 : Int32)) (by simp) at_263 rfl (by rw [T0_185, if_neg q7, if_neg q8, if_neg q9] at hP; exact hP)
def F0 (x0 : Int32) (x1 : Int32) (x2 : Int32) : Int32 := (T0_185 x0 ((([(192 : Int32), (214 : Int32), (216 : Int32), (246 : Int32), (248 : Int32), (767 : Int32), (880 : Int32), (893 : Int32), (895 : Int32), (8191 : Int32), (8204 : Int32), (8205 : Int32), (8304 : Int32), (8591 : Int32), (11264 : Int32), (12271 : Int32), (12289 : Int32), (55295 : Int32), (63744 : Int32), (64975 : Int32), (65008 : Int32), (65533 : Int32), (65536 : Int32), (983039 : Int32)] : List Int32).getD (((x1 &&& (2147483647 : Int32)) % (24 : Int32))).toInt.toNat 0) + ((x2 &&& (3 : Int32)) - (1 : Int32))) (((x2.toUInt32 >>> ((2 : Int32) &&& 31).toUInt32).toInt32) &&& (1048575 : Int32)))
theorem own_pn0 : plainName "com/example/tracelode/tracelode/log/XmlCharactersIsNameStartPinLaw" = true := by first | (simp [plainName, overriddenIn]; done) | decide +kernel
set_option maxRecDepth 65536 in
set_option maxHeartbeats 40000000 in
theorem met_0 (l : Launch) (Z : State) (a0 : Array Value) (hw : ∀ d ∈ tables_1, d.before a0 Z = true) (h0 : Heap) (n0 : Nat) (hn : n0 ≤ h0.size) (x0 : Int32) (x1 : Int32) (x2 : Int32) : own_Met l Z n0 x code maxLocals ret room_1 #[(.int x0), (.int x1), (.int x2)] h0 (fun v h => v = some (.int (F0 x0 x1 x2))) := by
  refine own_enter (L := #[.val (.int x0), .val (.int x1), .val (.int x2), .unset, .unset, .unset, .unset, .unset, .unset]) (plainFor_of_name own_pn0) hw hn (fun m => by first | (simp [entryFrame, mkF, argsToLocals, Value.category, maxLocals]; done) | rfl) (fun K T hK M X => ?_)
  refine own_bipush M X (v := (24 : Int32)) at_0 rfl rfl ?_
  refine own_newarray M X (n := 24) 24 (hw _ (List.mem_of_getElem? (i := 0) rfl)) at_2 rfl (by decide) (by decide) (by decide) (by decide) (by decide) ?_
  intro T1 h2 a3 ge4 gs5 X6 E7 V8
  replace V8 : own_Va Z h2 a3 .int 24 (own_lsi [(0 : Int32), (0 : Int32), (0 : Int32), (0 : Int32), (0 : Int32), (0 : Int32), (0 : Int32), (0 : Int32), (0 : Int32), (0 : Int32), (0 : Int32), (0 : Int32), (0 : Int32), (0 : Int32), (0 : Int32), (0 : Int32), (0 : Int32), (0 : Int32), (0 : Int32), (0 : Int32), (0 : Int32), (0 : Int32), (0 : Int32), (0 : Int32)]) := V8.congr (own_zeroi _ _ rfl)
  refine own_dup M X6 at_4 rfl rfl ?_
  refine own_iconst M X6 (v := (0 : Int32)) at_5 rfl rfl ?_
  refine own_sipush M X6 (v := (192 : Int32)) at_6 rfl rfl ?_
  refine own_iastore M X6 V8 ge4 (i := 0) (by decide) (by decide) at_9 rfl ?_
  intro T9 h10 X11 K12 V13
  replace V13 : own_Va Z h10 a3 .int 24 (own_lsi [(192 : Int32), (0 : Int32), (0 : Int32), (0 : Int32), (0 : Int32), (0 : Int32), (0 : Int32), (0 : Int32), (0 : Int32), (0 : Int32), (0 : Int32), (0 : Int32), (0 : Int32), (0 : Int32), (0 : Int32), (0 : Int32), (0 : Int32), (0 : Int32), (0 : Int32), (0 : Int32), (0 : Int32), (0 : Int32), (0 : Int32), (0 : Int32)]) := V13.congr (own_seti rfl (by simp))
  refine own_dup M X11 at_10 rfl rfl ?_
  refine own_iconst M X11 (v := (1 : Int32)) at_11 rfl rfl ?_
  refine own_sipush M X11 (v := (214 : Int32)) at_12 rfl rfl ?_
  refine own_iastore M X11 V13 ge4 (i := 1) (by decide) (by decide) at_15 rfl ?_
  intro T14 h15 X16 K17 V18
  replace V18 : own_Va Z h15 a3 .int 24 (own_lsi [(192 : Int32), (214 : Int32), (0 : Int32), (0 : Int32), (0 : Int32), (0 : Int32), (0 : Int32), (0 : Int32), (0 : Int32), (0 : Int32), (0 : Int32), (0 : Int32), (0 : Int32), (0 : Int32), (0 : Int32), (0 : Int32), (0 : Int32), (0 : Int32), (0 : Int32), (0 : Int32), (0 : Int32), (0 : Int32), (0 : Int32), (0 : Int32)]) := V18.congr (own_seti rfl (by simp))
  refine own_dup M X16 at_16 rfl rfl ?_
  refine own_iconst M X16 (v := (2 : Int32)) at_17 rfl rfl ?_
  refine own_sipush M X16 (v := (216 : Int32)) at_18 rfl rfl ?_
  refine own_iastore M X16 V18 ge4 (i := 2) (by decide) (by decide) at_21 rfl ?_
  intro T19 h20 X21 K22 V23
  replace V23 : own_Va Z h20 a3 .int 24 (own_lsi [(192 : Int32), (214 : Int32), (216 : Int32), (0 : Int32), (0 : Int32), (0 : Int32), (0 : Int32), (0 : Int32), (0 : Int32), (0 : Int32), (0 : Int32), (0 : Int32), (0 : Int32), (0 : Int32), (0 : Int32), (0 : Int32), (0 : Int32), (0 : Int32), (0 : Int32), (0 : Int32), (0 : Int32), (0 : Int32), (0 : Int32), (0 : Int32)]) := V23.congr (own_seti rfl (by simp))
  refine own_dup M X21 at_22 rfl rfl ?_
  refine own_iconst M X21 (v := (3 : Int32)) at_23 rfl rfl ?_
  refine own_sipush M X21 (v := (246 : Int32)) at_24 rfl rfl ?_
  refine own_iastore M X21 V23 ge4 (i := 3) (by decide) (by decide) at_27 rfl ?_
  intro T24 h25 X26 K27 V28
  replace V28 : own_Va Z h25 a3 .int 24 (own_lsi [(192 : Int32), (214 : Int32), (216 : Int32), (246 : Int32), (0 : Int32), (0 : Int32), (0 : Int32), (0 : Int32), (0 : Int32), (0 : Int32), (0 : Int32), (0 : Int32), (0 : Int32), (0 : Int32), (0 : Int32), (0 : Int32), (0 : Int32), (0 : Int32), (0 : Int32), (0 : Int32), (0 : Int32), (0 : Int32), (0 : Int32), (0 : Int32)]) := V28.congr (own_seti rfl (by simp))
  refine own_dup M X26 at_28 rfl rfl ?_
  refine own_iconst M X26 (v := (4 : Int32)) at_29 rfl rfl ?_
  refine own_sipush M X26 (v := (248 : Int32)) at_30 rfl rfl ?_
  refine own_iastore M X26 V28 ge4 (i := 4) (by decide) (by decide) at_33 rfl ?_
  intro T29 h30 X31 K32 V33
  replace V33 : own_Va Z h30 a3 .int 24 (own_lsi [(192 : Int32), (214 : Int32), (216 : Int32), (246 : Int32), (248 : Int32), (0 : Int32), (0 : Int32), (0 : Int32), (0 : Int32), (0 : Int32), (0 : Int32), (0 : Int32), (0 : Int32), (0 : Int32), (0 : Int32), (0 : Int32), (0 : Int32), (0 : Int32), (0 : Int32), (0 : Int32), (0 : Int32), (0 : Int32), (0 : Int32), (0 : Int32)]) := V33.congr (own_seti rfl (by simp))
  refine own_dup M X31 at_34 rfl rfl ?_
  refine own_iconst M X31 (v := (5 : Int32)) at_35 rfl rfl ?_
  refine own_sipush M X31 (v := (767 : Int32)) at_36 rfl rfl ?_
  refine own_iastore M X31 V33 ge4 (i := 5) (by decide) (by decide) at_39 rfl ?_
  intro T34 h35 X36 K37 V38
  replace V38 : own_Va Z h35 a3 .int 24 (own_lsi [(192 : Int32), (214 : Int32), (216 : Int32), (246 : Int32), (248 : Int32), (767 : Int32), (0 : Int32), (0 : Int32), (0 : Int32), (0 : Int32), (0 : Int32), (0 : Int32), (0 : Int32), (0 : Int32), (0 : Int32), (0 : Int32), (0 : Int32), (0 : Int32), (0 : Int32), (0 : Int32), (0 : Int32), (0 : Int32), (0 : Int32), (0 : Int32)]) := V38.congr (own_seti rfl (by simp))
  refine own_dup M X36 at_40 rfl rfl ?_
  refine own_bipush M X36 (v := (6 : Int32)) at_41 rfl rfl ?_
  refine own_sipush M X36 (v := (880 : Int32)) at_43 rfl rfl ?_
  refine own_iastore M X36 V38 ge4 (i := 6) (by decide) (by decide) at_46 rfl ?_
  intro T39 h40 X41 K42 V43
  replace V43 : own_Va Z h40 a3 .int 24 (own_lsi [(192 : Int32), (214 : Int32), (216 : Int32), (246 : Int32), (248 : Int32), (767 : Int32), (880 : Int32), (0 : Int32), (0 : Int32), (0 : Int32), (0 : Int32), (0 : Int32), (0 : Int32), (0 : Int32), (0 : Int32), (0 : Int32), (0 : Int32), (0 : Int32), (0 : Int32), (0 : Int32), (0 : Int32), (0 : Int32), (0 : Int32), (0 : Int32)]) := V43.congr (own_seti rfl (by simp))
  refine own_dup M X41 at_47 rfl rfl ?_
  refine own_bipush M X41 (v := (7 : Int32)) at_48 rfl rfl ?_
  refine own_sipush M X41 (v := (893 : Int32)) at_50 rfl rfl ?_
  refine own_iastore M X41 V43 ge4 (i := 7) (by decide) (by decide) at_53 rfl ?_
  intro T44 h45 X46 K47 V48
  replace V48 : own_Va Z h45 a3 .int 24 (own_lsi [(192 : Int32), (214 : Int32), (216 : Int32), (246 : Int32), (248 : Int32), (767 : Int32), (880 : Int32), (893 : Int32), (0 : Int32), (0 : Int32), (0 : Int32), (0 : Int32), (0 : Int32), (0 : Int32), (0 : Int32), (0 : Int32), (0 : Int32), (0 : Int32), (0 : Int32), (0 : Int32), (0 : Int32), (0 : Int32), (0 : Int32), (0 : Int32)]) := V48.congr (own_seti rfl (by simp))
  refine own_dup M X46 at_54 rfl rfl ?_
  refine own_bipush M X46 (v := (8 : Int32)) at_55 rfl rfl ?_
  refine own_sipush M X46 (v := (895 : Int32)) at_57 rfl rfl ?_
  refine own_iastore M X46 V48 ge4 (i := 8) (by decide) (by decide) at_60 rfl ?_
  intro T49 h50 X51 K52 V53
  replace V53 : own_Va Z h50 a3 .int 24 (own_lsi [(192 : Int32), (214 : Int32), (216 : Int32), (246 : Int32), (248 : Int32), (767 : Int32), (880 : Int32), (893 : Int32), (895 : Int32), (0 : Int32), (0 : Int32), (0 : Int32), (0 : Int32), (0 : Int32), (0 : Int32), (0 : Int32), (0 : Int32), (0 : Int32), (0 : Int32), (0 : Int32), (0 : Int32), (0 : Int32), (0 : Int32), (0 : Int32)]) := V53.congr (own_seti rfl (by simp))
  refine own_dup M X51 at_61 rfl rfl ?_
  refine own_bipush M X51 (v := (9 : Int32)) at_62 rfl rfl ?_
  refine own_sipush M X51 (v := (8191 : Int32)) at_64 rfl rfl ?_
  refine own_iastore M X51 V53 ge4 (i := 9) (by decide) (by decide) at_67 rfl ?_
  intro T54 h55 X56 K57 V58
  replace V58 : own_Va Z h55 a3 .int 24 (own_lsi [(192 : Int32), (214 : Int32), (216 : Int32), (246 : Int32), (248 : Int32), (767 : Int32), (880 : Int32), (893 : Int32), (895 : Int32), (8191 : Int32), (0 : Int32), (0 : Int32), (0 : Int32), (0 : Int32), (0 : Int32), (0 : Int32), (0 : Int32), (0 : Int32), (0 : Int32), (0 : Int32), (0 : Int32), (0 : Int32), (0 : Int32), (0 : Int32)]) := V58.congr (own_seti rfl (by simp))
  refine own_dup M X56 at_68 rfl rfl ?_
  refine own_bipush M X56 (v := (10 : Int32)) at_69 rfl rfl ?_
  refine own_sipush M X56 (v := (8204 : Int32)) at_71 rfl rfl ?_
  refine own_iastore M X56 V58 ge4 (i := 10) (by decide) (by decide) at_74 rfl ?_
  intro T59 h60 X61 K62 V63
  replace V63 : own_Va Z h60 a3 .int 24 (own_lsi [(192 : Int32), (214 : Int32), (216 : Int32), (246 : Int32), (248 : Int32), (767 : Int32), (880 : Int32), (893 : Int32), (895 : Int32), (8191 : Int32), (8204 : Int32), (0 : Int32), (0 : Int32), (0 : Int32), (0 : Int32), (0 : Int32), (0 : Int32), (0 : Int32), (0 : Int32), (0 : Int32), (0 : Int32), (0 : Int32), (0 : Int32), (0 : Int32)]) := V63.congr (own_seti rfl (by simp))
  refine own_dup M X61 at_75 rfl rfl ?_
  refine own_bipush M X61 (v := (11 : Int32)) at_76 rfl rfl ?_
  refine own_sipush M X61 (v := (8205 : Int32)) at_78 rfl rfl ?_
  refine own_iastore M X61 V63 ge4 (i := 11) (by decide) (by decide) at_81 rfl ?_
  intro T64 h65 X66 K67 V68
  replace V68 : own_Va Z h65 a3 .int 24 (own_lsi [(192 : Int32), (214 : Int32), (216 : Int32), (246 : Int32), (248 : Int32), (767 : Int32), (880 : Int32), (893 : Int32), (895 : Int32), (8191 : Int32), (8204 : Int32), (8205 : Int32), (0 : Int32), (0 : Int32), (0 : Int32), (0 : Int32), (0 : Int32), (0 : Int32), (0 : Int32), (0 : Int32), (0 : Int32), (0 : Int32), (0 : Int32), (0 : Int32)]) := V68.congr (own_seti rfl (by simp))
  refine own_dup M X66 at_82 rfl rfl ?_
  refine own_bipush M X66 (v := (12 : Int32)) at_83 rfl rfl ?_
  refine own_sipush M X66 (v := (8304 : Int32)) at_85 rfl rfl ?_
  refine own_iastore M X66 V68 ge4 (i := 12) (by decide) (by decide) at_88 rfl ?_
  intro T69 h70 X71 K72 V73
  replace V73 : own_Va Z h70 a3 .int 24 (own_lsi [(192 : Int32), (214 : Int32), (216 : Int32), (246 : Int32), (248 : Int32), (767 : Int32), (880 : Int32), (893 : Int32), (895 : Int32), (8191 : Int32), (8204 : Int32), (8205 : Int32), (8304 : Int32), (0 : Int32), (0 : Int32), (0 : Int32), (0 : Int32), (0 : Int32), (0 : Int32), (0 : Int32), (0 : Int32), (0 : Int32), (0 : Int32), (0 : Int32)]) := V73.congr (own_seti rfl (by simp))
  refine own_dup M X71 at_89 rfl rfl ?_
  refine own_bipush M X71 (v := (13 : Int32)) at_90 rfl rfl ?_
  refine own_sipush M X71 (v := (8591 : Int32)) at_92 rfl rfl ?_
  refine own_iastore M X71 V73 ge4 (i := 13) (by decide) (by decide) at_95 rfl ?_
  intro T74 h75 X76 K77 V78
  replace V78 : own_Va Z h75 a3 .int 24 (own_lsi [(192 : Int32), (214 : Int32), (216 : Int32), (246 : Int32), (248 : Int32), (767 : Int32), (880 : Int32), (893 : Int32), (895 : Int32), (8191 : Int32), (8204 : Int32), (8205 : Int32), (8304 : Int32), (8591 : Int32), (0 : Int32), (0 : Int32), (0 : Int32), (0 : Int32), (0 : Int32), (0 : Int32), (0 : Int32), (0 : Int32), (0 : Int32), (0 : Int32)]) := V78.congr (own_seti rfl (by simp))
  refine own_dup M X76 at_96 rfl rfl ?_
  refine own_bipush M X76 (v := (14 : Int32)) at_97 rfl rfl ?_
  refine own_sipush M X76 (v := (11264 : Int32)) at_99 rfl rfl ?_
  refine own_iastore M X76 V78 ge4 (i := 14) (by decide) (by decide) at_102 rfl ?_
  intro T79 h80 X81 K82 V83
  replace V83 : own_Va Z h80 a3 .int 24 (own_lsi [(192 : Int32), (214 : Int32), (216 : Int32), (246 : Int32), (248 : Int32), (767 : Int32), (880 : Int32), (893 : Int32), (895 : Int32), (8191 : Int32), (8204 : Int32), (8205 : Int32), (8304 : Int32), (8591 : Int32), (11264 : Int32), (0 : Int32), (0 : Int32), (0 : Int32), (0 : Int32), (0 : Int32), (0 : Int32), (0 : Int32), (0 : Int32), (0 : Int32)]) := V83.congr (own_seti rfl (by simp))
  refine own_dup M X81 at_103 rfl rfl ?_
  refine own_bipush M X81 (v := (15 : Int32)) at_104 rfl rfl ?_
  refine own_sipush M X81 (v := (12271 : Int32)) at_106 rfl rfl ?_
  refine own_iastore M X81 V83 ge4 (i := 15) (by decide) (by decide) at_109 rfl ?_
  intro T84 h85 X86 K87 V88
  replace V88 : own_Va Z h85 a3 .int 24 (own_lsi [(192 : Int32), (214 : Int32), (216 : Int32), (246 : Int32), (248 : Int32), (767 : Int32), (880 : Int32), (893 : Int32), (895 : Int32), (8191 : Int32), (8204 : Int32), (8205 : Int32), (8304 : Int32), (8591 : Int32), (11264 : Int32), (12271 : Int32), (0 : Int32), (0 : Int32), (0 : Int32), (0 : Int32), (0 : Int32), (0 : Int32), (0 : Int32), (0 : Int32)]) := V88.congr (own_seti rfl (by simp))
  refine own_dup M X86 at_110 rfl rfl ?_
  refine own_bipush M X86 (v := (16 : Int32)) at_111 rfl rfl ?_
  refine own_sipush M X86 (v := (12289 : Int32)) at_113 rfl rfl ?_
  refine own_iastore M X86 V88 ge4 (i := 16) (by decide) (by decide) at_116 rfl ?_
  intro T89 h90 X91 K92 V93
  replace V93 : own_Va Z h90 a3 .int 24 (own_lsi [(192 : Int32), (214 : Int32), (216 : Int32), (246 : Int32), (248 : Int32), (767 : Int32), (880 : Int32), (893 : Int32), (895 : Int32), (8191 : Int32), (8204 : Int32), (8205 : Int32), (8304 : Int32), (8591 : Int32), (11264 : Int32), (12271 : Int32), (12289 : Int32), (0 : Int32), (0 : Int32), (0 : Int32), (0 : Int32), (0 : Int32), (0 : Int32), (0 : Int32)]) := V93.congr (own_seti rfl (by simp))
  refine own_dup M X91 at_117 rfl rfl ?_
  refine own_bipush M X91 (v := (17 : Int32)) at_118 rfl rfl ?_
  refine own_ldc M X91 (hw _ (List.mem_of_getElem? (i := 1) rfl)) at_120 rfl ?_
  refine own_iastore M X91 V93 ge4 (i := 17) (by decide) (by decide) at_122 rfl ?_
  intro T94 h95 X96 K97 V98
  replace V98 : own_Va Z h95 a3 .int 24 (own_lsi [(192 : Int32), (214 : Int32), (216 : Int32), (246 : Int32), (248 : Int32), (767 : Int32), (880 : Int32), (893 : Int32), (895 : Int32), (8191 : Int32), (8204 : Int32), (8205 : Int32), (8304 : Int32), (8591 : Int32), (11264 : Int32), (12271 : Int32), (12289 : Int32), (55295 : Int32), (0 : Int32), (0 : Int32), (0 : Int32), (0 : Int32), (0 : Int32), (0 : Int32)]) := V98.congr (own_seti rfl (by simp))
  refine own_dup M X96 at_123 rfl rfl ?_
  refine own_bipush M X96 (v := (18 : Int32)) at_124 rfl rfl ?_
  refine own_ldc M X96 (hw _ (List.mem_of_getElem? (i := 2) rfl)) at_126 rfl ?_
  refine own_iastore M X96 V98 ge4 (i := 18) (by decide) (by decide) at_128 rfl ?_
  intro T99 h100 X101 K102 V103
  replace V103 : own_Va Z h100 a3 .int 24 (own_lsi [(192 : Int32), (214 : Int32), (216 : Int32), (246 : Int32), (248 : Int32), (767 : Int32), (880 : Int32), (893 : Int32), (895 : Int32), (8191 : Int32), (8204 : Int32), (8205 : Int32), (8304 : Int32), (8591 : Int32), (11264 : Int32), (12271 : Int32), (12289 : Int32), (55295 : Int32), (63744 : Int32), (0 : Int32), (0 : Int32), (0 : Int32), (0 : Int32), (0 : Int32)]) := V103.congr (own_seti rfl (by simp))
  refine own_dup M X101 at_129 rfl rfl ?_
  refine own_bipush M X101 (v := (19 : Int32)) at_130 rfl rfl ?_
  refine own_ldc M X101 (hw _ (List.mem_of_getElem? (i := 3) rfl)) at_132 rfl ?_
  refine own_iastore M X101 V103 ge4 (i := 19) (by decide) (by decide) at_134 rfl ?_
  intro T104 h105 X106 K107 V108
  replace V108 : own_Va Z h105 a3 .int 24 (own_lsi [(192 : Int32), (214 : Int32), (216 : Int32), (246 : Int32), (248 : Int32), (767 : Int32), (880 : Int32), (893 : Int32), (895 : Int32), (8191 : Int32), (8204 : Int32), (8205 : Int32), (8304 : Int32), (8591 : Int32), (11264 : Int32), (12271 : Int32), (12289 : Int32), (55295 : Int32), (63744 : Int32), (64975 : Int32), (0 : Int32), (0 : Int32), (0 : Int32), (0 : Int32)]) := V108.congr (own_seti rfl (by simp))
  refine own_dup M X106 at_135 rfl rfl ?_
  refine own_bipush M X106 (v := (20 : Int32)) at_136 rfl rfl ?_
  refine own_ldc M X106 (hw _ (List.mem_of_getElem? (i := 4) rfl)) at_138 rfl ?_
  refine own_iastore M X106 V108 ge4 (i := 20) (by decide) (by decide) at_140 rfl ?_
  intro T109 h110 X111 K112 V113
  replace V113 : own_Va Z h110 a3 .int 24 (own_lsi [(192 : Int32), (214 : Int32), (216 : Int32), (246 : Int32), (248 : Int32), (767 : Int32), (880 : Int32), (893 : Int32), (895 : Int32), (8191 : Int32), (8204 : Int32), (8205 : Int32), (8304 : Int32), (8591 : Int32), (11264 : Int32), (12271 : Int32), (12289 : Int32), (55295 : Int32), (63744 : Int32), (64975 : Int32), (65008 : Int32), (0 : Int32), (0 : Int32), (0 : Int32)]) := V113.congr (own_seti rfl (by simp))
  refine own_dup M X111 at_141 rfl rfl ?_
  refine own_bipush M X111 (v := (21 : Int32)) at_142 rfl rfl ?_
  refine own_ldc M X111 (hw _ (List.mem_of_getElem? (i := 5) rfl)) at_144 rfl ?_
  refine own_iastore M X111 V113 ge4 (i := 21) (by decide) (by decide) at_146 rfl ?_
  intro T114 h115 X116 K117 V118
  replace V118 : own_Va Z h115 a3 .int 24 (own_lsi [(192 : Int32), (214 : Int32), (216 : Int32), (246 : Int32), (248 : Int32), (767 : Int32), (880 : Int32), (893 : Int32), (895 : Int32), (8191 : Int32), (8204 : Int32), (8205 : Int32), (8304 : Int32), (8591 : Int32), (11264 : Int32), (12271 : Int32), (12289 : Int32), (55295 : Int32), (63744 : Int32), (64975 : Int32), (65008 : Int32), (65533 : Int32), (0 : Int32), (0 : Int32)]) := V118.congr (own_seti rfl (by simp))
  refine own_dup M X116 at_147 rfl rfl ?_
  refine own_bipush M X116 (v := (22 : Int32)) at_148 rfl rfl ?_
  refine own_ldc M X116 (hw _ (List.mem_of_getElem? (i := 6) rfl)) at_150 rfl ?_
  refine own_iastore M X116 V118 ge4 (i := 22) (by decide) (by decide) at_152 rfl ?_
  intro T119 h120 X121 K122 V123
  replace V123 : own_Va Z h120 a3 .int 24 (own_lsi [(192 : Int32), (214 : Int32), (216 : Int32), (246 : Int32), (248 : Int32), (767 : Int32), (880 : Int32), (893 : Int32), (895 : Int32), (8191 : Int32), (8204 : Int32), (8205 : Int32), (8304 : Int32), (8591 : Int32), (11264 : Int32), (12271 : Int32), (12289 : Int32), (55295 : Int32), (63744 : Int32), (64975 : Int32), (65008 : Int32), (65533 : Int32), (65536 : Int32), (0 : Int32)]) := V123.congr (own_seti rfl (by simp))
  refine own_dup M X121 at_153 rfl rfl ?_
  refine own_bipush M X121 (v := (23 : Int32)) at_154 rfl rfl ?_
  refine own_ldc M X121 (hw _ (List.mem_of_getElem? (i := 7) rfl)) at_156 rfl ?_
  refine own_iastore M X121 V123 ge4 (i := 23) (by decide) (by decide) at_158 rfl ?_
  intro T124 h125 X126 K127 V128
  replace V128 : own_Va Z h125 a3 .int 24 (own_lsi [(192 : Int32), (214 : Int32), (216 : Int32), (246 : Int32), (248 : Int32), (767 : Int32), (880 : Int32), (893 : Int32), (895 : Int32), (8191 : Int32), (8204 : Int32), (8205 : Int32), (8304 : Int32), (8591 : Int32), (11264 : Int32), (12271 : Int32), (12289 : Int32), (55295 : Int32), (63744 : Int32), (64975 : Int32), (65008 : Int32), (65533 : Int32), (65536 : Int32), (983039 : Int32)]) := V128.congr (own_seti rfl (by simp))
  refine own_astoreN M X126 (L' := #[.val (.int x0), .val (.int x1), .val (.int x2), .val (.ref a3), .unset, .unset, .unset, .unset, .unset]) at_159 rfl rfl rfl ?_
  refine own_aloadN M X126 at_160 rfl rfl rfl ?_
  refine own_iloadN M X126 at_161 rfl rfl ?_
  refine own_ldc M X126 (hw _ (List.mem_of_getElem? (i := 8) rfl)) at_162 rfl ?_
  refine own_iand M X126 at_164 rfl ?_
  refine own_bipush M X126 (v := (24 : Int32)) at_165 rfl rfl ?_
  refine own_irem M X126 at_167 (by decide) rfl ?_
  refine own_iaload M X126 V128 (i := (((x1 &&& (2147483647 : Int32)) % (24 : Int32))).toInt.toNat) (own_ix x1).1 (own_ix x1).2 rfl at_168 rfl ?_
  refine own_iloadN M X126 at_169 rfl rfl ?_
  refine own_iconst M X126 (v := (3 : Int32)) at_170 rfl rfl ?_
  refine own_iand M X126 at_171 rfl ?_
  refine own_iconst M X126 (v := (1 : Int32)) at_172 rfl rfl ?_
  refine own_isub M X126 at_173 rfl ?_
  refine own_iadd M X126 at_174 rfl ?_
  refine own_istore M X126 (L' := #[.val (.int x0), .val (.int x1), .val (.int x2), .val (.ref a3), .val (.int ((([(192 : Int32), (214 : Int32), (216 : Int32), (246 : Int32), (248 : Int32), (767 : Int32), (880 : Int32), (893 : Int32), (895 : Int32), (8191 : Int32), (8204 : Int32), (8205 : Int32), (8304 : Int32), (8591 : Int32), (11264 : Int32), (12271 : Int32), (12289 : Int32), (55295 : Int32), (63744 : Int32), (64975 : Int32), (65008 : Int32), (65533 : Int32), (65536 : Int32), (983039 : Int32)] : List Int32).getD (((x1 &&& (2147483647 : Int32)) % (24 : Int32))).toInt.toNat 0) + ((x2 &&& (3 : Int32)) - (1 : Int32)))), .unset, .unset, .unset, .unset]) at_175 rfl rfl ?_
  refine own_iloadN M X126 at_177 rfl rfl ?_
  refine own_iconst M X126 (v := (2 : Int32)) at_178 rfl rfl ?_
  refine own_iushr M X126 at_179 rfl ?_
  refine own_ldc M X126 (hw _ (List.mem_of_getElem? (i := 9) rfl)) at_180 rfl ?_
  refine own_iand M X126 at_182 rfl ?_
  refine own_istore M X126 (L' := #[.val (.int x0), .val (.int x1), .val (.int x2), .val (.ref a3), .val (.int ((([(192 : Int32), (214 : Int32), (216 : Int32), (246 : Int32), (248 : Int32), (767 : Int32), (880 : Int32), (893 : Int32), (895 : Int32), (8191 : Int32), (8204 : Int32), (8205 : Int32), (8304 : Int32), (8591 : Int32), (11264 : Int32), (12271 : Int32), (12289 : Int32), (55295 : Int32), (63744 : Int32), (64975 : Int32), (65008 : Int32), (65533 : Int32), (65536 : Int32), (983039 : Int32)] : List Int32).getD (((x1 &&& (2147483647 : Int32)) % (24 : Int32))).toInt.toNat 0) + ((x2 &&& (3 : Int32)) - (1 : Int32)))), .val (.int (((x2.toUInt32 >>> ((2 : Int32) &&& 31).toUInt32).toInt32) &&& (1048575 : Int32))), .unset, .unset, .unset]) at_183 rfl rfl ?_
  exact tl0_185 l Z a0 hw M X126 x0 x1 x2 a3 ((([(192 : Int32), (214 : Int32), (216 : Int32), (246 : Int32), (248 : Int32), (767 : Int32), (880 : Int32), (893 : Int32), (895 : Int32), (8191 : Int32), (8204 : Int32), (8205 : Int32), (8304 : Int32), (8591 : Int32), (11264 : Int32), (12271 : Int32), (12289 : Int32), (55295 : Int32), (63744 : Int32), (64975 : Int32), (65008 : Int32), (65533 : Int32), (65536 : Int32), (983039 : Int32)] : List Int32).getD (((x1 &&& (2147483647 : Int32)) % (24 : Int32))).toInt.toNat 0) + ((x2 &&& (3 : Int32)) - (1 : Int32))) (((x2.toUInt32 >>> ((2 : Int32) &&& 31).toUInt32).toInt32) &&& (1048575 : Int32)) (by rw [F0])
def own_in (c : Int) : Prop := (192 ≤ c ∧ c ≤ 214) ∨ (216 ≤ c ∧ c ≤ 246) ∨ (248 ≤ c ∧ c ≤ 767) ∨ (880 ≤ c ∧ c ≤ 893) ∨ (895 ≤ c ∧ c ≤ 8191) ∨ (8204 ≤ c ∧ c ≤ 8205) ∨ (8304 ≤ c ∧ c ≤ 8591) ∨ (11264 ≤ c ∧ c ≤ 12271) ∨ (12289 ≤ c ∧ c ≤ 55295) ∨ (63744 ≤ c ∧ c ≤ 64975) ∨ (65008 ≤ c ∧ c ≤ 65533) ∨ (65536 ≤ c ∧ c ≤ 983039)
theorem own_T1_149 (c : Int32) : T1_149 c = if (65536 ≤ c.toInt ∧ c.toInt ≤ 983039) then 1 else 0 := by
  unfold T1_149
  simp only [Int32.lt_iff_toInt_lt, show (65536 : Int32).toInt = 65536 from by decide, show (983039 : Int32).toInt = 983039 from by decide]
  repeat' split
  all_goals first | rfl | omega
theorem own_T1_137 (c : Int32) : T1_137 c = if (65008 ≤ c.toInt ∧ c.toInt ≤ 65533) ∨ (65536 ≤ c.toInt ∧ c.toInt ≤ 983039) then 1 else 0 := by
  unfold T1_137
  rw [own_T1_149]
  simp only [Int32.lt_iff_toInt_lt, show (65008 : Int32).toInt = 65008 from by decide, show (65533 : Int32).toInt = 65533 from by decide]
  repeat' split
  all_goals first | rfl | omega
theorem own_T1_125 (c : Int32) : T1_125 c = if (63744 ≤ c.toInt ∧ c.toInt ≤ 64975) ∨ (65008 ≤ c.toInt ∧ c.toInt ≤ 65533) ∨ (65536 ≤ c.toInt ∧ c.toInt ≤ 983039) then 1 else 0 := by
  unfold T1_125
  rw [own_T1_137]
  simp only [Int32.lt_iff_toInt_lt, show (63744 : Int32).toInt = 63744 from by decide, show (64975 : Int32).toInt = 64975 from by decide]
  repeat' split
  all_goals first | rfl | omega
theorem own_T1_112 (c : Int32) : T1_112 c = if (12289 ≤ c.toInt ∧ c.toInt ≤ 55295) ∨ (63744 ≤ c.toInt ∧ c.toInt ≤ 64975) ∨ (65008 ≤ c.toInt ∧ c.toInt ≤ 65533) ∨ (65536 ≤ c.toInt ∧ c.toInt ≤ 983039) then 1 else 0 := by
  unfold T1_112
  rw [own_T1_125]
  simp only [Int32.lt_iff_toInt_lt, show (12289 : Int32).toInt = 12289 from by decide, show (55295 : Int32).toInt = 55295 from by decide]
  repeat' split
  all_goals first | rfl | omega
theorem own_T1_98 (c : Int32) : T1_98 c = if (11264 ≤ c.toInt ∧ c.toInt ≤ 12271) ∨ (12289 ≤ c.toInt ∧ c.toInt ≤ 55295) ∨ (63744 ≤ c.toInt ∧ c.toInt ≤ 64975) ∨ (65008 ≤ c.toInt ∧ c.toInt ≤ 65533) ∨ (65536 ≤ c.toInt ∧ c.toInt ≤ 983039) then 1 else 0 := by
  unfold T1_98
  rw [own_T1_112]
  simp only [Int32.lt_iff_toInt_lt, show (11264 : Int32).toInt = 11264 from by decide, show (12271 : Int32).toInt = 12271 from by decide]
  repeat' split
  all_goals first | rfl | omega
theorem own_T1_84 (c : Int32) : T1_84 c = if (8304 ≤ c.toInt ∧ c.toInt ≤ 8591) ∨ (11264 ≤ c.toInt ∧ c.toInt ≤ 12271) ∨ (12289 ≤ c.toInt ∧ c.toInt ≤ 55295) ∨ (63744 ≤ c.toInt ∧ c.toInt ≤ 64975) ∨ (65008 ≤ c.toInt ∧ c.toInt ≤ 65533) ∨ (65536 ≤ c.toInt ∧ c.toInt ≤ 983039) then 1 else 0 := by
  unfold T1_84
  rw [own_T1_98]
  simp only [Int32.lt_iff_toInt_lt, show (8304 : Int32).toInt = 8304 from by decide, show (8591 : Int32).toInt = 8591 from by decide]
  repeat' split
  all_goals first | rfl | omega
theorem own_T1_70 (c : Int32) : T1_70 c = if (8204 ≤ c.toInt ∧ c.toInt ≤ 8205) ∨ (8304 ≤ c.toInt ∧ c.toInt ≤ 8591) ∨ (11264 ≤ c.toInt ∧ c.toInt ≤ 12271) ∨ (12289 ≤ c.toInt ∧ c.toInt ≤ 55295) ∨ (63744 ≤ c.toInt ∧ c.toInt ≤ 64975) ∨ (65008 ≤ c.toInt ∧ c.toInt ≤ 65533) ∨ (65536 ≤ c.toInt ∧ c.toInt ≤ 983039) then 1 else 0 := by
  unfold T1_70
  rw [own_T1_84]
  simp only [Int32.lt_iff_toInt_lt, show (8204 : Int32).toInt = 8204 from by decide, show (8205 : Int32).toInt = 8205 from by decide]
  repeat' split
  all_goals first | rfl | omega
theorem own_T1_56 (c : Int32) : T1_56 c = if (895 ≤ c.toInt ∧ c.toInt ≤ 8191) ∨ (8204 ≤ c.toInt ∧ c.toInt ≤ 8205) ∨ (8304 ≤ c.toInt ∧ c.toInt ≤ 8591) ∨ (11264 ≤ c.toInt ∧ c.toInt ≤ 12271) ∨ (12289 ≤ c.toInt ∧ c.toInt ≤ 55295) ∨ (63744 ≤ c.toInt ∧ c.toInt ≤ 64975) ∨ (65008 ≤ c.toInt ∧ c.toInt ≤ 65533) ∨ (65536 ≤ c.toInt ∧ c.toInt ≤ 983039) then 1 else 0 := by
  unfold T1_56
  rw [own_T1_70]
  simp only [Int32.lt_iff_toInt_lt, show (895 : Int32).toInt = 895 from by decide, show (8191 : Int32).toInt = 8191 from by decide]
  repeat' split
  all_goals first | rfl | omega
theorem own_T1_42 (c : Int32) : T1_42 c = if (880 ≤ c.toInt ∧ c.toInt ≤ 893) ∨ (895 ≤ c.toInt ∧ c.toInt ≤ 8191) ∨ (8204 ≤ c.toInt ∧ c.toInt ≤ 8205) ∨ (8304 ≤ c.toInt ∧ c.toInt ≤ 8591) ∨ (11264 ≤ c.toInt ∧ c.toInt ≤ 12271) ∨ (12289 ≤ c.toInt ∧ c.toInt ≤ 55295) ∨ (63744 ≤ c.toInt ∧ c.toInt ≤ 64975) ∨ (65008 ≤ c.toInt ∧ c.toInt ≤ 65533) ∨ (65536 ≤ c.toInt ∧ c.toInt ≤ 983039) then 1 else 0 := by
  unfold T1_42
  rw [own_T1_56]
  simp only [Int32.lt_iff_toInt_lt, show (880 : Int32).toInt = 880 from by decide, show (893 : Int32).toInt = 893 from by decide]
  repeat' split
  all_goals first | rfl | omega
theorem own_T1_28 (c : Int32) : T1_28 c = if (248 ≤ c.toInt ∧ c.toInt ≤ 767) ∨ (880 ≤ c.toInt ∧ c.toInt ≤ 893) ∨ (895 ≤ c.toInt ∧ c.toInt ≤ 8191) ∨ (8204 ≤ c.toInt ∧ c.toInt ≤ 8205) ∨ (8304 ≤ c.toInt ∧ c.toInt ≤ 8591) ∨ (11264 ≤ c.toInt ∧ c.toInt ≤ 12271) ∨ (12289 ≤ c.toInt ∧ c.toInt ≤ 55295) ∨ (63744 ≤ c.toInt ∧ c.toInt ≤ 64975) ∨ (65008 ≤ c.toInt ∧ c.toInt ≤ 65533) ∨ (65536 ≤ c.toInt ∧ c.toInt ≤ 983039) then 1 else 0 := by
  unfold T1_28
  rw [own_T1_42]
  simp only [Int32.lt_iff_toInt_lt, show (248 : Int32).toInt = 248 from by decide, show (767 : Int32).toInt = 767 from by decide]
  repeat' split
  all_goals first | rfl | omega
theorem own_T1_14 (c : Int32) : T1_14 c = if (216 ≤ c.toInt ∧ c.toInt ≤ 246) ∨ (248 ≤ c.toInt ∧ c.toInt ≤ 767) ∨ (880 ≤ c.toInt ∧ c.toInt ≤ 893) ∨ (895 ≤ c.toInt ∧ c.toInt ≤ 8191) ∨ (8204 ≤ c.toInt ∧ c.toInt ≤ 8205) ∨ (8304 ≤ c.toInt ∧ c.toInt ≤ 8591) ∨ (11264 ≤ c.toInt ∧ c.toInt ≤ 12271) ∨ (12289 ≤ c.toInt ∧ c.toInt ≤ 55295) ∨ (63744 ≤ c.toInt ∧ c.toInt ≤ 64975) ∨ (65008 ≤ c.toInt ∧ c.toInt ≤ 65533) ∨ (65536 ≤ c.toInt ∧ c.toInt ≤ 983039) then 1 else 0 := by
  unfold T1_14
  rw [own_T1_28]
  simp only [Int32.lt_iff_toInt_lt, show (216 : Int32).toInt = 216 from by decide, show (246 : Int32).toInt = 246 from by decide]
  repeat' split
  all_goals first | rfl | omega
theorem own_F1 (c : Int32) : F1 c = if (192 ≤ c.toInt ∧ c.toInt ≤ 214) ∨ (216 ≤ c.toInt ∧ c.toInt ≤ 246) ∨ (248 ≤ c.toInt ∧ c.toInt ≤ 767) ∨ (880 ≤ c.toInt ∧ c.toInt ≤ 893) ∨ (895 ≤ c.toInt ∧ c.toInt ≤ 8191) ∨ (8204 ≤ c.toInt ∧ c.toInt ≤ 8205) ∨ (8304 ≤ c.toInt ∧ c.toInt ≤ 8591) ∨ (11264 ≤ c.toInt ∧ c.toInt ≤ 12271) ∨ (12289 ≤ c.toInt ∧ c.toInt ≤ 55295) ∨ (63744 ≤ c.toInt ∧ c.toInt ≤ 64975) ∨ (65008 ≤ c.toInt ∧ c.toInt ≤ 65533) ∨ (65536 ≤ c.toInt ∧ c.toInt ≤ 983039) then 1 else 0 := by
  unfold F1
  rw [own_T1_14]
  simp only [Int32.lt_iff_toInt_lt, show (192 : Int32).toInt = 192 from by decide, show (214 : Int32).toInt = 214 from by decide]
  repeat' split
  all_goals first | rfl | omega
theorem own_T2_148 (c : Int32) : T2_148 c = if (c.toInt < 65534 ∨ 65535 < c.toInt) then 1 else 0 := by
  unfold T2_148
  unfold T2_162
  simp only [Int32.lt_iff_toInt_lt, ← Int32.toInt_inj, show (0 : Int32).toInt = 0 from by decide, show (1 : Int32).toInt = 1 from by decide, show (65534 : Int32).toInt = 65534 from by decide, show (65535 : Int32).toInt = 65535 from by decide]
  repeat' split
  all_goals first | rfl | omega
theorem own_T2_134 (c : Int32) : T2_134 c = if (c.toInt < 64976 ∨ 65007 < c.toInt) ∧ (c.toInt < 65534 ∨ 65535 < c.toInt) then 1 else 0 := by
  unfold T2_134
  rw [own_T2_148]
  simp only [Int32.lt_iff_toInt_lt, ← Int32.toInt_inj, show (0 : Int32).toInt = 0 from by decide, show (1 : Int32).toInt = 1 from by decide, show (64976 : Int32).toInt = 64976 from by decide, show (65007 : Int32).toInt = 65007 from by decide]
  repeat' split
  all_goals first | rfl | omega
theorem own_T2_120 (c : Int32) : T2_120 c = if (c.toInt < 55296 ∨ 63743 < c.toInt) ∧ (c.toInt < 64976 ∨ 65007 < c.toInt) ∧ (c.toInt < 65534 ∨ 65535 < c.toInt) then 1 else 0 := by
  unfold T2_120
  rw [own_T2_134]
  simp only [Int32.lt_iff_toInt_lt, ← Int32.toInt_inj, show (0 : Int32).toInt = 0 from by decide, show (1 : Int32).toInt = 1 from by decide, show (55296 : Int32).toInt = 55296 from by decide, show (63743 : Int32).toInt = 63743 from by decide]
  repeat' split
  all_goals first | rfl | omega
theorem own_T2_104 (c : Int32) : T2_104 c = if (c.toInt < 12272 ∨ 12288 < c.toInt) ∧ (c.toInt < 55296 ∨ 63743 < c.toInt) ∧ (c.toInt < 64976 ∨ 65007 < c.toInt) ∧ (c.toInt < 65534 ∨ 65535 < c.toInt) then 1 else 0 := by
  unfold T2_104
  rw [own_T2_120]
  simp only [Int32.lt_iff_toInt_lt, ← Int32.toInt_inj, show (0 : Int32).toInt = 0 from by decide, show (1 : Int32).toInt = 1 from by decide, show (12272 : Int32).toInt = 12272 from by decide, show (12288 : Int32).toInt = 12288 from by decide]
  repeat' split
  all_goals first | rfl | omega
theorem own_T2_88 (c : Int32) : T2_88 c = if (c.toInt < 8592 ∨ 11263 < c.toInt) ∧ (c.toInt < 12272 ∨ 12288 < c.toInt) ∧ (c.toInt < 55296 ∨ 63743 < c.toInt) ∧ (c.toInt < 64976 ∨ 65007 < c.toInt) ∧ (c.toInt < 65534 ∨ 65535 < c.toInt) then 1 else 0 := by
  unfold T2_88
  rw [own_T2_104]
  simp only [Int32.lt_iff_toInt_lt, ← Int32.toInt_inj, show (0 : Int32).toInt = 0 from by decide, show (1 : Int32).toInt = 1 from by decide, show (8592 : Int32).toInt = 8592 from by decide, show (11263 : Int32).toInt = 11263 from by decide]
  repeat' split
  all_goals first | rfl | omega
theorem own_T2_72 (c : Int32) : T2_72 c = if (c.toInt < 8206 ∨ 8303 < c.toInt) ∧ (c.toInt < 8592 ∨ 11263 < c.toInt) ∧ (c.toInt < 12272 ∨ 12288 < c.toInt) ∧ (c.toInt < 55296 ∨ 63743 < c.toInt) ∧ (c.toInt < 64976 ∨ 65007 < c.toInt) ∧ (c.toInt < 65534 ∨ 65535 < c.toInt) then 1 else 0 := by
  unfold T2_72
  rw [own_T2_88]
  simp only [Int32.lt_iff_toInt_lt, ← Int32.toInt_inj, show (0 : Int32).toInt = 0 from by decide, show (1 : Int32).toInt = 1 from by decide, show (8206 : Int32).toInt = 8206 from by decide, show (8303 : Int32).toInt = 8303 from by decide]
  repeat' split
  all_goals first | rfl | omega
theorem own_T2_56 (c : Int32) : T2_56 c = if (c.toInt < 8192 ∨ 8203 < c.toInt) ∧ (c.toInt < 8206 ∨ 8303 < c.toInt) ∧ (c.toInt < 8592 ∨ 11263 < c.toInt) ∧ (c.toInt < 12272 ∨ 12288 < c.toInt) ∧ (c.toInt < 55296 ∨ 63743 < c.toInt) ∧ (c.toInt < 64976 ∨ 65007 < c.toInt) ∧ (c.toInt < 65534 ∨ 65535 < c.toInt) then 1 else 0 := by
  unfold T2_56
  rw [own_T2_72]
  simp only [Int32.lt_iff_toInt_lt, ← Int32.toInt_inj, show (0 : Int32).toInt = 0 from by decide, show (1 : Int32).toInt = 1 from by decide, show (8192 : Int32).toInt = 8192 from by decide, show (8203 : Int32).toInt = 8203 from by decide]
  repeat' split
  all_goals first | rfl | omega
theorem own_T2_47 (c : Int32) : T2_47 c = if (c.toInt < 894 ∨ 894 < c.toInt) ∧ (c.toInt < 8192 ∨ 8203 < c.toInt) ∧ (c.toInt < 8206 ∨ 8303 < c.toInt) ∧ (c.toInt < 8592 ∨ 11263 < c.toInt) ∧ (c.toInt < 12272 ∨ 12288 < c.toInt) ∧ (c.toInt < 55296 ∨ 63743 < c.toInt) ∧ (c.toInt < 64976 ∨ 65007 < c.toInt) ∧ (c.toInt < 65534 ∨ 65535 < c.toInt) then 1 else 0 := by
  unfold T2_47
  rw [own_T2_56]
  simp only [Int32.lt_iff_toInt_lt, ← Int32.toInt_inj, show (0 : Int32).toInt = 0 from by decide, show (1 : Int32).toInt = 1 from by decide, show (894 : Int32).toInt = 894 from by decide]
  repeat' split
  all_goals first | rfl | omega
theorem own_eq (c : Int32) : F1 c = F2 c := by
  rw [own_F1]
  unfold F2
  rw [own_T2_47]
  simp only [Int32.lt_iff_toInt_lt, ← Int32.toInt_inj, show (0 : Int32).toInt = 0 from by decide, show (1 : Int32).toInt = 1 from by decide, show (192 : Int32).toInt = 192 from by decide, show (215 : Int32).toInt = 215 from by decide, show (247 : Int32).toInt = 247 from by decide, show (768 : Int32).toInt = 768 from by decide, show (879 : Int32).toInt = 879 from by decide, show (983039 : Int32).toInt = 983039 from by decide]
  repeat' split
  all_goals first | rfl | omega
theorem own_law (x0 x1 x2 : Int32) : F0 x0 x1 x2 = 1 := by
  unfold F0 T0_185 g0_185_l6 g0_203_l7 g0_223_l8
  simp only [own_eq, if_true]
  rfl
theorem own_result (x0 : Int32) (x1 : Int32) (x2 : Int32) {v : Option Value} (hv : v = some (.int (F0 x0 x1 x2))) : v = some (.int 1) := by rw [hv, own_law x0 x1 x2]
set_option maxRecDepth 65536 in
set_option maxHeartbeats 40000000 in
theorem comes_1 {Post : Tables → Env → Array Value → State → Outcome → State → Prop} (hpost : ∀ tb e args s v u, (limb_1_1.after args s (.returned v) u = true ∧ limb_1_2.after args s (.returned v) u = true ∧ True) → FrameEnd s (.returned v) u (Jvm.fieldLocs frame_1_writes args s ++ Jvm.arrayLocs frame_1_arrays args s ++ Jvm.staticLocs frame_1_statics s) 16 128 → Post tb e args s (.returned v) u) :
    ArmFor flags0 classFile x code maxLocals ret World_1 tables_1 room_1 Calls_1 rest_1 Pre_1 Post := by
  intro l hfl _ _ p e ha hc hk s m args below hf hA hF happ hP
  obtain ⟨hcalls, hrest, hpre⟩ := hP
  obtain ⟨-, -, -, hnamed, -, -, -, hat⟩ := (Spec.applies_iff hf).mp happ
  obtain ⟨hg, hn⟩ := and_e (Cond.before_iff.mp (show (Jvm.Cond.and given_1 narrow_1).before args s = true from hpre))
  obtain ⟨g1, g2⟩ := and_e hg
  obtain ⟨g3, g4⟩ := and_e g2
  obtain ⟨g5, g6⟩ := and_e g4
  obtain ⟨w0, w1, w2, rfl⟩ : ∃ w0 w1 w2 : Value, args = #[w0, w1, w2] := by
    have hs : args.size = 3 := by simpa [Cond.value, given_1] using g1
    obtain ⟨L⟩ := args
    match L, hs with
    | [w0, w1, w2], _ => exact ⟨w0, w1, w2, rfl⟩
  have hw := fun d (hd : d ∈ tables_1) => atoms_spec (ws := Jvm.Cond.code x code maxLocals ret :: tables_1) hat d (List.mem_cons_of_mem _ hd)
  obtain ⟨i0, ei0⟩ := is_v g3
  obtain rfl : w0 = (.int i0) := Option.some.inj ei0
  obtain ⟨i1, ei1⟩ := is_v g5
  obtain rfl : w1 = (.int i1) := Option.some.inj ei1
  obtain ⟨i2, ei2⟩ := is_v g6
  obtain rfl : w2 = (.int i2) := Option.some.inj ei2
  obtain ⟨n, o, h1, h2, h3, v, L, rfl, ⟨hv, N⟩, hq⟩ := met_0 l s _ hw s.heap s.heap.size (Nat.le_refl _) i0 i1 i2 tables_1 p e ha hc hk s m _ below hf ((Spec.applies_iff_loose hf).mp happ).1 ⟨rfl, State.Warmed39.refl s, rfl⟩ trivial
  obtain rfl : v = some (.int 1) := own_result i0 i1 i2 hv
  refine ⟨n, _, h1, h2, h3, hpost _ _ _ _ _ _ ⟨Cond.after_iff.mpr rfl, Cond.after_iff.mpr (eq_i res_at (Term.int_eval (1)) rfl), trivial⟩ ⟨hq.1, hq.2.1, (hq.2.2.sift fun y hy => Or.inr (N y hy)).mono (by decide) (by decide)⟩⟩
theorem main_1_1 : Claimed_1_1 := comes_1 fun _ _ _ _ _ _ h hF => ⟨h.1, hF⟩
theorem main_1_2 : Claimed_1_2 := comes_1 fun _ _ _ _ _ _ h hF => ⟨h.2.1, hF⟩
end Jvm.Pilot.@@N@@
namespace Jvm.Pilot.@@N@@
open Jvm Jvm.ClassFile Sem Op Lib Jvm.Free Jvm.Stand Jvm.Pilot.@@N@@.Jvm.D
/-! MADE BY PROGRAM (witnessworld.py) out of the Statement's table words and the real class files: 9 classes; the members and pool entries that the words name. The judged class is class 1, her method 2. -/
namespace start1
open Jvm.ClassFile
def u (s : String) : CpInfo := .utf8 (stringToUtf16 s)
/-- a pool by its gaps: so many unusable entries, then the entry; so many at the end -/
def gap : Nat → List CpInfo → List CpInfo
  | 0, r => r
  | n + 1, r => .unusable :: gap n r
def poolList (es : List (Nat × CpInfo)) (last : Nat) : List CpInfo := es.foldr (fun e r => gap e.1 (e.2 :: r)) (gap last [])
def pool (es : List (Nat × CpInfo)) (last : Nat) : Array CpInfo := ⟨poolList es last⟩
def fileOf (pool : Array CpInfo) (this : Nat) (attrs : Array Attribute := #[]) (ms : Array MethodInfo := #[]) (fl : Nat := 33) (sup : Nat := 0) (ifs : Array Nat := #[]) (fds : Array FieldInfo := #[]) : ClassFile where
  minorVersion := 0
  majorVersion := 65
  constantPool := pool
  accessFlags := fl
  thisClass := this
  superClass := sup
  interfaces := ifs
  fields := fds
  methods := ms
  attributes := attrs
def plain (name : String) (sup : Option ClassId) : Class where
  name := name
  kind := .ordinary
  loader := none
  accessFlags := 33
  super := sup
  interfaces := #[]
  cf := none
  fields := #[]
  methods := #[]
  instanceTypes := #[]
  staticTypes := #[]
  resolved := #[]
  callSites := []
  init := .initialized
  statics := none
  mirror := none

def pool0 : Array CpInfo := pool [(5, u "<init>"), (0, u "()V"), (1, .class_ 10), (1, u "java/lang/Object")] 113

def k0m0 : Method := { name := "<init>", desc := "()V", sig := { parameters := [], returnType := none }, accessFlags := 1, code := none }
/-- java/lang/Object -/
def k0 : Class := { plain "java/lang/Object" none with
  accessFlags := 33
  interfaces := #[]
  cf := some (fileOf pool0 8 #[] #[{ accessFlags := 1, nameIndex := 5, descriptorIndex := 6, attributes := #[] }] 33 0 #[] #[])
  fields := #[]
  methods := #[k0m0]
  instanceTypes := #[]
  staticTypes := #[]
  resolved := Array.replicate 124 none
  statics := none }

def pool1 : Array CpInfo := pool [(2, .class_ 4), (1, u "java/lang/Object"), (0, u "<init>"), (0, u "()V"), (0, .integer 983039), (0, .integer 55296), (0, .integer 63743), (0, .integer 64976), (0, .integer 65007), (0, .integer 65534), (0, .integer 65535), (0, .integer 55295), (0, .integer 63744), (0, .integer 64975), (0, .integer 65008), (0, .integer 65533), (0, .integer 65536), (0, .integer 2147483647), (0, .integer 1048575), (0, .methodref 23 24), (0, .class_ 25), (0, .nameAndType 26 27), (0, u "com/example/tracelode/tracelode/log/XmlCharacters"), (0, u "isNameStart"), (0, u "(I)Z"), (0, .methodref 29 30), (0, .class_ 31), (0, .nameAndType 32 27), (0, u "com/example/tracelode/tracelode/log/XmlCharactersIsNameStartPinLaw"), (0, u "ref"), (3, u "law"), (0, u "(III)Z")] 4

def k1m0 : Method := { name := "<init>", desc := "()V", sig := { parameters := [], returnType := none }, accessFlags := 2, code := none }
def k1c1 : Code := { maxStack := 2, maxLocals := 1, code := method_2_code, exceptionTable := #[], attributes := #[] }
def k1m1 : Method := { name := "ref", desc := "(I)Z", sig := { parameters := [.int], returnType := some .boolean }, accessFlags := 10, code := some k1c1 }
def k1c2 : Code := { maxStack := 4, maxLocals := 9, code := code, exceptionTable := #[], attributes := #[] }
def k1m2 : Method := { name := "law", desc := "(III)Z", sig := { parameters := [.int, .int, .int], returnType := some .boolean }, accessFlags := 9, code := some k1c2 }
/-- com/example/tracelode/tracelode/log/XmlCharactersIsNameStartPinLaw -/
def k1 : Class := { plain "com/example/tracelode/tracelode/log/XmlCharactersIsNameStartPinLaw" (some 0) with
  accessFlags := 49
  interfaces := #[]
  cf := some (fileOf pool1 29 #[] #[{ accessFlags := 2, nameIndex := 5, descriptorIndex := 6, attributes := #[] }, { accessFlags := 10, nameIndex := 32, descriptorIndex := 27, attributes := #[] }, { accessFlags := 9, nameIndex := 36, descriptorIndex := 37, attributes := #[] }] 49 2 #[] #[])
  fields := #[]
  methods := #[k1m0, k1m1, k1m2]
  instanceTypes := #[]
  staticTypes := #[]
  resolved := Array.replicate 42 none
  statics := none }

def pool2 : Array CpInfo := pool [(2, .class_ 4), (1, u "java/lang/Object"), (0, u "<init>"), (0, u "()V"), (0, .integer 65533), (0, .integer 65536), (0, .integer 55295), (2, .integer 63744), (0, .integer 64975), (0, .integer 65008), (0, .integer 983039), (1, .class_ 19), (1, u "com/example/tracelode/tracelode/log/XmlCharacters"), (0, u "isNameStart"), (0, u "(I)Z")] 12

def k2m0 : Method := { name := "<init>", desc := "()V", sig := { parameters := [], returnType := none }, accessFlags := 2, code := none }
def k2c1 : Code := { maxStack := 2, maxLocals := 1, code := prog_67_method_5_code, exceptionTable := #[], attributes := #[] }
def k2m1 : Method := { name := "isNameStart", desc := "(I)Z", sig := { parameters := [.int], returnType := some .boolean }, accessFlags := 8, code := some k2c1 }
/-- com/example/tracelode/tracelode/log/XmlCharacters -/
def k2 : Class := { plain "com/example/tracelode/tracelode/log/XmlCharacters" (some 0) with
  accessFlags := 48
  interfaces := #[]
  cf := some (fileOf pool2 17 #[] #[{ accessFlags := 2, nameIndex := 5, descriptorIndex := 6, attributes := #[] }, { accessFlags := 8, nameIndex := 20, descriptorIndex := 21, attributes := #[] }] 48 2 #[] #[])
  fields := #[]
  methods := #[k2m0, k2m1]
  instanceTypes := #[]
  staticTypes := #[]
  resolved := Array.replicate 34 none
  statics := none }

def pool3 : Array CpInfo := pool [(1, u "java/lang/Cloneable"), (0, .class_ 1), (0, u "java/lang/Object"), (0, .class_ 3)] 3

/-- java/lang/Cloneable -/
def k3 : Class := { plain "java/lang/Cloneable" (some 0) with
  accessFlags := 1537
  interfaces := #[]
  cf := some (fileOf pool3 2 #[] #[] 1537 4 #[] #[])
  fields := #[]
  methods := #[]
  instanceTypes := #[]
  staticTypes := #[]
  resolved := Array.replicate 8 none
  statics := none }

def pool4 : Array CpInfo := pool [(1, u "java/io/Serializable"), (0, .class_ 1), (0, u "java/lang/Object"), (0, .class_ 3)] 3

/-- java/io/Serializable -/
def k4 : Class := { plain "java/io/Serializable" (some 0) with
  accessFlags := 1537
  interfaces := #[]
  cf := some (fileOf pool4 2 #[] #[] 1537 4 #[] #[])
  fields := #[]
  methods := #[]
  instanceTypes := #[]
  staticTypes := #[]
  resolved := Array.replicate 8 none
  statics := none }

/-- the primitive byte -/
def k5 : Class := { plain "byte" none with kind := .primitive 'B', accessFlags := 0x411 }
/-- [B -/
def k6 : Class := { plain "[B" (some 0) with kind := .array 5 .byte, interfaces := #[3, 4], accessFlags := 1041 }

/-- the primitive int -/
def k7 : Class := { plain "int" none with kind := .primitive 'I', accessFlags := 0x411 }
/-- [I -/
def k8 : Class := { plain "[I" (some 0) with kind := .array 7 .int, interfaces := #[3, 4], accessFlags := 1041 }

def heap : Heap := #[]
def classes : Array Class := #[k0, k1, k2, k3, k4, k5, k6, k7, k8]
def interned : List (Array UInt16 × Addr) := []
def slotsUsed : Nat := 0
def theMethod : MethodId := ⟨1, 2⟩
def args0 : Array Value := #[.int 5, .int 7, .int 9]
def aboutOver (below : List Frame) : State where
  vm := { classes := classes, interned := interned.toArray }
  heap := heap
  slotsUsed := slotsUsed
  threads := #[{ frames := .invoking theMethod args0 :: below }]
def below0 : List Frame := [.native { method := ⟨0, 0⟩, args := #[] }]
def about1 : State := aboutOver below0
def p0 : Program := .bare "" "" ""
def e0 : Env := launch0.env 0 0 0
theorem w_frames : about1.frames = Frame.invoking theMethod args0 :: below0 := rfl
set_option maxRecDepth 65536 in
theorem w_args : argsFit about1.vm theMethod args0 = true := by decide +kernel
set_option maxRecDepth 65536 in
theorem w_heap : heapFits about1 = true := by decide +kernel
set_option maxRecDepth 65536 in
theorem w_runnable : about1.curStatus? = some .runnable := by decide +kernel
set_option maxRecDepth 65536 in
theorem w_alone : about1.alone = true := by decide +kernel
set_option maxRecDepth 65536 in
theorem w_named : about1.methodNamed? x = some theMethod := by decide +kernel
set_option maxRecDepth 65536 in
theorem w_hears : about1.hears theMethod below0 = true := by decide +kernel
set_option maxRecDepth 65536 in
theorem w_ripe : about1.ripe theMethod args0 below0 = true := by decide +kernel
theorem w_running : about1.status = .running := rfl
set_option maxRecDepth 65536 in
theorem w_room : about1.hasRoom e0.platform room_1 = true :=
  launch0.hasRoom_least _ room_1 (by decide +kernel) (by decide +kernel) (by decide +kernel) (by decide +kernel) (by decide +kernel) (by decide +kernel)
theorem allAtoms_all (ts : List Jvm.Cond) (a : Array Jvm.Value) (st : Jvm.State) : (allAtoms ts).before a st = ts.all (fun c => c.before a st) := by
  induction ts with
  | nil => rfl
  | cons c t ih =>
    show (Jvm.Cond.and c (allAtoms t)).before a st = _
    rw [Jvm.Cond.before_and, ih, List.all_cons]
def words1 : List Jvm.Cond := Jvm.Cond.code x code maxLocals ret :: tables_1
/-- a 'code' word, met by the world's own term for the bytes: nothing is compared byte by byte -/
theorem code_word {y : MethodName} {bytes : ByteArray} {mx : Nat} {rt : Option FieldType} {a : Array Value} {s : State} {m : MethodId} {meth : Method} {c : Code} (h1 : s.methodNamed? y = some m) (h2 : s.vm.method? m = some meth) (h3 : meth.code = some c) (h4 : c.code = bytes)
    (h5 : (c.maxLocals == mx && c.exceptionTable.isEmpty && decide (c.maxStack ≤ mostOperands) && decide (meth.sig.returnType = rt) && !meth.locks && decide (parseMethodDescriptor y.desc = some meth.sig)) = true) : (Jvm.Cond.code y bytes mx rt).before a s = true := by
  simp only [Bool.and_eq_true, beq_iff_eq, Bool.not_eq_true', decide_eq_true_eq] at h5
  obtain ⟨⟨⟨⟨⟨g1, g2⟩, g3⟩, g4⟩, g5⟩, g6⟩ := h5
  simp [Cond.before, Cond.holds, Cond.value, h1, h2, h3, h4, g1, g2, g3, g4, g5, g6]
def isCode : Jvm.Cond → Bool
  | .code _ _ _ _ => true
  | _ => false
theorem all_split {L : List Jvm.Cond} {P : Jvm.Cond → Bool} (h1 : L.all (fun c => isCode c || P c) = true) (h2 : ∀ c ∈ L.filter isCode, P c = true) : L.all P = true := by
  refine List.all_eq_true.mpr fun c hc => ?_
  have h := List.all_eq_true.mp h1 c hc
  rcases Bool.eq_false_or_eq_true (isCode c) with hi | hi
  · exact h2 c (List.mem_filter.mpr ⟨hc, hi⟩)
  · simpa [hi] using h
set_option maxRecDepth 65536 in
theorem w_c0 : (Jvm.Cond.code x code maxLocals ret).before args0 about1 = true := code_word (m := ⟨1, 2⟩) (meth := k1m2) (c := k1c2) (by decide +kernel) rfl rfl rfl (by decide +kernel)
set_option maxRecDepth 65536 in
theorem w_c1 : (Jvm.Cond.code ({ cls := "com/example/tracelode/tracelode/log/XmlCharacters", name := "isNameStart", desc := "(I)Z" } : Jvm.MethodName) prog_67_method_5_code (1 : Nat) (Option.some Jvm.ClassFile.FieldType.boolean)).before args0 about1 = true := code_word (m := ⟨2, 1⟩) (meth := k2m1) (c := k2c1) (by decide +kernel) rfl rfl rfl (by decide +kernel)
set_option maxRecDepth 65536 in
theorem w_c2 : (Jvm.Cond.code ({ cls := "com/example/tracelode/tracelode/log/XmlCharactersIsNameStartPinLaw", name := "ref", desc := "(I)Z" } : Jvm.MethodName) method_2_code (1 : Nat) (Option.some Jvm.ClassFile.FieldType.boolean)).before args0 about1 = true := code_word (m := ⟨1, 1⟩) (meth := k1m1) (c := k1c1) (by decide +kernel) rfl rfl rfl (by decide +kernel)
def codes1 : List Jvm.Cond := [Jvm.Cond.code x code maxLocals ret, Jvm.Cond.code ({ cls := "com/example/tracelode/tracelode/log/XmlCharacters", name := "isNameStart", desc := "(I)Z" } : Jvm.MethodName) prog_67_method_5_code (1 : Nat) (Option.some Jvm.ClassFile.FieldType.boolean), Jvm.Cond.code ({ cls := "com/example/tracelode/tracelode/log/XmlCharactersIsNameStartPinLaw", name := "ref", desc := "(I)Z" } : Jvm.MethodName) method_2_code (1 : Nat) (Option.some Jvm.ClassFile.FieldType.boolean)]
set_option maxRecDepth 65536 in
theorem codes_eq : words1.filter isCode = codes1 := rfl
theorem w_codes : ∀ c ∈ words1.filter isCode, c.before args0 about1 = true := by
  rw [codes_eq]
  intro c hc
  simp only [codes1, List.mem_cons, List.not_mem_nil, or_false] at hc
  rcases hc with rfl | rfl | rfl
  · exact w_c0
  · exact w_c1
  · exact w_c2
set_option maxRecDepth 65536 in
theorem w_t1 : (words1.take 24).all (fun c => isCode c || c.before args0 about1) = true := by decide +kernel
set_option maxRecDepth 65536 in
theorem w_t2 : (words1.drop 24).all (fun c => isCode c || c.before args0 about1) = true := by decide +kernel
theorem w_tables : (allAtoms (Jvm.Cond.code x code maxLocals ret :: tables_1)).before args0 about1 = true := by
  rw [allAtoms_all]
  show words1.all (fun c => c.before args0 about1) = true
  refine all_split ?_ w_codes
  rw [← List.take_append_drop 24 words1, List.all_append, w_t1, w_t2]
  rfl
set_option maxRecDepth 65536 in
theorem w_case : (Jvm.Cond.and given_1 narrow_1).before args0 about1 = true := by decide +kernel
theorem w_applies : (headSpec (Jvm.Cond.code x code maxLocals ret :: tables_1) room_1).applies x e0.platform about1 = true :=
  (Spec.applies_iff w_frames).mpr ⟨w_running, w_runnable, w_alone, w_named, w_hears, w_ripe, w_room, w_tables⟩
theorem atStart : AtStart classFile x code maxLocals ret World_1 tables_1 room_1 Calls_1 rest_1 Pre_1 launch0 p0 e0 about1 theMethod args0 below0 :=
  ⟨lists_1, trivial, launch0.admits_env _ _ _, launch0.least_env, fairChoices_fair.cas, fairChoices_fair.clock, w_frames, w_args, w_heap, w_applies, trivial, trivial, w_case⟩
end start1
theorem witness_1 : WitnessClaimed_1 := ⟨start1.p0, start1.e0, start1.about1, start1.theMethod, start1.args0, start1.below0, start1.atStart⟩
end Jvm.Pilot.@@N@@
